import PyProof.Rows.All
import Wide.All
import OpenK.AllK
import Wide.FinOn
import PySem.Challenge.RW_yi0062_01
set_option Elab.async false
section
open PySem PySem.W PySem.Calls PyProof.Rows
set_option maxRecDepth 100000
namespace Mine62
abbrev P62 : Program := PySem.Challenge.rw_yi0062_01.row.toRowW.prog
def view62 : Program := view PySem.Challenge.rw_yi0062_01.row.toRowW.prog [0, 2, 3, 5, 6, 7, 9, 10, 11, 12, 13, 14]
def env62 : Env := { scope := P62.main.scope, locals := mainNs, globals := mainNs, cells := [], code := Value.ref 13, frame := some 14 }
abbrev cd62 : Code := .body (behindTheImports P62) env62
abbrev ps0 : Pos := { line := 0, col := 0, endLine := 0, endCol := 0 }
abbrev psE : Pos := { line := 305, col := 0, endLine := 366, endCol := 48 }
abbrev an62 : Option Value := some (.ref 6)
noncomputable def s0 (w : World) (os : OsState) : Shared := ⟨boot_heap w.params, #[], boot_drawn, boot_toks, os⟩
noncomputable def sa (w : World) (os : OsState) : Shared := ((topGo treeTable P62 w 11 an62 12 (s0 w os) (topStub P62)).map (·.1)).getD (s0 w os)
def asT (s : Shared) : SharedT := ⟨(s.heap.objs.toList.foldl (fun x o => (x.1.ins x.2 o, x.2 + 1)) (BT.nil, 0)).1, s.heap.objs.size, s.heap.life, s.gens, s.drawn, s.toks, s.os⟩
noncomputable def sb (w : World) (os : OsState) : Shared := ((segRun treeTable P62 w 11 an62 1 2 (sa w os) (blockOf (behindTheImports P62) env62 cd62 ps0 [topFrame ps0])).map (·.2.1)).getD (s0 w os)
theorem t_open : ∀ w : World, (fencedOpening treeTable P62 w 6468).map (fun s => (s.heap, s.gens, s.drawn, s.toks)) = some (boot_heap w.params, Array.mk [], boot_drawn, boot_toks) :=
  boot_open (by kernel_rfl) (by decide +kernel) (by intro s; kernel_rfl)
theorem t_pre (w : World) (os : OsState) : topGo treeTable P62 w 11 an62 12 (s0 w os) (topStub P62) = some (sa w os, ⟨denote treeTable cd62, cd62, ps0, [topFrame ps0]⟩) := by
  kernel_rfl
theorem t_block (w : World) (os : OsState) : segRun treeTable P62 w 11 an62 1 2 (sa w os) (blockOf (behindTheImports P62) env62 cd62 ps0 [topFrame ps0]) = some (.next, (asT (sb w os)).abs, cd62, ps0) := by
  kernel_rfl
theorem t_end (w : World) (s : Shared) : topRun treeTable P62 w 11 an62 3 s ⟨doneF .next, cd62, psE, [topFrame ps0]⟩ = some s := by
  kernel_rfl
theorem t_size (w : World) : ((boot_heap w.params).isNs mainGlobals && (Array.mk [] : Array GenState).size == 0, (boot_heap w.params).objs.size, (boot_heap w.params).nsMap mainGlobals "__annotations__") = (true, 11, an62) := by
  kernel_rfl
theorem top_of {p : Program} {w : World} {N m₀ : Nat} {ann : Option Value} {s s' : Shared} (z : (s.heap.isNs mainGlobals && s.gens.size == 0) = true) (zm : s.heap.objs.size = m₀) (za : s.heap.nsMap mainGlobals "__annotations__" = ann)
    (hr : topRun treeTable p w m₀ ann N s (topStub p) = some s') (hl : (staticsOk (importedModules p.main.body) s.heap s'.heap && namesBound p s'.heap && gensDone s' && laidKept s.heap s'.heap) = true) : topFrom treeTable p w N s = some s' := by
  subst zm za
  simp only [topFrom, z, hr, Option.bind_some, hl]
theorem left_of {p q : Program} {loose : List Str} {Xt : Shared → Bool} {α : Type} {Yf : Shared → α} {Ya : World → α} {N m₀ n₁ n₂ n₃ n₄ k₀ : Nat} {H₀ : Params → Heap} {gs₀ : Array GenState} {d₀ : Drawn} {ann : Option Value} {b : List Stmt} {env : Env} {pq p₀ p₁ p₂ : Pos}
    {Sa : World → OsState → Shared} {Sb : World → OsState → SharedT}
    (open_ : ∀ w : World, (fencedOpening treeTable p w N).map (fun s => (s.heap, s.gens, s.drawn, s.toks)) = some (H₀ w.params, gs₀, d₀, k₀))
    (size : ∀ w : World, ((H₀ w.params).isNs mainGlobals && gs₀.size == 0, (H₀ w.params).objs.size, (H₀ w.params).nsMap mainGlobals "__annotations__") = (true, m₀, ann))
    (pre : ∀ w os, topGo treeTable p w m₀ ann n₁ ⟨H₀ w.params, gs₀, d₀, k₀, os⟩ (topStub p) = some (Sa w os, ⟨denote treeTable (.body b env), .body b env, p₀, [topFrame pq]⟩))
    (block : ∀ w os, segRun treeTable p w m₀ ann 1 n₂ (Sa w os) (blockOf b env (.body b env) p₀ [topFrame pq]) = some (.next, (Sb w os).abs, .body b env, p₁))
    (fin : ∀ w s, topRun treeTable p w m₀ ann n₄ s ⟨doneF .next, .body b env, p₂, [topFrame pq]⟩ = some s)
    (le : n₁ + (n₂ + (n₃ + n₄)) ≤ N)
    (main : ∀ (w : World) (os : OsState), (segRunT treeTable p w m₀ ann 1 n₃ (Sb w os) (piecesOf b env (.body b env) p₁ [topFrame pq])).map (fun r => (r.1, r.2.2.1, r.2.2.2,
        staticsOk (importedModules p.main.body) (H₀ w.params) r.2.1.abs.heap && namesBound p r.2.1.abs.heap && gensDone r.2.1.abs && laidKept (H₀ w.params) r.2.1.abs.heap,
        openSeen q loose (importedModules p.main.body) Xt true r.2.1.abs)) = some (.next, .body b env, p₂, true, openGood q loose))
    (part : ∀ (w : World) (os : OsState), (segRunT treeTable p w m₀ ann 1 n₃ (Sb w os) (piecesOf b env (.body b env) p₁ [topFrame pq])).map (fun r => Yf r.2.1.abs) = some (Ya w)) : LeftO p q loose Xt Yf Ya N := fun w => by
  obtain ⟨⟨h, gs, d, k, os⟩, e, e'⟩ := Option.map_eq_some_iff.mp (open_ w)
  obtain ⟨rfl, rfl, rfl, rfl⟩ : h = H₀ w.params ∧ gs = gs₀ ∧ d = d₀ ∧ k = k₀ := by simpa using e'
  obtain ⟨⟨f, s', c, ps⟩, hr, hm⟩ := Option.map_eq_some_iff.mp (main w os)
  obtain ⟨rfl, rfl, rfl, l1, l2⟩ : f = .next ∧ c = .body b env ∧ ps = p₂ ∧ _ ∧ _ := by simpa only [Prod.mk.injEq] using hm
  have l3 : Yf s'.abs = Ya w := by
    have hp := part w os
    rw [hr] at hp
    exact Option.some.inj hp
  obtain ⟨z1, z2, z3⟩ : _ ∧ _ ∧ _ := by simpa only [Prod.mk.injEq] using size w
  have r1 := piece_app (segRun_of hr) (piece_nil (env := env) (fin w s'.abs))
  rw [List.append_nil] at r1
  have r3 := topRun_mono (N - (n₁ + (n₂ + (n₃ + n₄)))) _ _ _ _ (go_top (pre w os) (piece_block (block w os) r1))
  rw [show n₁ + (n₂ + (n₃ + n₄)) + (N - (n₁ + (n₂ + (n₃ + n₄)))) = N by omega] at r3
  have t := top_of z1 z2 z3 r3 l1
  simp only [openEnds, e, Option.bind_some, t, Option.map_some, l2, l3]
abbrev lo62 : List Str := [Str.ofString "PolynomialRing", Str.ofString "PolynomialNTT"]
theorem said62 : PySem.Challenge.rw_yi0062_01.wellSaid = true := by
  rw [Fast.te9446332074065402090]
  kernel_rfl
local macro_rules | `(tactic| o_law) => `(tactic| refine holds_law said62 fun said => ?_)
theorem t_main (w : World) (os : OsState) : (segRunT treeTable P62 w 11 an62 1 6000 (asT (sb w os)) (piecesOf (behindTheImports P62) env62 cd62 ps0 [topFrame ps0])).map (fun r => (r.1, r.2.2.1, r.2.2.2,
        staticsOk (importedModules P62.main.body) (boot_heap w.params) r.2.1.abs.heap && namesBound P62 r.2.1.abs.heap && gensDone r.2.1.abs && laidKept (boot_heap w.params) r.2.1.abs.heap,
        openSeen view62 lo62 (importedModules P62.main.body) (fun s => xlAt view62 [] s && recOk (RowW.records PySem.Challenge.rw_yi0062_01.row.toRowW) s) true r.2.1.abs)) = some (.next, cd62, psE, true, openGood view62 lo62) := by
  rw [Fast.te10110043849684766642, Fast.te14364793385576792824, Fast.te4187177175401517315]
  kernel_rfl
local macro_rules | `(tactic| o_head $H) => `(tactic| (
  refine holds_open (q := view62) (loose := lo62) (Xt := fun s => xlAt view62 [] s && recOk (RowW.records PySem.Challenge.rw_yi0062_01.row.toRowW) s) (XP := XL view62 []) (Yf := Hook.obs $H) (Ya := Hook.val $H) (YP := Hook.says $H) (N := 6468) ?hl (Hook.of $H) (Hook.keeps $H) (fun s e => xl_of s (Bool.and_eq_true_iff.mp e).1) XL.keeps (by rfl) (by rfl) (by rfl) (fun s e => recFacts_of (Bool.and_eq_true_iff.mp e).2) (by rfl) (by first | assumption | decide +kernel) (by decide +kernel) ⟨rfl, rfl, rfl, rfl, rfl, by decide +kernel⟩ ?hw ?hc
  case hl =>
    refine left_of t_open t_size t_pre t_block t_end (by decide) t_main (fun w os => ?_)
    rw [Fast.te10110043849684766642, Fast.te14364793385576792824]
    kernel_rfl))
set_option maxHeartbeats 8000000 in
open_top hd for PySem.Challenge.rw_yi0062_01
end Mine62
end
section
open PySem PySem.W PyProof.Rows PySem.Calls
namespace Mine62
def Stop (P : Prop) : Prop := P
theorem Stop.of {P : Prop} (h : Stop P) : P := h
theorem Stop.out {P : Prop} (h : P) : Stop P := h
abbrev ent (w : World) (n : Str) (t : Tok) (v : Value) : DictEntry := ⟨PyData.keyHash w.params n, .str n t, v⟩
end Mine62
end
section
open PySem PySem.W PyProof.Rows PySem.Calls PyProof.V PySem.Spec
namespace Mine62
theorem under_make (dp un : Nat) (gd : Option (List Code)) (cn : Str) (cs : Scope) (L a : Addr) (ccd : Value) (cl : List (Str × Addr)) (outer : List Env) (C : Addr) (as : List Value) (kw : List (Str × Value)) :
  (ktrTop dp un gd cn cs L a ccd cl outer).under (Code.builtin "type.__call__" ⟨.ref C :: as, kw⟩) = ktrTop (dp + 1) (un + 1) gd cn cs L a ccd cl outer := by
  have h1 : (Code.builtin "type.__call__" ⟨.ref C :: as, kw⟩).weight = 1 := by rfl
  have h2 : (Code.builtin "type.__call__" ⟨.ref C :: as, kw⟩).envs = [] := by rfl
  have h3 : (Code.builtin "type.__call__" ⟨.ref C :: as, kw⟩).guards = [] := by rfl
  have h4 : (Code.builtin "type.__call__" ⟨.ref C :: as, kw⟩).cUnits = 1 := by rfl
  simp only [Around.under, h1, h2, h3, h4]
  rfl

section
variable {prog : Program} {w : World} {A : Around} {E : Value → Shared → Prop} {s : Shared} {env : Env} {h₀ : Heap} {x : Str} {body : List Stmt} {Q : Flow → Shared → Prop}

/-- the frame between the turns: the loop's own name, forgotten names, all else as it stood -/
def fr1 (x : Str) (v : Option Value) (st : List Str) (u m₀ : Str → Option Value) : Str → Option Value :=
  fun y => if y = x then v else if st.contains y then u y else m₀ y
theorem fr1_eq {x : Str} {v : Option Value} {st : List Str} {m₁ m₀ : Str → Option Value} (h : ∀ z, z ≠ x → st.contains z = false → m₁ z = m₀ z) :
    (fun y => if y = x then v else m₁ y) = fr1 x v st m₁ m₀ := by
  funext y
  unfold fr1
  by_cases h1 : y = x
  · simp [h1]
  · simp only [if_neg h1]
    cases h2 : st.contains y with
    | true => simp
    | false => simp only [Bool.false_eq_true, if_false]; exact h y h1 h2

theorem fr1_off {x z : Str} {v : Option Value} {st : List Str} {u m₀ : Str → Option Value} (h1 : z ≠ x) (h2 : st.contains z = false) : fr1 x v st u m₀ z = m₀ z := by
  unfold fr1; rw [if_neg h1, h2]; rfl
theorem kstB_off {rest : Str → Option Value} {z : Str} : ∀ {ps : List (Str × Value)}, (∀ p ∈ ps, z ≠ p.1) → kstB rest ps z = rest z
  | [], _ => rfl
  | p :: r, h => (if_neg (h p (.head _))).trans (kstB_off fun q hq => h q (.tail _ hq))
theorem kstS_off {u m₀ : Str → Option Value} {z : Str} {ps : List (Str × Value)} {st : List Str} (h1 : ∀ p ∈ ps, z ≠ p.1) (h2 : st.contains z = false) : kstB (fun z => if st.contains z then u z else m₀ z) ps z = m₀ z := by
  rw [kstB_off h1, h2]; rfl
theorem kst2_off {u m₀ : Str → Option Value} {z a b : Str} {va vb va' vb' : Value} {st : List Str} (h1 : ∀ p ∈ [(a, va), (b, vb)], z ≠ p.1) (h2 : st.contains z = false) : kstB (fun z => if st.contains z then u z else m₀ z) [(a, va'), (b, vb')] z = m₀ z :=
  kstS_off (fun p hp => by
    rcases List.mem_cons.mp hp with rfl | hp
    · exact h1 (a, va) (.head _)
    · rw [List.mem_singleton.mp hp]; exact h1 (b, vb) (.tail _ (.head _))) h2
theorem st_ne {z a : Str} {st : List Str} (h : st.contains z = false) (ha : a ∈ st) : z ≠ a := by
  rintro rfl
  rw [List.contains_iff_mem.mpr ha] at h
  cases h
theorem st_of {z : Str} {st : List Str} (h : ∀ a ∈ st, z ≠ a) : st.contains z = false := by
  cases e : st.contains z with
  | false => rfl
  | true => exact absurd rfl (h z (List.contains_iff_mem.mp e))
def FlEnd (h₀ : Heap) (L : Addr) (lc : Addr) (nc : Nat) (tail : List (Addr × Obj)) (x : Str) (k : Int) (st : List Str) (m₀ : Str → Option Value) (own : List (Addr × Obj)) (cs' : List Int) (s₁ s₂ : Shared) : Prop :=
  ∃ h' tk m' news' vs' t', s₂ = { s₁ with heap := h', toks := tk } ∧ Fr h₀ L h' m' ∧ News h₀ L h' news' ∧ (lc, listOf vs'.toArray nc) ∈ news' ∧ (∀ p ∈ tail, p ∈ news') ∧ (∀ p ∈ own, p ∈ news') ∧
    IntsAre vs' cs' ∧ m' x = some (.int k t') ∧ ∀ z, z ≠ x → st.contains z = false → m' z = m₀ z
def FlPost (h₀ : Heap) (L : Addr) (lc : Addr) (nc : Nat) (tail : List (Addr × Obj)) (x : Str) (k : Int) (st : List Str) (m₀ : Str → Option Value) (own : List (Addr × Obj)) (cs' : List Int) (s₁ : Shared) (Q : Flow → Shared → Prop) (f : Flow) (s₂ : Shared) : Prop :=
  match f with
  | .ret v => Q (.ret v) s₂
  | .brk => Q .next s₂
  | _ => FlEnd h₀ L lc nc tail x k st m₀ own cs' s₁ s₂

/-- for x in range(a, a + n), n > 0: one list of ints of the ledger turns -/
theorem for_list {r lc : Addr} {a₀ b₀ : Int} {t₀ u₀ v₀ : Tok} {nc : Nat} {tail news : List (Addr × Obj)} {m₀ : Str → Option Value} {vs : List Value} {cs : List Int} (st : List Str) (g : List Int → Int → List Int) (n : Nat)
    (hh : A.handled = none) (hr : IsRange s.heap r a₀ b₀ 1 t₀ u₀ v₀) (hsmall : Builtin.Range.small a₀ b₀ 1 = true) (hn : b₀ = a₀ + n) (hn0 : 0 < n) (F : Fr h₀ env.locals s.heap m₀) (N : News h₀ env.locals s.heap news) (hN : ∀ p ∈ (lc, listOf vs.toArray nc) :: tail, p ∈ news) (hi : IntsAre vs cs)
    (turn : ∀ k t vs cs' u h tk own, k ∈ rangeKs a₀ n → OwnOff own (lc :: tail.map (·.1)) → IntsAre vs cs' → (∃ pre : List Int, cs' = pre.foldl g cs) → Fr h₀ env.locals h (fr1 x (some (.int k t)) st u m₀) → News h₀ env.locals h ((lc, listOf vs.toArray nc) :: (tail ++ own)) →
      wpAny (model prog w) A (execs body env) (FlPost h₀ env.locals lc nc tail x k st m₀ own (g cs' k) { s with heap := h, toks := tk } Q) E { s with heap := h, toks := tk })
    (done : ∀ vs t u h tk, IntsAre vs ((rangeKs a₀ n).foldl g cs) → Fr h₀ env.locals h (fr1 x (some (.int (a₀ + n - 1) t)) st u m₀) → News h₀ env.locals h ((lc, listOf vs.toArray nc) :: tail) → Q .next { s with heap := h, toks := tk }) :
    wpAny (model prog w) A (pyIter (.ref r)) (fun it s₂ => LoopAtV prog w A h₀ env x body Q E it s₂) E s := by
  have hsz : Builtin.Range.rangeSize a₀ b₀ 1 = (n : Int) := by rw [rangeSize_nat, hn]; omega
  let R : (List Int × Option Int) → (Str → Option Value) → List (Addr × Obj) → Prop := fun c m nx =>
    ∃ vs, nx = (lc, listOf vs.toArray nc) :: tail ∧ IntsAre vs c.1 ∧ (∃ pre, c.1 = List.foldl g cs pre) ∧ (∀ j, c.2 = some j → ∃ t, m x = some (.int j t)) ∧ ∀ z, z ≠ x → st.contains z = false → m z = m₀ z
  refine iter_rangeS (n := n) R (fun c k => (g c.1 k, some k)) (cs, none) hh hr hsmall hsz F (fun p hp => N p (hN p hp)) ⟨vs, rfl, hi, ⟨[], rfl⟩, fun _ h => (nomatch h), fun _ _ _ => rfl⟩ ?_ ?_
  · rintro k t ⟨c, jo⟩ m₁ nx h tk own hk hoff ⟨vs', rfl, hi', ⟨pre, hpre⟩, _, hm⟩ F₁ N₁
    rw [fr1_eq (st := st) hm] at F₁
    refine wpAny_mono (turn k t vs' c m₁ h tk own hk (by simpa using hoff) hi' ⟨pre, hpre⟩ F₁ (by simpa using N₁)) (fun f s₂ p => ?_) fun _ _ e => e
    have fin : FlEnd h₀ env.locals lc nc tail x k st m₀ own (g c k) { s with heap := h, toks := tk } s₂ → InvEndN h₀ env.locals (R (g c k, some k)) own (((lc, listOf vs.toArray nc) :: tail).map (·.1)) { s with heap := h, toks := tk } s₂ := by
      rintro ⟨h', tk', m', news', vs2, t', e, F', N', h1, h2, h3, h4, h5, h6⟩
      refine ⟨h', tk', m', news', (lc, listOf vs2.toArray nc) :: tail, e, F', N', ?_, h3, by simp, vs2, rfl, h4, ⟨pre ++ [k], by rw [List.foldl_append, ← hpre]; rfl⟩, fun j hj => ?_, h6⟩
      · intro p hp
        rcases List.mem_cons.mp hp with rfl | hp
        · exact h1
        · exact h2 p hp
      · cases hj; exact ⟨t', h5⟩
    cases f with
    | ret v => exact p
    | brk => exact p
    | next => exact fin p
    | cont => exact fin p
  · rintro m₁ nx h tk ⟨vs', rfl, hi', _, hj, hm⟩ F₁ N₁
    have e : (rangeKs a₀ n).foldl (fun (c : List Int × Option Int) k => (g c.1 k, some k)) (cs, none) = ((rangeKs a₀ n).foldl g cs, some (a₀ + n - 1)) := by
      have aux : ∀ (ks : List Int) (c : List Int × Option Int), ks.foldl (fun (c : List Int × Option Int) k => (g c.1 k, some k)) c = (ks.foldl g c.1, (ks.getLast?).or c.2) := by
        intro ks
        induction ks with
        | nil => intro c; simp
        | cons k r ih =>
          intro c
          rw [List.foldl_cons, ih, List.foldl_cons]
          cases r with
          | nil => simp
          | cons a r =>
            rw [List.getLast?_cons_cons]
            cases hq : (a :: r).getLast? with
            | none => simp at hq
            | some v => simp
      rw [aux]
      obtain ⟨n', rfl⟩ : ∃ n', n = n' + 1 := ⟨n - 1, by omega⟩
      simp [rangeKs, List.range_succ]
      omega
    rw [e] at hi' hj
    obtain ⟨t, ht⟩ := hj _ rfl
    have em : m₁ = fr1 x (some (.int (a₀ + n - 1) t)) st m₁ m₀ := by
      rw [← fr1_eq hm]
      funext y
      by_cases h1 : y = x
      · rw [if_pos h1, h1, ht]
      · rw [if_neg h1]
    rw [em] at F₁
    exact done vs' t m₁ h tk hi' F₁ N₁

def WlEnd {σ : Type} (h₀ : Heap) (L : Addr) (s : Shared) (Led : σ → List (Addr × Obj)) (ps : σ → List (Str × Value)) (Facts : σ → Prop) (stored : List Str) (m₀ : Str → Option Value) (μ : σ → Nat) (c : σ) (s₂ : Shared) : Prop :=
  ∃ (c' : σ) (h' : Heap) (tk : Nat) (m' : Str → Option Value) (news' : List (Addr × Obj)), s₂ = { s with heap := h', toks := tk } ∧ Fr h₀ L h' m' ∧ News h₀ L h' news' ∧ (∀ p ∈ Led c', p ∈ news') ∧ Facts c' ∧ (∀ p ∈ ps c', m' p.1 = some p.2) ∧ (∀ z, (∀ p ∈ ps c', z ≠ p.1) → stored.contains z = false → m' z = m₀ z) ∧ μ c' < μ c
def WlPost {σ : Type} (h₀ : Heap) (L : Addr) (s : Shared) (Led : σ → List (Addr × Obj)) (ps : σ → List (Str × Value)) (Facts : σ → Prop) (stored : List Str) (m₀ : Str → Option Value) (μ : σ → Nat) (Q : Flow → Shared → Prop) (c : σ) (f : Flow) (s₂ : Shared) : Prop :=
  match f with
  | .ret v => Q (.ret v) s₂
  | .brk => Q .next s₂
  | _ => WlEnd h₀ L s Led ps Facts stored m₀ μ c s₂
theorem WlEnd.intro {σ : Type} {h₀ : Heap} {L : Addr} {s : Shared} {Led : σ → List (Addr × Obj)} {ps : σ → List (Str × Value)} {Facts : σ → Prop} {stored : List Str} {m₀ : Str → Option Value} {μ : σ → Nat} {c : σ} {h' : Heap} {tk : Nat} {m' : Str → Option Value} {news' : List (Addr × Obj)} (c' : σ)
    (F : Fr h₀ L h' m') (N : News h₀ L h' news') (hn : ∀ p ∈ Led c', p ∈ news') (hf : Facts c') (hk : ∀ p ∈ ps c', m' p.1 = some p.2) (hr : ∀ z, (∀ p ∈ ps c', z ≠ p.1) → stored.contains z = false → m' z = m₀ z) (hm : μ c' < μ c) :
    WlEnd h₀ L s Led ps Facts stored m₀ μ c { s with heap := h', toks := tk } := ⟨c', h', tk, m', news', rfl, F, N, hn, hf, hk, hr, hm⟩
/-- a while, its state told by σ: the ledger, the names that turn, the facts; other stored names are forgotten -/
theorem while_st {σ : Type} {L : Addr} {test : PySem.Expr} {pos : Pos} {m₀ : Str → Option Value} (Led : σ → List (Addr × Obj)) (ps : σ → List (Str × Value)) (Facts : σ → Prop) (stored : List Str) (μ : σ → Nat) (c₀ : σ)
    (F : Fr h₀ L s.heap m₀) (N : News h₀ L s.heap (Led c₀)) (hf : Facts c₀) (hk : ∀ p ∈ ps c₀, m₀ p.1 = some p.2)
    (turn : ∀ (c : σ) (u : Str → Option Value) h tk, Facts c → Fr h₀ L h (kstB (fun z => if stored.contains z then u z else m₀ z) (ps c)) → News h₀ L h (Led c) →
      wpAny (model prog w) A (isTrue test env (eval test env)) (fun b s₂ =>
        if b = true then wpAny (model prog w) A (execs body env) (WlPost h₀ L s Led ps Facts stored m₀ μ Q c) E s₂ else Q .next s₂) E { s with heap := h, toks := tk })
    (hE : PassesOwn (model prog w) A env E := by passes_own) :
    wpAny (model prog w) A (exec (.While test body [] pos) env) Q E s := by
  refine While_inv2 (fun n m nx => ∃ c : σ, nx = Led c ∧ μ c = n ∧ Facts c ∧ (∀ p ∈ ps c, m p.1 = some p.2) ∧ ∀ z, (∀ p ∈ ps c, z ≠ p.1) → stored.contains z = false → m z = m₀ z) F N ⟨c₀, rfl, rfl, hf, hk, fun _ _ _ => rfl⟩ ?_ hE
  rintro n m₁ nx h tk F₁ N₁ ⟨c, rfl, rfl, hf', h1, h2⟩
  refine wpAny_mono (turn c m₁ h tk hf' (ksw_fr h1 h2 F₁) N₁) (fun b s₂ p => ?_) fun _ _ x => x
  cases b with
  | false => simpa using p
  | true =>
    simp only [if_true] at p ⊢
    refine wpAny_mono p (fun f s₃ q => ?_) fun _ _ x => x
    have up : WlEnd h₀ L s Led ps Facts stored m₀ μ c s₃ → WhileStep2 h₀ L s (fun n m nx => ∃ c : σ, nx = Led c ∧ μ c = n ∧ Facts c ∧ (∀ p ∈ ps c, m p.1 = some p.2) ∧ ∀ z, (∀ p ∈ ps c, z ≠ p.1) → stored.contains z = false → m z = m₀ z) Q (μ c) .next s₃ := by
      rintro ⟨c', h', tk', m', news', rfl, F', N', hn, hf9, hk9, hr9, hm9⟩
      exact ⟨h', tk', m', Led c', μ c', rfl, F', fun p hp => N' p (hn p hp), hm9, c', rfl, rfl, hf9, hk9, hr9⟩
    cases f with
    | ret v => exact q
    | brk => exact q
    | next => exact up q
    | cont => exact up q

/-- a comprehension by an invariant over the items made so far and the ledger -/
theorem comp_inv {L : Addr} {m : Str → Option Value} {elt : PySem.Expr} {scope : Scope} {cl : List (Str × Addr)} {S : List (Addr × Obj) → Prop} {P : Nat → Value → Prop} {Fin : List Value → List (Addr × Obj) → Prop} {news : List (Addr × Obj)} {n : Nat} (J : Nat → List Value → List (Addr × Obj) → Prop)
    (h0 : J 0 [] news)
    (turn : ∀ i ys nw v I oI C oC D m₂ h tk (E' : Value → Shared → Prop), i < n → J i ys nw → P i v → LCg.NsObj oC m₂ → m₂ x = some v → Fr h₀ L h m → News h₀ L h ((I, oI) :: (C, oC) :: (D, LCg.lst ys) :: nw) → LCg.Off3 I C D nw → ((@Ne Nat I C) ∧ (@Ne Nat I D) ∧ (@Ne Nat C D)) →
      wpAny (model prog w) A (eval elt (compEnvC scope cl C env)) (LCg.CompEnd h₀ L m { s with heap := h, toks := tk } I oI C oC D (LCg.lst ys) S (fun y nw' => J (i + 1) (ys ++ [y]) nw')) E' { s with heap := h, toks := tk })
    (fin : ∀ ys nw, J n ys nw → Fin ys nw) : LCg.CompRest prog w A h₀ L m env elt x scope cl s S P Fin n 0 [] news := by
  have key : ∀ (j i : Nat) (ys : List Value) (nw : List (Addr × Obj)), i + j = n → J i ys nw → LCg.CompRest prog w A h₀ L m env elt x scope cl s S P Fin j i ys nw := by
    intro j
    induction j with
    | zero =>
      intro i ys nw hi hy
      have e : i = n := by omega
      subst e
      exact LCg.CompRest.zero (fin ys nw hy)
    | succ j ih =>
      intro i ys nw hi hy
      refine LCg.CompRest.succ ?_
      intro v I oI C oC D m₂ h tk E' hv hC hx F N off ne
      refine wpAny_mono (turn i ys nw v I oI C oC D m₂ h tk E' (by omega) hy hv hC hx F N off ne) (fun y s₂ hq => ?_) fun _ _ e => e
      obtain ⟨h', tk', nw', e, F', N', off', hS, hr⟩ := hq
      exact ⟨h', tk', nw', e, F', N', off', hS, ih (i + 1) _ _ (by omega) hr⟩
  exact key n 0 [] news (by omega) h0

theorem comp_tl {L : Addr} {m : Str → Option Value} {elt : PySem.Expr} {scope : Scope} {cl : List (Str × Addr)} {S : List (Addr × Obj) → Prop} {P : Nat → Value → Prop} {Fin : List Value → List (Addr × Obj) → Prop} {news : List (Addr × Obj)} {n : Nat} (J : Nat → List Value → List (Addr × Obj) → Prop)
    (h0 : J 0 [] [])
    (turn : ∀ i ys tl v I oI C oC D m₂ h tk (E' : Value → Shared → Prop), i < n → J i ys tl → P i v → LCg.NsObj oC m₂ → m₂ x = some v → Fr h₀ L h m → News h₀ L h ((I, oI) :: (C, oC) :: (D, LCg.lst ys) :: (news ++ tl)) → LCg.Off3 I C D (news ++ tl) → ((@Ne Nat I C) ∧ (@Ne Nat I D) ∧ (@Ne Nat C D)) →
      wpAny (model prog w) A (eval elt (compEnvC scope cl C env)) (LCg.CompEnd h₀ L m { s with heap := h, toks := tk } I oI C oC D (LCg.lst ys) S (fun y nw' => ∃ tl', nw' = news ++ tl' ∧ J (i + 1) (ys ++ [y]) tl')) E' { s with heap := h, toks := tk })
    (fin : ∀ ys tl, J n ys tl → Fin ys (news ++ tl)) : LCg.CompRest prog w A h₀ L m env elt x scope cl s S P Fin n 0 [] news :=
  comp_inv (fun i ys nw => ∃ tl, nw = news ++ tl ∧ J i ys tl) ⟨[], by rw [List.append_nil], h0⟩
    (fun i ys nw v I oI C oC D m₂ h tk E' hi ⟨tl, e, hJ⟩ hv hC hx F N off ne => by subst e; exact turn i ys tl v I oI C oC D m₂ h tk E' hi hJ hv hC hx F N off ne)
    (fun ys nw ⟨tl, e, hJ⟩ => by subst e; exact fin ys tl hJ)

theorem comp_sub1 {q a b c : Addr × Obj} {X tl : List (Addr × Obj)} : ∀ p ∈ a :: b :: c :: (X ++ (q :: tl)), p ∈ q :: a :: b :: c :: (X ++ tl) := by
  intro p hp
  simp only [List.mem_cons, List.mem_append] at hp ⊢
  rcases hp with h | h | h | h | h | h <;> simp [h]
theorem comp_end1 {L I C D : Addr} {m : Str → Option Value} {s₁ : Shared} {oI oC oD : Obj} {S : List (Addr × Obj) → Prop} {J : Value → List (Addr × Obj) → Prop} {y : Value} {h' : Heap} {tk : Nat} {X tl : List (Addr × Obj)} {q : Addr × Obj}
    (F : Fr h₀ L h' m) (N : News h₀ L h' (q :: (I, oI) :: (C, oC) :: (D, oD) :: (X ++ tl))) (off : LCg.Off3 I C D (X ++ tl)) (n1 : @Ne Nat q.1 I) (n2 : @Ne Nat q.1 C) (n3 : @Ne Nat q.1 D) (hS : S (X ++ (q :: tl))) (r : J y (q :: tl)) :
    LCg.CompEnd h₀ L m s₁ I oI C oC D oD S (fun y nw' => ∃ tl', nw' = X ++ tl' ∧ J y tl') y { s₁ with heap := h', toks := tk } :=
  LCg.CompEnd.intro F N (X ++ (q :: tl)) comp_sub1 (LCg.Off3.of fun p hp => by
    rcases List.mem_append.mp hp with h | h
    · exact off.mem p (List.mem_append.mpr (.inl h))
    · rcases List.mem_cons.mp h with rfl | h
      · exact ⟨n1, n2, n3⟩
      · exact off.mem p (List.mem_append.mpr (.inr h))) hS ⟨q :: tl, rfl, r⟩

/-- a comprehension of ints: nothing is kept but its list -/
theorem comp_ints {L : Addr} {m : Str → Option Value} {elt : PySem.Expr} {scope : Scope} {cl : List (Str × Addr)} {S : List (Addr × Obj) → Prop} {P : Nat → Value → Prop} {Fin : List Value → List (Addr × Obj) → Prop} {news : List (Addr × Obj)} {n : Nat} (g : Nat → Int)
    (turn : ∀ i ys v I oI C oC D m₂ h tk (E' : Value → Shared → Prop), i < n → P i v → LCg.NsObj oC m₂ → m₂ x = some v → Fr h₀ L h m → News h₀ L h ((I, oI) :: (C, oC) :: (D, LCg.lst ys) :: news) → LCg.Off3 I C D news → ((@Ne Nat I C) ∧ (@Ne Nat I D) ∧ (@Ne Nat C D)) →
      wpAny (model prog w) A (eval elt (compEnvC scope cl C env)) (LCg.CompEnd h₀ L m { s with heap := h, toks := tk } I oI C oC D (LCg.lst ys) S (fun y nw' => nw' = news ∧ ∃ t, y = .int (g i) t)) E' { s with heap := h, toks := tk })
    (fin : ∀ ys, IntsAre ys ((List.range n).map g) → Fin ys news) : LCg.CompRest prog w A h₀ L m env elt x scope cl s S P Fin n 0 [] news :=
  comp_inv (fun i ys nw => nw = news ∧ IntsAre ys ((List.range i).map g)) ⟨rfl, .nil⟩
    (fun i ys nw v I oI C oC D m₂ h tk E' hi ⟨e, hJ⟩ hv hC hx F N off ne => by
      subst e
      refine wpAny_mono (turn i ys v I oI C oC D m₂ h tk E' hi hv hC hx F N off ne) (fun y s₂ hq => ?_) fun _ _ e => e
      obtain ⟨h', tk', nw', e, F', N', off', hS, hr, t, hy⟩ := hq
      refine ⟨h', tk', nw', e, F', N', off', hS, hr, ?_⟩
      rw [List.range_succ, List.map_append, hy]
      exact hJ.append (.cons _ t .nil))
    (fun ys nw ⟨e, hJ⟩ => by subst e; exact fin ys hJ)
theorem comp_end0 {L I C D : Addr} {m : Str → Option Value} {s₁ : Shared} {oI oC oD : Obj} {S : List (Addr × Obj) → Prop} {g : Int} {t : Tok} {h' : Heap} {tk : Nat} {X all : List (Addr × Obj)}
    (F : Fr h₀ L h' m) (N : News h₀ L h' all) (sub : ∀ p ∈ (I, oI) :: (C, oC) :: (D, oD) :: X, p ∈ all) (off : LCg.Off3 I C D X) (hS : S X) :
    LCg.CompEnd h₀ L m s₁ I oI C oC D oD S (fun y nw' => nw' = X ∧ ∃ t, y = .int g t) (.int g t) { s₁ with heap := h', toks := tk } :=
  LCg.CompEnd.intro F N X sub off hS ⟨rfl, t, rfl⟩

def FnEnd (h₀ : Heap) (L : Addr) (lc : Addr) (tail : List (Addr × Obj)) (x : Str) (st : List Str) (m₀ : Str → Option Value) (own : List (Addr × Obj)) (cs' : List Int) (s₁ s₂ : Shared) : Prop :=
  ∃ h' tk m' news' vs' nc', s₂ = { s₁ with heap := h', toks := tk } ∧ Fr h₀ L h' m' ∧ News h₀ L h' news' ∧ (lc, listOf vs'.toArray nc') ∈ news' ∧ (∀ p ∈ tail, p ∈ news') ∧ (∀ p ∈ own, p ∈ news') ∧
    IntsAre vs' cs' ∧ ∀ z, z ≠ x → st.contains z = false → m' z = m₀ z
def FnPost (h₀ : Heap) (L : Addr) (lc : Addr) (tail : List (Addr × Obj)) (x : Str) (st : List Str) (m₀ : Str → Option Value) (own : List (Addr × Obj)) (cs' : List Int) (s₁ : Shared) (Q : Flow → Shared → Prop) (f : Flow) (s₂ : Shared) : Prop :=
  match f with
  | .ret v => Q (.ret v) s₂
  | .brk => Q .next s₂
  | _ => FnEnd h₀ L lc tail x st m₀ own cs' s₁ s₂
/-- for x in a list of ints of the ledger: another list of ints of the ledger turns -/
theorem for_ints {l lc : Addr} {vsL : List Value} {nsL : List Int} {nl nc : Nat} {tail news : List (Addr × Obj)} {m₀ : Str → Option Value} {vs : List Value} {cs : List Int} (st : List Str) (g : List Int → Int → List Int)
    (hh : A.handled = none) (hl : (l, listOf vsL.toArray nl) ∈ tail) (hiL : IntsAre vsL nsL) (F : Fr h₀ env.locals s.heap m₀) (N : News h₀ env.locals s.heap news) (hN : ∀ p ∈ (lc, listOf vs.toArray nc) :: tail, p ∈ news) (hi : IntsAre vs cs)
    (turn : ∀ k t vs nc cs' u h tk own, k ∈ nsL → OwnOff own (lc :: tail.map (·.1)) → IntsAre vs cs' → (∃ pre : List Int, pre.length ≤ nsL.length ∧ cs' = pre.foldl g cs) → Fr h₀ env.locals h (fr1 x (some (.int k t)) st u m₀) → News h₀ env.locals h ((lc, listOf vs.toArray nc) :: (tail ++ own)) →
      wpAny (model prog w) A (execs body env) (FnPost h₀ env.locals lc tail x st m₀ own (g cs' k) { s with heap := h, toks := tk } Q) E { s with heap := h, toks := tk })
    (done : ∀ vs nc u h tk, IntsAre vs (nsL.foldl g cs) → Fr h₀ env.locals h (fr1 x (u x) st u m₀) → News h₀ env.locals h ((lc, listOf vs.toArray nc) :: tail) → Q .next { s with heap := h, toks := tk }) :
    wpAny (model prog w) A (pyIter (.ref l)) (fun it s₂ => LoopAtV prog w A h₀ env x body Q E it s₂) E s := by
  let J : Nat → (Str → Option Value) → List (Addr × Obj) → Prop := fun i m nx =>
    ∃ vs nc, nx = (lc, listOf vs.toArray nc) :: tail ∧ IntsAre vs ((nsL.take i).foldl g cs) ∧ ∀ z, z ≠ x → st.contains z = false → m z = m₀ z
  have N0 : News h₀ env.locals s.heap ((lc, listOf vs.toArray nc) :: tail) := fun p hp => N p (hN p hp)
  refine iter_invNL J hh (.tail _ hl) hiL F N0 ⟨vs, nc, rfl, by simpa using hi, fun _ _ _ => rfl⟩ ?_ ?_
  · rintro i k t m₁ nx h tk own hk _ hoff _ ⟨vs', nc', rfl, hi', hm⟩ F₁ N₁
    rw [fr1_eq (st := st) hm] at F₁
    have hs : (nsL.take (i + 1)).foldl g cs = g ((nsL.take i).foldl g cs) k := by
      rw [List.take_add_one, hk]; simp
    refine wpAny_mono (turn k t vs' nc' _ m₁ h tk own (List.mem_of_getElem? hk) (by simpa using hoff) hi' ⟨_, List.length_take_le' _ _, rfl⟩ F₁ (by simpa using N₁)) (fun f s₂ p => ?_) fun _ _ e => e
    have fin : FnEnd h₀ env.locals lc tail x st m₀ own (g ((nsL.take i).foldl g cs) k) { s with heap := h, toks := tk } s₂ → InvEndN h₀ env.locals (fun m' nx => (l, listOf vsL.toArray nl) ∈ nx ∧ J (i + 1) m' nx) own (((lc, listOf vs.toArray nc) :: tail).map (·.1)) { s with heap := h, toks := tk } s₂ := by
      rintro ⟨h', tk', m', news', vs2, nc2, e, F', N', h1, h2, h3, h4, h6⟩
      refine ⟨h', tk', m', news', (lc, listOf vs2.toArray nc2) :: tail, e, F', N', ?_, h3, by simp, .tail _ hl, vs2, nc2, rfl, by rw [hs]; exact h4, h6⟩
      intro p hp
      rcases List.mem_cons.mp hp with rfl | hp
      · exact h1
      · exact h2 p hp
    cases f with
    | ret v => exact p
    | brk => exact p
    | next => exact fin p
    | cont => exact fin p
  · rintro m₁ nx h tk _ ⟨vs', nc', rfl, hi', hm⟩ F₁ N₁
    rw [List.take_length] at hi'
    have em : m₁ = fr1 x (m₁ x) st m₁ m₀ := by
      rw [← fr1_eq hm]
      funext y
      by_cases h1 : y = x
      · rw [if_pos h1, h1]
      · rw [if_neg h1]
    rw [em] at F₁
    exact done vs' nc' m₁ h tk hi' F₁ N₁

def frY (x : Str) (v : Option Value) (y : Str) (r : Option Value) (st : List Str) (u m₀ : Str → Option Value) : Str → Option Value :=
  fun z => if z = x then v else if z = y then r else if st.contains z then u z else m₀ z
theorem frY_off {x y z : Str} {v r : Option Value} {st : List Str} {u m₀ : Str → Option Value} (h1 : z ≠ y) (h2 : st.contains z = false) (hx : x ∈ st) : frY x v y r st u m₀ z = m₀ z := by
  unfold frY; rw [if_neg (st_ne h2 hx), if_neg h1, h2]; rfl
def GrEnd (h₀ : Heap) (L : Addr) (I : Addr) (it : Obj) (base : List (Addr × Obj)) (y : Str) (st : List Str) (m₀ : Str → Option Value) (cs' : List Int) (s₁ s₂ : Shared) : Prop :=
  ∃ h' tk m' news' rl vs' nn, s₂ = { s₁ with heap := h', toks := tk } ∧ Fr h₀ L h' m' ∧ News h₀ L h' news' ∧ (I, it) ∈ news' ∧ (rl, listOf vs'.toArray nn) ∈ news' ∧ (∀ p ∈ base, p ∈ news') ∧ @Ne Nat rl I ∧
    IntsAre vs' cs' ∧ m' y = some (.ref rl) ∧ ∀ z, z ≠ y → st.contains z = false → m' z = m₀ z
def GrPost (h₀ : Heap) (L : Addr) (I : Addr) (it : Obj) (base : List (Addr × Obj)) (y : Str) (st : List Str) (m₀ : Str → Option Value) (cs' : List Int) (s₁ : Shared) (Q : Flow → Shared → Prop) (f : Flow) (s₂ : Shared) : Prop :=
  match f with
  | .ret v => Q (.ret v) s₂
  | .brk => Q .next s₂
  | _ => GrEnd h₀ L I it base y st m₀ cs' s₁ s₂
/-- for x in range(n): the name y holds a list of ints, a new one at each turn -/
theorem for_grow {r rl : Addr} {a₀ b₀ : Int} {t₀ u₀ v₀ : Tok} {nn : Nat} {base : List (Addr × Obj)} {m₀ : Str → Option Value} {vs : List Value} (y : Str) (st : List Str) (G : Nat → List Int) (n : Nat) (hx : x ∈ st)
    (hh : A.handled = none) (hr : IsRange s.heap r a₀ b₀ 1 t₀ u₀ v₀) (hsmall : Builtin.Range.small a₀ b₀ 1 = true) (hn : b₀ = a₀ + n) (F : Fr h₀ env.locals s.heap m₀) (N : News h₀ env.locals s.heap ((rl, listOf vs.toArray nn) :: base)) (hi : IntsAre vs (G 0)) (hy : m₀ y = some (.ref rl)) (hyx : y ≠ x)
    (turn : ∀ i t rl vs nn u h tk I it, i < n → (∀ p ∈ base, p.1 < I) → @Ne Nat rl I → IntsAre vs (G i) → Fr h₀ env.locals h (frY x (some (.int (a₀ + (i : Int)) t)) y (some (.ref rl)) st u m₀) → News h₀ env.locals h ((I, it) :: (rl, listOf vs.toArray nn) :: base) →
      wpAny (model prog w) A (execs body env) (GrPost h₀ env.locals I it base y st m₀ (G (i + 1)) { s with heap := h, toks := tk } Q) E { s with heap := h, toks := tk })
    (done : ∀ rl vs nn u h tk, IntsAre vs (G n) → Fr h₀ env.locals h (frY x (u x) y (some (.ref rl)) st u m₀) → News h₀ env.locals h ((rl, listOf vs.toArray nn) :: base) → Q .next { s with heap := h, toks := tk }) :
    wpAny (model prog w) A (pyIter (.ref r)) (fun it s₂ => LoopAtV prog w A h₀ env x body Q E it s₂) E s := by
  have hsz : Builtin.Range.rangeSize a₀ b₀ 1 = (n : Int) := by rw [rangeSize_nat, hn]; omega
  refine iter_rangeUnr (n := n) hh hr hsmall hsz F N fun I hI => ?_
  have hIb : ∀ p ∈ base, p.1 < I := fun p hp => hI p (.tail _ hp)
  have key : ∀ (k i : Nat) (m : Str → Option Value) (nw : List (Addr × Obj)), i + k = n → (∃ rl vs nn, nw = (rl, listOf vs.toArray nn) :: base ∧ @Ne Nat rl I ∧ IntsAre vs (G i) ∧ m y = some (.ref rl) ∧ ∀ z, z ≠ y → st.contains z = false → m z = m₀ z) →
      RangeRest prog w A E h₀ env x body Q s I a₀ n k i m nw := by
    intro k
    induction k with
    | zero =>
      rintro i m nw hik ⟨rl, vs, nn, rfl, hne, hJ, hm, hz⟩
      refine RangeRest.zero fun h tk F' N' => ?_
      have e : i = n := by omega
      subst e
      refine done rl vs nn m h tk hJ ?_ N'
      have em : frY x (m x) y (some (.ref rl)) st m m₀ = m := by
        funext z
        unfold frY
        by_cases h1 : z = x
        · rw [if_pos h1, h1]
        · rw [if_neg h1]
          by_cases h2 : z = y
          · rw [if_pos h2, h2, hm]
          · rw [if_neg h2]
            cases h3 : st.contains z with
            | true => simp
            | false => simp only [Bool.false_eq_true, if_false]; exact (hz z h2 h3).symm
      rw [em]; exact F'
    | succ k ih =>
      rintro i m nw hik ⟨rl, vs, nn, rfl, hne, hJ, hm, hz⟩
      refine RangeRest.succ fun t h tk F' N' => ?_
      have em : (fun z => if z = x then some (.int (a₀ + (i : Int)) t) else m z) = frY x (some (.int (a₀ + (i : Int)) t)) y (some (.ref rl)) st m m₀ := by
        funext z
        unfold frY
        by_cases h1 : z = x
        · rw [if_pos h1, if_pos h1]
        · rw [if_neg h1, if_neg h1]
          by_cases h2 : z = y
          · rw [if_pos h2, h2, hm]
          · rw [if_neg h2]
            cases h3 : st.contains z with
            | true => simp
            | false => simp only [Bool.false_eq_true, if_false]; exact hz z h2 h3
      rw [em] at F'
      refine wpAny_mono (turn i t rl vs nn m h tk I _ (by omega) hIb hne hJ F' N') (fun f s₂ p => ?_) fun _ _ e => e
      have fin : GrEnd h₀ env.locals I (itR (a₀ + ((i + 1 : Nat) : Int)) ((n : Int) - ((i + 1 : Nat) : Int))) base y st m₀ (G (i + 1)) { s with heap := h, toks := tk } s₂ →
          UnrEnd h₀ env.locals { s with heap := h, toks := tk } I (itR (a₀ + ((i + 1 : Nat) : Int)) ((n : Int) - ((i + 1 : Nat) : Int))) (RangeRest prog w A E h₀ env x body Q s I a₀ n k (i + 1)) s₂ := by
        rintro ⟨h', tk', m', news', rl', vs', nn', e, F2, N2, q1, q2, q3, q4, q5, q6, q7⟩
        refine ⟨h', tk', m', (rl', listOf vs'.toArray nn') :: base, e, F2, fun p hp => N2 p ?_, fun p hp => ?_, ih (i + 1) m' _ (by omega) ⟨rl', vs', nn', rfl, q4, q5, q6, q7⟩⟩
        · rcases List.mem_cons.mp hp with rfl | hp
          · exact q1
          · rcases List.mem_cons.mp hp with rfl | hp
            · exact q2
            · exact q3 p hp
        · rcases List.mem_cons.mp hp with rfl | hp
          · exact q4
          · exact Nat.ne_of_lt (hIb p hp)
      cases f with
      | ret v => exact p
      | brk => exact p
      | next => exact fin p
      | cont => exact fin p
  exact key n 0 m₀ _ (by omega) ⟨rl, vs, nn, rfl, Nat.ne_of_lt (hI _ (.head _)), hi, hy, fun _ _ _ => rfl⟩
theorem allLt_ne {d : Addr} {l : List (Addr × Obj)} (h : AllLt d l) : ∀ p ∈ l, p.1 ≠ d := fun p hp => Nat.ne_of_lt (ktn_ltOf h p hp)
theorem all_app {d : Addr} {l own : List (Addr × Obj)} {adr : List Addr} (h : ∀ p ∈ l, p.1 ≠ d) (ho : OwnOff own adr) (hd : d ∈ adr) : ∀ p ∈ l ++ own, p.1 ≠ d := fun p hp => (List.mem_append.mp hp).elim (h p) fun q => ho p q d hd
theorem ne_of_lt_all {d : Addr} {l : List (Addr × Obj)} (h : ∀ p ∈ l, p.1 < d) : ∀ p ∈ l, p.1 ≠ d := fun p hp => Nat.ne_of_lt (h p hp)

abbrev tupO (p n : Int) (t u : Tok) : Obj := { cls := .type "tuple", data := .seq #[.int p t, .int n u] }
inductive TermsIn (news : List (Addr × Obj)) : List Value → List (Int × Int) → Prop
  | nil : TermsIn news [] []
  | cons {a : Addr} {p n : Int} {t u : Tok} {vs : List Value} {ts : List (Int × Int)} : (a, tupO p n t u) ∈ news → TermsIn news vs ts → TermsIn news (.ref a :: vs) ((p, n) :: ts)
theorem TermsIn.mono {news news' : List (Addr × Obj)} {vs : List Value} {ts : List (Int × Int)} (h : TermsIn news vs ts) (hs : ∀ p ∈ news, p ∈ news') : TermsIn news' vs ts := by
  induction h with
  | nil => exact .nil
  | cons hm _ ih => exact .cons (hs _ hm) ih
theorem TermsIn.snoc {news : List (Addr × Obj)} {vs : List Value} {ts : List (Int × Int)} (h : TermsIn news vs ts) {a : Addr} {p n : Int} {t u : Tok} (hm : (a, tupO p n t u) ∈ news) : TermsIn news (vs ++ [.ref a]) (ts ++ [(p, n)]) := by
  induction h with
  | nil => exact .cons hm .nil
  | cons h1 _ ih => exact .cons h1 ih
def frS (st : List Str) (u m₀ : Str → Option Value) : Str → Option Value := fun z => if st.contains z then u z else m₀ z
theorem frS_off {st : List Str} {u m₀ : Str → Option Value} {z : Str} (h : st.contains z = false) : frS st u m₀ z = m₀ z := by unfold frS; rw [h]; rfl
theorem frS_eq {st : List Str} {m₁ m₀ : Str → Option Value} (h : ∀ z, st.contains z = false → m₁ z = m₀ z) : m₁ = frS st m₁ m₀ := by
  funext z
  unfold frS
  cases h3 : st.contains z with
  | true => simp
  | false => simp only [Bool.false_eq_true, if_false]; exact h z h3
def FtEnd (h₀ : Heap) (L : Addr) (lp : Addr) (np : Nat) (tail : List (Addr × Obj)) (st : List Str) (m₀ : Str → Option Value) (own : List (Addr × Obj)) (cs' : List Int) (s₁ s₂ : Shared) : Prop :=
  ∃ h' tk m' news' vs', s₂ = { s₁ with heap := h', toks := tk } ∧ Fr h₀ L h' m' ∧ News h₀ L h' news' ∧ (lp, listOf vs'.toArray np) ∈ news' ∧ (∀ p ∈ tail, p ∈ news') ∧ (∀ p ∈ own, p ∈ news') ∧
    IntsAre vs' cs' ∧ ∀ z, st.contains z = false → m' z = m₀ z
def FtPost (h₀ : Heap) (L : Addr) (lp : Addr) (np : Nat) (tail : List (Addr × Obj)) (st : List Str) (m₀ : Str → Option Value) (own : List (Addr × Obj)) (cs' : List Int) (s₁ : Shared) (Q : Flow → Shared → Prop) (f : Flow) (s₂ : Shared) : Prop :=
  match f with
  | .ret v => Q (.ret v) s₂
  | .brk => Q .next s₂
  | _ => FtEnd h₀ L lp np tail st m₀ own cs' s₁ s₂
/-- for place, number in a list of pairs: one list of ints turns -/
theorem for_terms {target : PySem.Expr} {ax lp : Addr} {vsT vs : List Value} {ts : List (Int × Int)} {cs : List Int} {nT np : Nat} {tail news : List (Addr × Obj)} {m₀ : Str → Option Value} (st : List Str) (g : List Int → Int × Int → List Int)
    (hh : A.handled = none) (hl : (ax, listOf vsT.toArray nT) ∈ tail) (hT : TermsIn tail vsT ts) (F : Fr h₀ env.locals s.heap m₀) (N : News h₀ env.locals s.heap news) (hN : ∀ p ∈ (lp, listOf vs.toArray np) :: tail, p ∈ news) (hi : IntsAre vs cs)
    (turn : ∀ a pl nm t u vs cs' w' h tk own, (a, tupO pl nm t u) ∈ tail → (pl, nm) ∈ ts → OwnOff own (lp :: tail.map (·.1)) → IntsAre vs cs' → (∃ pre : List (Int × Int), cs' = pre.foldl g cs) → Fr h₀ env.locals h (frS st w' m₀) → News h₀ env.locals h ((lp, listOf vs.toArray np) :: (tail ++ own)) →
      wpAny (model prog w) A (assign target env (.ref a)) (fun _ s₂ => wpAny (model prog w) A (execs body env) (FtPost h₀ env.locals lp np tail st m₀ own (g cs' (pl, nm)) { s with heap := h, toks := tk } Q) E s₂) E { s with heap := h, toks := tk })
    (done : ∀ vs w' h tk, IntsAre vs (ts.foldl g cs) → Fr h₀ env.locals h (frS st w' m₀) → News h₀ env.locals h ((lp, listOf vs.toArray np) :: tail) → Q .next { s with heap := h, toks := tk }) :
    wpAny (model prog w) A (pyIter (.ref ax)) (fun it s₂ => TurnsAt prog w A h₀ env target body Q E it s₂) E s := by
  have N0 : News h₀ env.locals s.heap ((lp, listOf vs.toArray np) :: tail) := fun p hp => N p (hN p hp)
  refine iter_listTurns (n := nT) hh F N0 (.tail _ hl) rfl rfl fun I hI => ?_
  have key : ∀ (vsR : List Value) (tsR : List (Int × Int)), TermsIn tail vsR tsR → ∀ (tsL : List (Int × Int)) (vs1 : List Value) (m : Str → Option Value), ts = tsL ++ tsR → IntsAre vs1 (tsL.foldl g cs) → (∀ z, st.contains z = false → m z = m₀ z) →
      ItemsRest prog w A E h₀ env target body Q s [(I, "list_iterator")] [(ax, listOf vsT.toArray nT)] (vsR.map .val) m ((lp, listOf vs1.toArray np) :: tail) := by
    intro vsR tsR hR
    induction hR with
    | nil =>
      intro tsL vs1 m e hv hm
      rw [List.append_nil] at e
      subst e
      refine ItemsRest.zero fun h tk F' N' => ?_
      rw [frS_eq hm] at F'
      exact done vs1 m h tk hv F' N'
    | cons hmem hR ih =>
      rename_i a pl nm t u vs2 ts2
      intro tsL vs1 m e hv hm
      refine ItemsRest.val fun h tk F' => AllObj.cons fun o hc => AllObj.nil fun N' => ?_
      rw [frS_eq hm] at F'
      have hoff : OwnOff [(I, o)] (lp :: tail.map (·.1)) := by
        intro p hp b hb
        rw [List.mem_singleton.mp hp]
        rcases List.mem_cons.mp hb with rfl | hb
        · exact Ne.symm (Nat.ne_of_lt (hI _ (.head _)))
        · obtain ⟨q, hq, rfl⟩ := List.mem_map.mp hb
          exact Ne.symm (Nat.ne_of_lt (hI _ (.tail _ hq)))
      refine wpAny_mono (turn a pl nm t u vs1 _ m h tk [(I, o)] hmem (by rw [e]; simp) hoff hv ⟨tsL, rfl⟩ F' (fun p hp => N' p ?_)) (fun _ s₂ h₂ => wpAny_mono h₂ (fun f s₃ p => ?_) fun _ _ e => e) fun _ _ e => e
      · simp only [List.mem_cons, List.mem_append, List.not_mem_nil, or_false] at hp ⊢
        rcases hp with h | h | h
        · exact .inr (.inl h)
        · exact .inr (.inr h)
        · exact .inl h
      · have fin : FtEnd h₀ env.locals lp np tail st m₀ [(I, o)] (g (tsL.foldl g cs) (pl, nm)) { s with heap := h, toks := tk } s₃ →
            UnrEndW h₀ env.locals { s with heap := h, toks := tk } [(I, o)] (fun m' n' => SubL [(ax, listOf vsT.toArray nT)] n' ∧ ItemsRest prog w A E h₀ env target body Q s [(I, "list_iterator")] [(ax, listOf vsT.toArray nT)] (vs2.map .val) m' n') s₃ := by
          rintro ⟨h', tk', m', news', vs', e', F2, N2, q1, q2, q3, q4, q5⟩
          refine ⟨h', tk', m', (lp, listOf vs'.toArray np) :: tail, e', F2, fun p hp => N2 p ?_, fun p hp q hq => ?_, And.intro (.tail _ hl) trivial, ih (tsL ++ [(pl, nm)]) vs' m' (by rw [e]; simp) (by rw [List.foldl_append]; exact q4) q5⟩
          · rcases List.mem_append.mp hp with hp | hp
            · exact q3 p hp
            · rcases List.mem_cons.mp hp with rfl | hp
              · exact q1
              · exact q2 p hp
          · rw [List.mem_singleton.mp hq]
            have hlt : p.1 < I := by
              rcases List.mem_cons.mp hp with rfl | hp
              · exact hI (lp, listOf vs.toArray np) (.head _)
              · exact hI _ (.tail _ hp)
            exact Nat.ne_of_lt hlt
        cases f with
        | ret v => exact p
        | brk => exact p
        | next => exact fin p
        | cont => exact fin p
  exact key vsT ts hT [] vs m₀ rfl hi fun _ _ => rfl
end
end Mine62
end
section
open PySem.W
namespace Mine62
/-- one butterfly -/
def bf (l z : Int) (cs : List Int) (j : Int) : List Int :=
  ((cs.set j.toNat (cs.getD j.toNat 0 + cs.getD (j + l).toNat 0)).set (j + l).toNat ((cs.set j.toNat (cs.getD j.toNat 0 + cs.getD (j + l).toNat 0)).getD (j + l).toNat 0 - cs.getD j.toNat 0)).set (j + l).toNat
    (z * ((cs.set j.toNat (cs.getD j.toNat 0 + cs.getD (j + l).toNat 0)).set (j + l).toNat ((cs.set j.toNat (cs.getD j.toNat 0 + cs.getD (j + l).toNat 0)).getD (j + l).toNat 0 - cs.getD j.toNat 0)).getD (j + l).toNat 0)
theorem bf_length (l z : Int) (cs : List Int) (j : Int) : (bf l z cs j).length = cs.length := by simp [bf]
theorem bfs_length (l z : Int) (ks : List Int) : ∀ cs : List Int, (ks.foldl (bf l z) cs).length = cs.length := by
  induction ks with
  | nil => intro cs; rfl
  | cons k r ih => intro cs; rw [List.foldl_cons, ih, bf_length]
def ll (e : Nat) : Int := 2 ^ (e + 1)
def qq (e : Nat) : Nat := 2 ^ (6 - e)
def kE (e : Nat) : Int := 2 ^ (7 - e) - 1
def st (e b : Nat) : Int := 2 * ll e * b
/-- block b of layer e -/
def blk (zz : List Int) (e : Nat) (cs : List Int) (b : Nat) : List Int :=
  (rangeKs (st e b) (ll e).toNat).foldl (bf (ll e) (zz.getD (kE e - b).toNat 0)) cs
def blks (zz : List Int) (e b : Nat) (cs : List Int) : List Int := (List.range b).foldl (blk zz e) cs
def lay (zz : List Int) (cs : List Int) : Nat → List Int
  | 0 => cs
  | e + 1 => blks zz e (qq e) (lay zz cs e)
theorem blk_length (zz : List Int) (e : Nat) (cs : List Int) (b : Nat) : (blk zz e cs b).length = cs.length := bfs_length ..
theorem blks_length (zz : List Int) (e b : Nat) (cs : List Int) : (blks zz e b cs).length = cs.length := by
  induction b with
  | zero => rfl
  | succ b ih => unfold blks at ih ⊢; rw [List.range_succ, List.foldl_append, List.foldl_cons, List.foldl_nil, blk_length, ih]
theorem blks_succ (zz : List Int) (e b : Nat) (cs : List Int) : blks zz e (b + 1) cs = blk zz e (blks zz e b cs) b := by
  unfold blks; rw [List.range_succ, List.foldl_append]; rfl
theorem lay_length (zz : List Int) (cs : List Int) : ∀ e, (lay zz cs e).length = cs.length
  | 0 => rfl
  | e + 1 => by rw [lay, blks_length, lay_length]
theorem lay_facts {e : Nat} (h : e ≤ 6) : 2 ≤ ll e ∧ ll e ≤ 128 ∧ ll (e + 1) = ll e * 2 ∧ 1 ≤ qq e ∧ qq e ≤ 64 ∧ st e (qq e) = 256 ∧ kE e = 2 * (qq e : Int) - 1 ∧ kE (e + 1) = kE e - qq e := by
  rcases (by omega : e = 0 ∨ e = 1 ∨ e = 2 ∨ e = 3 ∨ e = 4 ∨ e = 5 ∨ e = 6) with rfl | rfl | rfl | rfl | rfl | rfl | rfl <;> decide
theorem st_facts {e : Nat} (h : e ≤ 6) (b : Nat) : st e 0 = 0 ∧ 0 ≤ st e b ∧ st e (b + 1) = st e b + 2 * ll e ∧ (b < qq e ↔ st e b < 256) ∧ (b < qq e → st e b + 2 * ll e ≤ 256) := by
  rcases (by omega : e = 0 ∨ e = 1 ∨ e = 2 ∨ e = 3 ∨ e = 4 ∨ e = 5 ∨ e = 6) with rfl | rfl | rfl | rfl | rfl | rfl | rfl <;>
    (simp only [st, ll, qq]; refine ⟨by omega, by omega, by omega, by omega, by omega⟩)
theorem ll_top : ll 7 = 256 := by decide
theorem ll_zero : ll 0 = 2 := by decide
theorem kE_zero : kE 0 = 127 := by decide
def fin (f : Int) (cs : List Int) (j : Int) : List Int := cs.set j.toNat ((cs.getD j.toNat 0 * f).fmod 3329)
theorem fin_length (f : Int) (cs : List Int) (j : Int) : (fin f cs j).length = cs.length := by simp [fin]
theorem fins_length (f : Int) (ks : List Int) : ∀ cs : List Int, (ks.foldl (fin f) cs).length = cs.length := by
  induction ks with
  | nil => intro cs; rfl
  | cons k r ih => intro cs; rw [List.foldl_cons, ih, fin_length]
def fromNtt (zz : List Int) (f : Int) (cs : List Int) : List Int := (rangeKs 0 256).foldl (fin f) (lay zz cs 7)
end Mine62
end
section
open PySem PySem.W PyProof.Rows PySem.Calls PyProof.V PySem.Spec
namespace Mine62
section
variable {prog : Program} {w : World} {A : Around} {E : Value → Shared → Prop} {s : Shared} {a n : Int} {t u v : Tok} {Q : Value → Shared → Prop}
theorem args_pow3 (a b c : Value) : argsOk "int.__pow__" ⟨[a, b, c], []⟩ := by unfold argsOk; kernel_rfl
theorem kind_pow : builtinKind "pow" = none := by decide +kernel
theorem plain_pow : plainId "pow" = true := by decide +kernel
theorem entry_pow : entryFor table "pow" = some Builtin.«pow» := entryFor_of_fast (by kernel_rfl)
theorem args_pow (a b c : Value) : argsOk "pow" ⟨[a, b, c], []⟩ := by unfold argsOk; kernel_rfl
def pm (a n : Int) : Int := (Builtin.powMod (a % 3329).toNat n.toNat 3329 : Nat)
set_option maxHeartbeats 2000000 in
theorem call_pow3 (hn : 0 ≤ n) (h : Q (.int (pm a n) s.toks) { s with toks := s.toks + 1 }) :
    wpAny (model prog w) A (call (.builtin "int.__pow__") [.int a t, .int n u, .int 3329 v]) (fun r s' => r ≠ .notImplemented ∧ Q r s') E s := by
  refine wpAny_call_entry slot_int_pow (typeIs_int s a t) entry_int_pow ?_ (args_pow3 _ _ _)
  show wpAny _ _ (if n < 0 then _ else _) _ _ s
  rw [if_neg (by omega)]
  have e : n.natAbs = n.toNat := by omega
  unfold pm at h
  rw [← e] at h
  repeat (first | refine wpAny_pure ?_ | refine wpAny_mkInt ?_ | refine wpAny_rule ?_ | refine wpAny_bind ?_)
  exact ⟨_, rfl, by simp, h⟩
set_option maxHeartbeats 2000000 in
theorem pow_gen (hc : ∀ A' : Around, wpAny (model prog w) A' (call (.builtin "int.__pow__") [.int a t, .int n u, .int 3329 v]) (fun r s' => r ≠ .notImplemented ∧ Q r s') E s) :
    wpAny (model prog w) A (call (.builtin "pow") [.int a t, .int n u, .int 3329 v]) Q E s := by
  refine call_function_entry kind_pow plain_pow entry_pow (args_pow _ _ _) ?_
  obtain ⟨hp, g, d, tk, os⟩ := s
  have hT : (⟨hp, g, d, tk, os⟩ : Shared).TypeIs (.int a t) "int" := rfl
  have f3 := slot_int_pow.lookup
  have f4 := slot_int_pow.bind (.int a t)
  repeat (any_goals (first | assumption | wp_step))
  have hd : PySem.dunder "pow" = Str.ofString "__pow__" := by decide +kernel
  have hs : Slot "int" (Str.ofString "__pow__") "int.__pow__" := hd ▸ slot_int_pow
  rw [hd] at f3
  rw [f3]
  refine wpAny_pure ?_
  dsimp only [Option.getD]
  refine wpAny_bind (wpAny_callSpecial?_slot hT hs (wpAny_mono (hc _) (fun r s' hr => ?_) fun _ _ e => e))
  dsimp only
  rw [if_pos (by simpa using hr.1)]
  exact wpAny_pure ⟨_, rfl, hr.2⟩
theorem pow3 (hn : 0 ≤ n) (h : Q (.int (pm a n) s.toks) { s with toks := s.toks + 1 }) :
    wpAny (model prog w) A (call (.builtin "pow") [.int a t, .int n u, .int 3329 v]) Q E s := pow_gen fun _ => call_pow3 hn h
set_option maxHeartbeats 2000000 in
theorem call_powinv (h : Q (.int 3303 s.toks) { s with toks := s.toks + 1 }) :
    wpAny (model prog w) A (call (.builtin "int.__pow__") [.int 128 t, .int (-1) u, .int 3329 v]) (fun r s' => r ≠ .notImplemented ∧ Q r s') E s := by
  refine wpAny_call_entry slot_int_pow (typeIs_int s 128 t) entry_int_pow ?_ (args_pow3 _ _ _)
  repeat (first | refine wpAny_pure ?_ | refine wpAny_mkInt ?_ | refine wpAny_rule ?_ | refine wpAny_bind ?_)
  exact ⟨_, rfl, by simp, h⟩
theorem pow_inv (h : Q (.int 3303 s.toks) { s with toks := s.toks + 1 }) :
    wpAny (model prog w) A (call (.builtin "pow") [.int 128 t, .int (-1) u, .int 3329 v]) Q E s := pow_gen fun _ => call_powinv h
end
theorem powMod_lt (b e m : Nat) (hm : 0 < m) : Builtin.powMod b e m < m := by
  unfold Builtin.powMod
  have aux : ∀ (l : List Nat) (p : Nat), p < m → l.foldl (fun p i => if e.testBit i then p * p % m * b % m else p * p % m) p < m := by
    intro l
    induction l with
    | nil => intro p hp; exact hp
    | cons i r ih =>
      intro p hp
      rw [List.foldl_cons]
      refine ih _ ?_
      split <;> exact Nat.mod_lt _ hm
  exact aux _ _ (Nat.mod_lt _ hm)
theorem pm_lt (a n : Int) : 0 ≤ pm a n ∧ pm a n < 3329 := by
  have := powMod_lt (a % 3329).toNat n.toNat 3329 (by decide)
  unfold pm
  omega
theorem pm_bits (a n : Int) : Builtin.Int.intBits (pm a n) ≤ 64 := by
  have := pm_lt a n
  exact intBits_le_64 (by omega) (by omega)
end Mine62
end
section
open PySem PySem.W PyProof.Rows PySem.Calls PyProof.V PySem.Spec PySem.NumText
set_option maxRecDepth 100000
namespace Mine62
theorem wp_text2 {M : Model} {A : Around} {E : Value → Shared → Prop} {s : Shared} {Q : Value → Shared → Prop} {v : Value} {text : List Nat} {n : Int}
    (hs : (text.takeWhile (· != 0)).length ≤ 640) (hr : (int_private% "readNumeral") 0 2 (text.takeWhile (· != 0)) = (int_private% "Numeral.value") n)
    (ha : ((text.takeWhile (· != 0)).length == text.length) = true) (h : Q (.int n s.toks) { s with toks := s.toks + 1 }) :
    wpAny M A ((int_private% "intFromText") v text 2) Q E s := by
  obtain ⟨hp, g, d, tk, os⟩ := s
  repeat (any_goals (first
    | assumption
    | (with_reducible refine wpAny_ite_true (decide_eq_true hs) ?_)
    | (with_reducible refine wpAny_ite_true (decide_eq_true ha) ?_)
    | wp_step))
  all_goals (try rw [hr])
  all_goals (try dsimp only)
  repeat (any_goals (first
    | assumption
    | (with_reducible refine wpAny_ite_true (decide_eq_true hs) ?_)
    | (with_reducible refine wpAny_ite_true (decide_eq_true ha) ?_)
    | wp_step))
theorem gives_int2 {x : PySem.Str} {u t : Tok} {n : Int} (hx : x.cps.all (· < 128) = true) (hs : (x.cps.toList.takeWhile (· != 0)).length ≤ 640)
    (hr : (int_private% "readNumeral") 0 2 (x.cps.toList.takeWhile (· != 0)) = (int_private% "Numeral.value") n) (ha : ((x.cps.toList.takeWhile (· != 0)).length == x.cps.toList.length) = true) : Gives (Builtin.«int.__new__» ⟨[.type "int", .str x u, .int 2 t], []⟩) (.int n) :=
  .of_wp fun M A E s Q h => by
    obtain ⟨hp, g, d, tk, os⟩ := s
    have f1 := F.conv_sub_int
    have f2 := F.madeHere_int
    have f6 : typeOf (.str x u) = pure (.type "str") := rfl
    repeat (any_goals (first
      | assumption
      | ((with_reducible show wpAny _ _ ((int_private% "intFromText") _ _ _) _ _ _); refine wp_text2 hs hr ha ?_)
      | wp_step))
    simp only [hx, if_true]
    rw [show (Int.toNat 2) = 2 from rfl, hr]
    dsimp only
    repeat (any_goals (first
      | assumption
      | (with_reducible refine wpAny_ite_true (decide_eq_true ha) ?_)
      | (with_reducible refine wpAny_ite_true ha ?_)
      | wp_step))
    all_goals first | exact ⟨_, rfl, h⟩ | skip
theorem typeCall_int_2 (a b : Value) : checkTypeCall "int" ⟨[a, b], []⟩ = pure () := by kernel_rfl
theorem newCall_int_2 (a b : Value) : checkBuiltinCall "int.__new__" ⟨[.type "int", a, b], []⟩ = pure () := by kernel_rfl
theorem args_object_init_3 (a b c : Value) : argsOk "object.__init__" ⟨[a, b, c], []⟩ := by
  unfold argsOk; rw [signature?_of (id := "object.__init__") (n := ['_', '_', 't', 'i', 'n', 'i', '_', '_']) (o := ['t', 'c', 'e', 'j', 'b', 'o']) (by kernel_rfl) F.owner_object]; kernel_rfl
theorem call_int2 {prog : Program} {w : World} {A : Around} {E : Value → Shared → Prop} {s : Shared} {Q : Value → Shared → Prop} {x : PySem.Str} {u t : Tok} {n : Int} (hx : x.cps.all (· < 128) = true) (hs : (x.cps.toList.takeWhile (· != 0)).length ≤ 640)
    (hr : (int_private% "readNumeral") 0 2 (x.cps.toList.takeWhile (· != 0)) = (int_private% "Numeral.value") n) (ha : ((x.cps.toList.takeWhile (· != 0)).length == x.cps.toList.length) = true) (h : Q (.int n s.toks) { s with toks := s.toks + 1 }) :
    wpAny (model prog w) A (call (.type "int") [.str x u, .int 2 t]) Q E s :=
  callType_new F.called_int F.newNe_int (typeCall_int_2 _ _) (newCall_int_2 _ _) (fun obj => args_object_init_3 obj _ _) F.entry_int_new (gives_int2 hx hs hr ha).meets (show (Made.int n).post _ s from ⟨rfl, h⟩)
end Mine62
end
section
open PySem PySem.W PyProof.Rows PySem.Calls PyProof.V PySem.Spec
set_option maxRecDepth 100000
namespace Mine62
theorem seq_list_iadd : seqSlot? (.type "list") (dunderI "add") = pure (some (.builtin "list.__iadd__")) := PySem.seqSlot_of F.slot_list_iadd.lookup (by decide +kernel)
theorem nofill_list_iadd : fillsInplaceSlot (.type "list") "add" (Operator.Add == .Add) = pure false := by
  unfold fillsInplaceSlot
  show (typeLookup (.type "list") (dunderI "add") >>= fun fi => pure (fi.isSome && !isSeqSlot fi)) = pure false
  rw [F.slot_list_iadd.lookup]
  show (pure (true && !isSeqSlot (some (.builtin "list.__iadd__"))) : Sem Bool) = pure false
  rw [show isSeqSlot (some (.builtin "list.__iadd__")) = true by decide +kernel]
  rfl
theorem args_iadd2 (a b : Value) : argsOk "list.__iadd__" ⟨[a, b], []⟩ := F.args_list_iadd_2 a b
theorem wp_iadd {M : Model} {A : Around} {E : Value → Shared → Prop} {s : Shared} {a b : Value} {Q : Value → Shared → Prop} (ha : s.TypeIs a "list") (hb : s.TypeIs b "list")
    (hc : wpAny M A (call (.builtin "list.__iadd__") [a, b]) Q E s) : wpAny M A (inplaceOp .Add a b) Q E s := by
  unfold inplaceOp
  refine wpAny_holding ?_
  refine wpAny_bind (wpAny_typeOf ha (wpAny_bind (wpAny_of_eq nofill_list_iadd ?_)))
  show wpAny M A (if false = true then _ else _) Q E s
  rw [if_neg Bool.false_ne_true]
  refine wpAny_bind (wpAny_binaryOp1_none (nm := "add") ha hb noFill_list_add ?_)
  refine wpAny_bind (wpAny_of_eq seq_list_iadd ?_)
  exact wpAny_bind (wpAny_rule hc)
theorem kl_iadd {prog : Program} {w : World} {A : Around} {E : Value → Shared → Prop} {s : Shared} {h₀ : Heap} {L D b : Addr} {m : Str → Option Value} {news news' : List (Addr × Obj)} {vs us : List Value} {cs ds : List Int} {n n2 : Nat} {Q : Value → Shared → Prop} (F : Fr h₀ L s.heap m) (N : News h₀ L s.heap news) (hb : (b, listOf us.toArray n2) ∈ news)
    (U : Upd D (listOf vs.toArray n) (listOf (vs ++ us).toArray (n + 1)) news news') (hi : IntsAre vs cs) (hu : IntsAre us ds) (hne : ds.length ≠ 0) (hz : cs.length + ds.length ≤ 10000)
    (h : ∀ h', Fr h₀ L h' m → News h₀ L h' news' → IntsAre (vs ++ us) (cs ++ ds) → Q (.ref D) { s with heap := h' }) : wpAny (model prog w) A (inplaceOp .Add (.ref D) (.ref b)) Q E s := by
  obtain ⟨pre, post, rfl, rfl, a, c⟩ := U.split
  have z := N (D, listOf vs.toArray n) (List.mem_append.mpr (.inr (.head _)))
  have e1 := hi.length
  have e2 := hu.length
  have hs : sizeLine = 16777216 := by decide +kernel
  refine wp_iadd ⟨_, z.1, rfl⟩ ⟨_, (N _ hb).1, rfl⟩ ?_
  refine call_meets PySem.F.slot_list_iadd ⟨_, z.1, rfl⟩ PySem.F.entry_list_iadd (args_iadd2 _ _) (PySem.AutoSeq1.list___iadd___list_list_0 D vs.toArray n b us.toArray n2 ?_ (by rw [List.size_toArray]; omega) (by rw [List.size_toArray, List.size_toArray]; omega)) ⟨z.1, (N _ hb).1, h _ (F.change (Heap.SameBut.update ..) z.2.1 z.2.2) (kl_turn _ N a c ?_ ?_) (hi.append hu)⟩
  · have hq : Builtin.List.listTooLong (vs.toArray.size + us.toArray.size) = false := by
      rw [List.size_toArray, List.size_toArray]
      unfold Builtin.List.listTooLong
      refine decide_eq_false ?_
      rw [hs]
      omega
    rw [hq, Bool.and_false]
    exact Bool.false_ne_true
  · apply Array.toList_inj.mp
    simp
  · rw [List.size_toArray, List.size_toArray, List.length_append]
    omega
end Mine62
end
section
open PySem PySem.W PyProof.Rows PySem.Calls PyProof.V PySem.Spec
namespace Mine62

theorem own_callWithKW {M : Model} {A : Around} {E : Value → Shared → Prop} {s : Shared} {K : Frag} {env : Env} {pos : Pos} {x C : Addr} {ox : Obj} {od : Option Obj} {first : List Value} {Q : Value → Shared → Prop} {e : PySem.Expr} {rest : List PySem.Expr} {kws : List Keyword} {f : Addr}
    (_X : K.In s.heap) (_I : InstAt s.heap x ox C od) (hd : ox.data = .plain) (_hs : findIn K (.ref C) "__call__" = some (some (.ref f))) (hall : (backToKw pos (keywordEach kws env)).all (·.1.isSome) = true)
    (h : wpAny M A (spliced (backTo pos (starEach (e :: rest) env))) (fun vs s₁ => wpAny M A (evalAll ((backToKw pos (keywordEach kws env)).map (·.2)))
      (fun ks s₂ => kco_P K x C ox od s₂.heap ∧ wpAny M A (call (.ref x) (first ++ vs) (((backToKw pos (keywordEach kws env)).filterMap (·.1)).zip ks)) Q E s₂) E s₁) E s)
    (hplain : ((backTo pos (starEach (e :: rest) env)).any (·.1) || (backToKw pos (keywordEach kws env)).any (·.1.isNone)) = false := by rfl) (he : starEach (e :: rest) env = (false, eval e env) :: starEach rest env := by rfl) :
    wpAny M A (callWith pos (.ref x) first (backTo pos (starEach (e :: rest) env)) (backToKw pos (keywordEach kws env))) Q E s :=
  kco_callWith_of hplain hd (evalArgs_kw2 hall h he)
theorem my_len {prog : Program} {w : World} {A : Around} {E : Value → Shared → Prop} {s : Shared} {h₀ : Heap} {L D : Addr} {news : List (Addr × Obj)} {Q : Value → Shared → Prop} {vs : List Value} {ns : List Int} {c : Nat} (N : News h₀ L s.heap news) (hm : (D, listOf vs.toArray c) ∈ news) (hi : IntsAre vs ns) (hf : ns.length < 2 ^ 62) (h : Q (.int (ns.length : Nat) (s.toks + 1)) { s with toks := s.toks + 1 + 1 }) :
    wpAny (model prog w) A (call (.builtin "len") [.ref D]) Q E s := KM.len_K N hm (by rw [List.size_toArray]; exact hi.length) hf h
local macro_rules | `(tactic| walk_at "call builtin:len") => `(tactic| (k_here; k_dflt (show wpAny _ _ (call (Value.builtin "len") [Value.ref _]) _ _ _); k_dflt (refine' my_len ?k1 ?k2 ?k3 ?k4 ?_; (case k1 => k_asm); (case k2 => k_mem); (case k3 => with_reducible assumption); (case k4 => omega); k_whole)))
local macro_rules | `(tactic| walk_at "callWith ref") => `(tactic| (k_here; (with_reducible show wpAny _ _ (callWith _ (Value.ref _) _ _ (backToKw _ (keywordEach (_ :: _) _))) _ _ _); kco_here; k_dflt (refine' own_callWithKW ?k1 ?k2 ?k3 ?k4 ?k5 ?_; (case k1 => k_in); (case k2 => k_inst); (case k3 => rfl); (case k4 => k_is); (case k5 => rfl); k_whole)))
local macro_rules | `(tactic| walk_at "getMethod ref") => `(tactic| (k_here; k_dflt (refine' kmu_own ?k1 ?k2 ?k3 ?k4 ?k5 ?_; (case k1 => k_asm); (case k2 => k_asm); (case k3 => k_inst); (case k4 => k_is); (case k5 => k_is); k_whole)))
local macro_rules | `(tactic| k_mem) => `(tactic| assumption)
local macro_rules | `(tactic| k_room) => `(tactic| ktr_room)
local macro_rules | `(tactic| k_units) => `(tactic| ktr_units)
set_option maxRecDepth 100000 in
set_option maxHeartbeats 8000000 in
theorem ring_call (ntt : Bool) {w : World} {loose : List Str} {mean : ExcName → Option Value} {mg mb : Str → Option Value} {dp un : Nat} {gd : Option (List Code)} {cn : Str} {cs : Scope} {a : Addr} {ccd : Value} {cl : List (Str × Addr)} {outer : List Env} {A₀ : Around} {base h₀ : Heap} {L : Addr} {m : Str → Option Value} {s : Shared} {Q E : Value → Shared → Prop}
   {r dr lc lz : Addr} {vs : List Value} {ns : List Int} {nc n2 : Nat} {tq uq tn tn2 tz tf tf2 : Tok} {news : List (Addr × Obj)}
   (B : Below A₀ base outer h₀) (F : Fr h₀ L s.heap m) (X : (hd.heap_1 w.params).In h₀) (N : News h₀ L s.heap news) (T : Top view62 loose mean mg mb h₀) (hk : cs.kind = .function)
   (m1 : (r, instObj 282 dr) ∈ news) (m2 : (dr, dictOf [ent w (Str.ofString "q") tq (.int 3329 uq), ent w (Str.ofString "n") tn (.int 256 tn2), ent w (Str.ofString "ntt_zetas") tz (.ref lz), ent w (Str.ofString "ntt_f") tf (.int 3303 tf2)] n2) ∈ news)
   (m3 : (lc, listOf vs.toArray nc) ∈ news) (hi : IntsAre vs ns) (hl : ns.length = 256)
   (hd : dp + 20 < recursionLimit) (hu : un + 200 < cLine)
   (hret : ∀ (x dx : Addr) (t1 t2 : Tok) (h' : Heap) (tk' : Nat), Fr h₀ L h' m → News h₀ L h' ((x, instObj (if ntt then 426 else 350) dx) :: (dx, dictOf [ent w (Str.ofString "parent") t1 (.ref r), ent w (Str.ofString "coeffs") t2 (.ref lc)] 2) :: news) →
     (∀ p ∈ news, p.1 < dx) → dx < x → Q (.ref x) { s with heap := h', toks := tk' }) :
   wpAny (model PySem.Challenge.rw_yi0062_01.row.prog w) (ktrTop dp un gd cn cs L a ccd cl outer) (call (.ref r) [.ref lc] [(Str.ofString "is_ntt", .bool ntt)]) Q E s := by
  revert X
  k_fill
  intro X
  refine wpAny_call ?_
  refine' kco_code ?k1 ?k2 ?k3 ?k4 ?k5 ?k6 ?_
  case k1 => k_in
  case k2 => k_inst
  case k3 => rfl
  case k4 => k_dflt k_is
  case k5 => k_dflt k_is
  case k6 => k_dflt k_is
  try dsimp only
  cases ntt
  all_goals (k_dflt (refine' code_def ?k1 ?k2 ?k3 ?k4 ?k5 ?kA ?kF ?kK ?k6 ?k7 ?k8 ?k9 ?kB ?_ ?c2 ?c3 ?c4 ?c5; (case kA => exact rfl); (case kF => exact rfl); (case kK => exact hk); (case k1 => k_asm); (case k2 => k_asm); (case k3 => k_asm); (case k4 => k_asm); (case k5 => k_asm); (case k6 => k_is); (case k7 => k_is); (case k8 => k_room); (case k9 => first | exact BindsTo.of_eq rfl | exact binds_K (by k_in) rfl (by k_is) rfl rfl rfl | fail "k_enter: no rule for these arguments"); (case c5 => decide); (case kB => exact locs rfl); (case c2 => exact rfl); (case c3 => exact rfl); (case c4 => exact rfl); k_whole; intro g' L' h' FG' F' N' B' X' T'; (try dsimp only); (try k_lift B'); (try k_fold)))
  · k_steps
    exact hret _ _ _ _ _ _ (by assumption) (by assumption) (by assumption) (by assumption)
  · k_steps
    exact hret _ _ _ _ _ _ (by assumption) (by assumption) (by assumption) (by assumption)
end Mine62
end
section
open PySem PySem.W PyProof.Rows PySem.Calls PyProof.V PySem.Spec
namespace Mine62
local macro_rules | `(tactic| walk_at "no tree W1 0") => `(tactic| fail "no tree")
local macro_rules | `(tactic| walk_at "call builtin:len") => `(tactic| (k_here; k_dflt (show wpAny _ _ (call (Value.builtin "len") [Value.ref _]) _ _ _); k_dflt (refine' my_len ?k1 ?k2 ?k3 ?k4 ?_; (case k1 => k_asm); (case k2 => k_mem); (case k3 => with_reducible assumption); (case k4 => omega); k_whole)))
local macro_rules | `(tactic| walk_at "callWith ref") => `(tactic| (k_here; (with_reducible show wpAny _ _ (callWith _ (Value.ref _) _ _ (backToKw _ (keywordEach (_ :: _) _))) _ _ _); kco_here; k_dflt (refine' own_callWithKW ?k1 ?k2 ?k3 ?k4 ?k5 ?_; (case k1 => k_in); (case k2 => k_inst); (case k3 => rfl); (case k4 => k_is); (case k5 => rfl); k_whole)))
local macro_rules | `(tactic| walk_at "getMethod ref") => `(tactic| (k_here; k_dflt (refine' kmu_own ?k1 ?k2 ?k3 ?k4 ?k5 ?_; (case k1 => k_asm); (case k2 => k_asm); (case k3 => k_inst); (case k4 => k_is); (case k5 => k_is); k_whole)))
local macro_rules | `(tactic| k_mem) => `(tactic| assumption)
local macro_rules | `(tactic| k_room) => `(tactic| ktr_room)
local macro_rules | `(tactic| k_units) => `(tactic| ktr_units)
local macro_rules | `(tactic| k_all) => `(tactic| with_reducible assumption)
set_option maxRecDepth 100000 in
set_option maxHeartbeats 8000000 in
theorem fromNtt_call {w : World} {loose : List Str} {mean : ExcName → Option Value} {mg mb : Str → Option Value} {dp un : Nat} {gd : Option (List Code)} {cn : Str} {cs : Scope} {a : Addr} {ccd : Value} {cl : List (Str × Addr)} {outer : List Env} {A₀ : Around} {base h₀ : Heap} {L : Addr} {m : Str → Option Value} {s : Shared} {Q E : Value → Shared → Prop}
   {x dx r dr lc lz : Addr} {vs zs : List Value} {ns zz : List Int} {nc nz n1 n2 : Nat} {t1 t2 tq uq tn tn2 tz tf tf2 : Tok} {rest news : List (Addr × Obj)}
   (B : Below A₀ base outer h₀) (F : Fr h₀ L s.heap m) (X : (hd.heap_1 w.params).In h₀) (N : News h₀ L s.heap news) (T : Top view62 loose mean mg mb h₀) (hk : cs.kind = .function)
   (hN : ∀ p ∈ (lc, listOf vs.toArray nc) :: (x, instObj 426 dx) :: (dx, dictOf [ent w (Str.ofString "parent") t1 (.ref r), ent w (Str.ofString "coeffs") t2 (.ref lc)] n1) :: (r, instObj 282 dr) :: (dr, dictOf [ent w (Str.ofString "q") tq (.int 3329 uq), ent w (Str.ofString "n") tn (.int 256 tn2), ent w (Str.ofString "ntt_zetas") tz (.ref lz), ent w (Str.ofString "ntt_f") tf (.int 3303 tf2)] n2) :: (lz, listOf zs.toArray nz) :: rest, p ∈ news) (hi : IntsAre vs ns) (hl : ns.length = 256) (hz : IntsAre zs zz) (hzl : zz.length = 128) (hzs : ∀ j : Nat, Builtin.Int.intBits (zz.getD j 0) ≤ 64)
   (hd : dp + 50 < recursionLimit) (hu : un + 400 < cLine)
   (hsep : ∀ p ∈ rest, p.1 ≠ lc) (e1 : @Ne Nat lc x) (e2 : @Ne Nat lc dx) (e3 : @Ne Nat lc r) (e4 : @Ne Nat lc dr) (e5 : @Ne Nat lc lz)
   (hret : ∀ (x2 dx2 : Addr) (t1' t2' : Tok) (vs2 : List Value) (h' : Heap) (tk' : Nat), IntsAre vs2 (fromNtt zz 3303 ns) → Fr h₀ L h' m →
     News h₀ L h' ((x2, instObj 350 dx2) :: (dx2, dictOf [ent w (Str.ofString "parent") t1' (.ref r), ent w (Str.ofString "coeffs") t2' (.ref lc)] 2) :: (lc, listOf vs2.toArray nc) :: (x, instObj 426 dx) :: (dx, dictOf [ent w (Str.ofString "parent") t1 (.ref r), ent w (Str.ofString "coeffs") t2 (.ref lc)] n1) :: (r, instObj 282 dr) :: (dr, dictOf [ent w (Str.ofString "q") tq (.int 3329 uq), ent w (Str.ofString "n") tn (.int 256 tn2), ent w (Str.ofString "ntt_zetas") tz (.ref lz), ent w (Str.ofString "ntt_f") tf (.int 3303 tf2)] n2) :: (lz, listOf zs.toArray nz) :: rest) → Q (.ref x2) { s with heap := h', toks := tk' }) :
   wpAny (model PySem.Challenge.rw_yi0062_01.row.prog w) (ktrTop dp un gd cn cs L a ccd cl outer) (call (.ref 380) [.ref x]) Q E s := by
  replace N := kst_newsOf N hN
  revert X
  k_fill
  intro X
  k_with "exec While Compare cons nil" => (refine Stop.of ?_)
  k_with "pyIter ref" => (refine Stop.of ?_)
  k_with "WlPost" => (refine Stop.of ?_)
  k_with "FlPost" => (refine Stop.of ?_)
  refine wpAny_call ?_
  k_dflt cell_enter
  k_steps
  refine Stop.out ?_
  (rename Fr _ _ _ _ => F1)
  (rename News _ _ _ _ => N1)
  refine' while_st (σ := List Value × List Int × Nat × Int × Tok × Int × Tok) (fun c => (lc, listOf c.1.toArray nc) :: (x, instObj 426 dx) :: (dx, dictOf [ent w (Str.ofString "parent") t1 (.ref r), ent w (Str.ofString "coeffs") t2 (.ref lc)] n1) :: (r, instObj 282 dr) :: (dr, dictOf [ent w (Str.ofString "q") tq (.int 3329 uq), ent w (Str.ofString "n") tn (.int 256 tn2), ent w (Str.ofString "ntt_zetas") tz (.ref lz), ent w (Str.ofString "ntt_f") tf (.int 3303 tf2)] n2) :: (lz, listOf zs.toArray nz) :: rest)
    (fun c => [(Str.ofString "l", .int c.2.2.2.1 c.2.2.2.2.1), (Str.ofString "k", .int c.2.2.2.2.2.1 c.2.2.2.2.2.2)])
    (fun c => IntsAre c.1 c.2.1 ∧ c.2.2.1 ≤ 7 ∧ c.2.2.2.1 = ll c.2.2.1 ∧ c.2.2.2.2.2.1 = kE c.2.2.1 ∧ c.2.1 = lay zz ns c.2.2.1) [Str.ofString "start", Str.ofString "zeta", Str.ofString "j", Str.ofString "t"] (fun c => 8 - c.2.2.1) (vs, ns, 0, 2, _, 127, _) F1 ?kn ?kf ?kk ?_ ?hE
  case kn => exact kst_newsOf N1 (fun p hp => List.Mem.tail _ hp)
  case kf => exact ⟨hi, Nat.zero_le _, ll_zero.symm, kE_zero.symm, rfl⟩
  case kk => kst_all
  case hE => passes_own
  clear F1 N1
  rintro ⟨vs1, cs1, e, l1, tl1, k1, tk1⟩ u1 h1 tok1 ⟨hi1, he7, hl1, hk1, hcs1⟩ F2 N2
  dsimp only at hi1 he7 hl1 hk1 hcs1 F2 N2 ⊢
  k_steps
  -- goal 1: the inner while; goal 2: behind the outer while, at the last for
  · refine Stop.out ?_
    (rename Fr _ _ _ _ => F1)
    (rename News _ _ _ _ => N1)
    (rename IntsAre vs1 cs1 => hi1)
    (rename l1 ≤ 128 => hle)
    have he6 : e ≤ 6 := by
      rcases Nat.lt_or_ge e 7 with h | h
      · omega
      · have : e = 7 := by omega
        subst this; rw [hl1, ll_top] at hle; omega
    have LF := lay_facts he6
    refine' while_st (σ := List Value × List Int × Nat × Int × Tok × Int × Tok) (fun c => (lc, listOf c.1.toArray nc) :: (x, instObj 426 dx) :: (dx, dictOf [ent w (Str.ofString "parent") t1 (.ref r), ent w (Str.ofString "coeffs") t2 (.ref lc)] n1) :: (r, instObj 282 dr) :: (dr, dictOf [ent w (Str.ofString "q") tq (.int 3329 uq), ent w (Str.ofString "n") tn (.int 256 tn2), ent w (Str.ofString "ntt_zetas") tz (.ref lz), ent w (Str.ofString "ntt_f") tf (.int 3303 tf2)] n2) :: (lz, listOf zs.toArray nz) :: rest)
      (fun c => [(Str.ofString "start", .int c.2.2.2.1 c.2.2.2.2.1), (Str.ofString "k", .int c.2.2.2.2.2.1 c.2.2.2.2.2.2)]) (fun c => IntsAre c.1 c.2.1 ∧ c.2.2.1 ≤ qq e ∧ c.2.2.2.1 = st e c.2.2.1 ∧ c.2.2.2.2.2.1 = kE e - c.2.2.1 ∧ c.2.1 = blks zz e c.2.2.1 cs1) [Str.ofString "zeta", Str.ofString "j", Str.ofString "t"]
      (fun c => qq e - c.2.2.1) (vs1, cs1, 0, 0, _, k1, tk1) F1 ?kn ?kf ?kk ?_ ?hE
    case kn => exact N1
    case kf => exact ⟨hi1, Nat.zero_le _, (st_facts he6 0).1.symm, by (dsimp only; omega), rfl⟩
    case kk => kst_all
    case hE => passes_own
    clear F1 N1
    rintro ⟨vs2, cs2, b, st2, ts2, k2, tk2⟩ u2 h2 tok2 ⟨hi2, hbq, hst2, hk2, hcs2⟩ F3 N3
    dsimp only at hi2 hbq hst2 hk2 hcs2 F3 N3 ⊢
    have SF := st_facts he6 b
    have hlen2 : cs2.length = 256 := by rw [hcs2, blks_length, hcs1, lay_length, hl]
    k_steps
    -- the for; then the end of the outer turn
    · refine Stop.out ?_
      (rename Fr _ _ _ _ => F1)
      (rename News _ _ _ _ => N1)
      (rename IsRange _ _ _ _ _ _ _ _ => R1)
      (rename st2 < 256 => hst256)
      have hb1 := SF.2.2.2.1.mpr (by omega)
      have hb2 := SF.2.2.2.2 hb1
      have hzb : Builtin.Int.intBits (zz.getD k2.toNat 0) ≤ 64 := hzs _
      (rename IntsAre vs2 cs2 => hi2)
      refine' for_list (lc := lc) (nc := nc) (tail := (x, instObj 426 dx) :: (dx, dictOf [ent w (Str.ofString "parent") t1 (.ref r), ent w (Str.ofString "coeffs") t2 (.ref lc)] n1) :: (r, instObj 282 dr) :: (dr, dictOf [ent w (Str.ofString "q") tq (.int 3329 uq), ent w (Str.ofString "n") tn (.int 256 tn2), ent w (Str.ofString "ntt_zetas") tz (.ref lz), ent w (Str.ofString "ntt_f") tf (.int 3303 tf2)] n2) :: (lz, listOf zs.toArray nz) :: rest) [Str.ofString "t"] (bf l1 (zz.getD k2.toNat 0)) l1.toNat (by rfl) R1 (small_one (by omega) (by omega) (by omega) (by omega)) (by omega) (by omega) F1 N1 ?hN hi2 ?turn ?done
      case hN => exact fun p hp => hp
      case turn =>
        clear F1 N1
        rintro j tj vs3 cs3 u3 h3 tok3 own hj hoff hi3 ⟨pre, hpre⟩ F4 N4
        have hjj := mem_rangeKs hj
        have hlen3 : cs3.length = 256 := by rw [hpre, bfs_length, hlen2]
        have hsep2 : ∀ p ∈ rest ++ own, p.1 ≠ lc := fun p hp => (List.mem_append.mp hp).elim (hsep p) fun h => hoff p h _ (.head _)
        simp only [List.cons_append] at N4
        k_steps
        refine Stop.out ?_
        (rename Fr _ _ _ _ => F5)
        (rename News _ _ _ _ => N5)
        dsimp only [FlPost]
        refine ⟨_, _, _, _, _, tj, rfl, F5, N5, .head _, fun p hp => .tail _ (List.mem_append.mpr (Or.inl hp) : p ∈ ((x, instObj 426 dx) :: (dx, dictOf [ent w (Str.ofString "parent") t1 (.ref r), ent w (Str.ofString "coeffs") t2 (.ref lc)] n1) :: (r, instObj 282 dr) :: (dr, dictOf [ent w (Str.ofString "q") tq (.int 3329 uq), ent w (Str.ofString "n") tn (.int 256 tn2), ent w (Str.ofString "ntt_zetas") tz (.ref lz), ent w (Str.ofString "ntt_f") tf (.int 3303 tf2)] n2) :: (lz, listOf zs.toArray nz) :: rest) ++ own), fun p hp => .tail _ (List.mem_append.mpr (Or.inr hp) : p ∈ ((x, instObj 426 dx) :: (dx, dictOf [ent w (Str.ofString "parent") t1 (.ref r), ent w (Str.ofString "coeffs") t2 (.ref lc)] n1) :: (r, instObj 282 dr) :: (dr, dictOf [ent w (Str.ofString "q") tq (.int 3329 uq), ent w (Str.ofString "n") tn (.int 256 tn2), ent w (Str.ofString "ntt_zetas") tz (.ref lz), ent w (Str.ofString "ntt_f") tf (.int 3303 tf2)] n2) :: (lz, listOf zs.toArray nz) :: rest) ++ own), by assumption, rfl, ?_⟩
        intro z h1 h2
        exact (if_neg (st_ne h2 (.head _))).trans (fr1_off h1 h2)
      case done =>
        clear F1 N1
        rintro vs3 tj u3 h3 tok3 hi3 F4 N4
        k_steps
        refine Stop.out ?_
        (rename Fr _ _ _ _ => F5)
        (rename News _ _ _ _ => N5)
        dsimp only [WlPost]
        refine' WlEnd.intro (vs3, blks zz e (b + 1) cs1, b + 1, st2 + (l1.toNat : Int) - 1 + l1 + 1, ?w1, k2 - 1, ?w2) F5 N5 (fun p hp => hp) ⟨?_, ?_, ?_, ?_, rfl⟩ ?wk ?_ ?_
        case wk => kst_all
        · show IntsAre vs3 _
          rw [blks_succ, ← hcs2]; unfold blk; rw [← hst2, ← hl1, ← hk2]; exact hi3
        · exact hb1
        · show st2 + (l1.toNat : Int) - 1 + l1 + 1 = st e (b + 1)
          omega
        · show k2 - 1 = kE e - ((b + 1 : Nat) : Int)
          omega
        · intro z h1 h2
          exact (if_neg (h1 _ (.head _))).trans ((fr1_off (st_ne h2 (.tail _ (.head _))) (st_of (by simp only [List.mem_singleton, forall_eq]; exact st_ne h2 (.tail _ (.tail _ (.head _)))))).trans
            ((if_neg (st_ne h2 (.tail _ (.head _)))).trans ((if_neg (h1 _ (.tail _ (.head _)))).trans ((if_neg (st_ne h2 (.head _))).trans (kst2_off h1 h2)))))
        · show qq e - (b + 1) < qq e - b
          omega
    · refine Stop.out ?_
      (rename Fr _ _ _ _ => F5)
      (rename News _ _ _ _ => N5)
      (rename ¬ st2 < 256 => hge)
      have hbe : b = qq e := by omega
      dsimp only [WlPost]
      (rename IntsAre vs2 cs2 => hi2)
      refine' WlEnd.intro (vs2, cs2, e + 1, l1 * 2 ^ (1 : Int).toNat, ?w3, k2, ?w4) F5 N5 (fun p hp => hp) ⟨hi2, ?_, ?_, ?_, ?_⟩ ?wj ?_ ?_
      case wj => kst_all
      · show e + 1 ≤ 7
        omega
      · show l1 * 2 ^ (1 : Int).toNat = ll (e + 1)
        rw [LF.2.2.1, hl1]; rfl
      · show k2 = kE (e + 1)
        rw [hk2, hbe, LF.2.2.2.2.2.2.2]
      · show cs2 = lay zz ns (e + 1)
        rw [hcs2, hcs1, hbe]; rfl
      · intro z h1 h2
        refine (if_neg (h1 _ (.head _))).trans ((kstS_off (fun p hp => ?_) (st_of fun q hq => ?_)).trans ((if_neg (st_ne h2 (.head _))).trans (kst2_off h1 h2)))
        · rcases List.mem_cons.mp hp with rfl | hp
          · exact st_ne h2 (.head _)
          · rw [List.mem_singleton.mp hp]; exact h1 _ (.tail _ (.head _))
        · exact st_ne h2 (.tail _ hq)
      · show 8 - (e + 1) < 8 - e
        omega
  · refine Stop.out ?_
    (rename Fr _ _ _ _ => F5)
    (rename News _ _ _ _ => N5)
    (rename IsRange _ _ _ _ _ _ _ _ => R5)
    (rename ¬ l1 ≤ 128 => hgt)
    have he : e = 7 := by
      rcases Nat.lt_or_ge e 7 with h | h
      · have := lay_facts (e := e) (by omega); omega
      · omega
    have hlen1 : cs1.length = 256 := by rw [hcs1, lay_length, hl]
    (rename IntsAre vs1 cs1 => hi1)
    refine' for_list (lc := lc) (nc := nc) (tail := (x, instObj 426 dx) :: (dx, dictOf [ent w (Str.ofString "parent") t1 (.ref r), ent w (Str.ofString "coeffs") t2 (.ref lc)] n1) :: (r, instObj 282 dr) :: (dr, dictOf [ent w (Str.ofString "q") tq (.int 3329 uq), ent w (Str.ofString "n") tn (.int 256 tn2), ent w (Str.ofString "ntt_zetas") tz (.ref lz), ent w (Str.ofString "ntt_f") tf (.int 3303 tf2)] n2) :: (lz, listOf zs.toArray nz) :: rest) [] (fin 3303) 256 (by rfl) R5 (by decide) (by rfl) (by decide) F5 N5 ?hN hi1 ?turn ?done
    case hN => exact fun p hp => hp
    case turn =>
      clear F5 N5
      rintro j tj vs3 cs3 u3 h3 tok3 own hj hoff hi3 ⟨pre, hpre⟩ F4 N4
      have hjj := mem_rangeKs hj
      have hlen3 : cs3.length = 256 := by rw [hpre, fins_length, hlen1]
      have hsep2 : ∀ p ∈ rest ++ own, p.1 ≠ lc := fun p hp => (List.mem_append.mp hp).elim (hsep p) fun h => hoff p h _ (.head _)
      simp only [List.cons_append] at N4
      k_steps
      refine Stop.out ?_
      (rename Fr _ _ _ _ => F6)
      (rename News _ _ _ _ => N6)
      dsimp only [FlPost]
      exact ⟨_, _, _, _, _, tj, rfl, F6, N6, .head _, fun p hp => .tail _ (List.mem_append.mpr (Or.inl hp) : p ∈ ((x, instObj 426 dx) :: (dx, dictOf [ent w (Str.ofString "parent") t1 (.ref r), ent w (Str.ofString "coeffs") t2 (.ref lc)] n1) :: (r, instObj 282 dr) :: (dr, dictOf [ent w (Str.ofString "q") tq (.int 3329 uq), ent w (Str.ofString "n") tn (.int 256 tn2), ent w (Str.ofString "ntt_zetas") tz (.ref lz), ent w (Str.ofString "ntt_f") tf (.int 3303 tf2)] n2) :: (lz, listOf zs.toArray nz) :: rest) ++ own), fun p hp => .tail _ (List.mem_append.mpr (Or.inr hp) : p ∈ ((x, instObj 426 dx) :: (dx, dictOf [ent w (Str.ofString "parent") t1 (.ref r), ent w (Str.ofString "coeffs") t2 (.ref lc)] n1) :: (r, instObj 282 dr) :: (dr, dictOf [ent w (Str.ofString "q") tq (.int 3329 uq), ent w (Str.ofString "n") tn (.int 256 tn2), ent w (Str.ofString "ntt_zetas") tz (.ref lz), ent w (Str.ofString "ntt_f") tf (.int 3303 tf2)] n2) :: (lz, listOf zs.toArray nz) :: rest) ++ own), by assumption, rfl,
        fun z h1 h2 => fr1_off h1 h2⟩
    case done =>
      clear F5 N5
      rintro vs3 tj u3 h3 tok3 hi3 F4 N4
      have hres : (rangeKs 0 256).foldl (fin 3303) cs1 = fromNtt zz 3303 ns := by rw [hcs1, he]; rfl
      rw [hres] at hi3
      have hlenR : (fromNtt zz 3303 ns).length = 256 := by unfold fromNtt; rw [fins_length, lay_length, hl]
      k_with "call ref" => (refine' ring_call false ?k1 ?k2 ?k3 ?k4 ?k5 ?k6 ?m1 ?m2 ?m3 ?hi ?hl ?hd ?hu ?_; (case k1 => k_asm); (case k2 => k_asm); (case k3 => k_asm); (case k4 => k_asm); (case k5 => k_asm); (case k6 => rfl); (case m1 => k_dflt k_mem); (case m2 => k_dflt k_mem); (case m3 => k_dflt k_mem); (case hi => assumption); (case hl => assumption); (case hd => ktr_room); (case hu => ktr_units); intro x2 dx2 t1' t2' h' tk' F' N' l1 l2; (try dsimp only); (try k_fold))
      k_steps
      exact hret _ _ _ _ _ _ _ (by assumption) (by assumption) (by assumption)
end Mine62
end
section
open PySem PySem.W PyProof.Rows PySem.Calls PyProof.V PySem.Spec
namespace Mine62
local macro_rules | `(tactic| walk_at "call builtin:len") => `(tactic| (k_here; k_dflt (show wpAny _ _ (call (Value.builtin "len") [Value.ref _]) _ _ _); k_dflt (refine' my_len ?k1 ?k2 ?k3 ?k4 ?_; (case k1 => k_asm); (case k2 => k_mem); (case k3 => with_reducible assumption); (case k4 => omega); k_whole)))
local macro_rules | `(tactic| walk_at "callWith ref") => `(tactic| (k_here; (with_reducible show wpAny _ _ (callWith _ (Value.ref _) _ _ (backToKw _ (keywordEach (_ :: _) _))) _ _ _); kco_here; k_dflt (refine' own_callWithKW ?k1 ?k2 ?k3 ?k4 ?k5 ?_; (case k1 => k_in); (case k2 => k_inst); (case k3 => rfl); (case k4 => k_is); (case k5 => rfl); k_whole)))
local macro_rules | `(tactic| walk_at "getMethod ref") => `(tactic| (k_here; k_dflt (refine' kmu_own ?k1 ?k2 ?k3 ?k4 ?k5 ?_; (case k1 => k_asm); (case k2 => k_asm); (case k3 => k_inst); (case k4 => k_is); (case k5 => k_is); k_whole)))
local macro_rules | `(tactic| k_mem) => `(tactic| assumption)
local macro_rules | `(tactic| k_room) => `(tactic| ktr_room)
local macro_rules | `(tactic| k_units) => `(tactic| ktr_units)

def draw (sc : List Int) (k : Int) : Int := if k < (sc.length : Int) then sc.getD k.toNat 0 else 62 + 11 * k + 23 * k * k
set_option maxRecDepth 100000 in
set_option maxHeartbeats 8000000 in
theorem draw_call {w : World} {loose : List Str} {mean : ExcName → Option Value} {mg mb : Str → Option Value} {dp un : Nat} {gd : Option (List Code)} {cn : Str} {cs : Scope} {a : Addr} {ccd : Value} {cl : List (Str × Addr)} {outer : List Env} {A₀ : Around} {base h₀ : Heap} {L : Addr} {m : Str → Option Value} {s : Shared} {Q E : Value → Shared → Prop}
   {ls : Addr} {sv : List Value} {sc : List Int} {news : List (Addr × Obj)} {k : Int} {tk0 : Tok}
   (B : Below A₀ base outer h₀) (F : Fr h₀ L s.heap m) (X : (hd.heap_1 w.params).In h₀) (N : News h₀ L s.heap news) (T : Top view62 loose mean mg mb h₀) (hk : cs.kind = .function)
   (hls : base.IsList ls sv.toArray) (his : IntsAre sv sc) (hsl : sc.length ≤ 63) (h0 : 0 ≤ k) (hk2 : k < 1000)
   (hd : dp + 4 < recursionLimit) (hu : un + 40 < cLine)
   (hret : ∀ (t : Tok) (h' : Heap) (tk' : Nat), Fr h₀ L h' m → News h₀ L h' news → Q (.int (draw sc k) t) { s with heap := h', toks := tk' }) :
   wpAny (model PySem.Challenge.rw_yi0062_01.row.prog w) (ktrTop dp un gd cn cs L a ccd cl outer) (call (.ref 435) [.ref ls, .int k tk0]) Q E s := by
  revert X
  k_fill
  intro X
  refine wpAny_call ?_
  (k_dflt (refine' code_def ?k1 ?k2 ?k3 ?k4 ?k5 ?kA ?kF ?kK ?k6 ?k7 ?k8 ?k9 ?kB ?_ ?c2 ?c3 ?c4 ?c5; (case kA => exact rfl); (case kF => exact rfl); (case kK => exact hk); (case k1 => k_asm); (case k2 => k_asm); (case k3 => k_asm); (case k4 => k_asm); (case k5 => k_asm); (case k6 => k_is); (case k7 => k_is); (case k8 => k_room); (case k9 => first | exact BindsTo.of_eq rfl | exact binds_K (by k_in) rfl (by k_is) rfl rfl rfl | fail "k_enter: no rule for these arguments"); (case c5 => decide); (case kB => exact locs rfl); (case c2 => exact rfl); (case c3 => exact rfl); (case c4 => exact rfl); k_whole; intro g' L' h' FG' F' N' B' X' T'; (try dsimp only); (try k_lift B'); (try k_fold)))
  k_steps
  · have e : draw sc k = sc.getD k.toNat 0 := if_pos (by assumption)
    rw [← e]
    exact hret _ _ _ (by assumption) (by assumption)
  · have e : draw sc k = 62 + 11 * k + 23 * k * k := if_neg (by assumption)
    rw [← e]
    exact hret _ _ _ (by assumption) (by assumption)
end Mine62
end
section
open PySem PySem.W PyProof.Rows PySem.Calls PyProof.V PySem.Spec
namespace Mine62
local macro_rules | `(tactic| walk_at "call builtin:len") => `(tactic| (k_here; k_dflt (show wpAny _ _ (call (Value.builtin "len") [Value.ref _]) _ _ _); k_dflt (refine' my_len ?k1 ?k2 ?k3 ?k4 ?_; (case k1 => k_asm); (case k2 => k_mem); (case k3 => with_reducible assumption); (case k4 => omega); k_whole)))
local macro_rules | `(tactic| walk_at "callWith ref") => `(tactic| (k_here; (with_reducible show wpAny _ _ (callWith _ (Value.ref _) _ _ (backToKw _ (keywordEach (_ :: _) _))) _ _ _); kco_here; k_dflt (refine' own_callWithKW ?k1 ?k2 ?k3 ?k4 ?k5 ?_; (case k1 => k_in); (case k2 => k_inst); (case k3 => rfl); (case k4 => k_is); (case k5 => rfl); k_whole)))
local macro_rules | `(tactic| walk_at "getMethod ref") => `(tactic| (k_here; k_dflt (refine' kmu_own ?k1 ?k2 ?k3 ?k4 ?k5 ?_; (case k1 => k_asm); (case k2 => k_asm); (case k3 => k_inst); (case k4 => k_is); (case k5 => k_is); k_whole)))
local macro_rules | `(tactic| k_mem) => `(tactic| assumption)
local macro_rules | `(tactic| k_room) => `(tactic| ktr_room)
local macro_rules | `(tactic| k_units) => `(tactic| ktr_units)

def terms (sc : List Int) (start : Int) (count : Nat) : List (Int × Int) := (List.range count).map fun (t : Nat) => ((draw sc (start + 2 * t)).fmod 256, draw sc (start + 1 + 2 * t))
theorem terms_succ (sc : List Int) (start : Int) (i : Nat) : terms sc start (i + 1) = terms sc start i ++ [((draw sc (start + 2 * i)).fmod 256, draw sc (start + 1 + 2 * i))] := by
  unfold terms; rw [List.range_succ, List.map_append]; rfl
local macro_rules | `(tactic| walk_at "CompSrc") => `(tactic| (k_here; k_dflt (first
  | (refine LCg.CompSrc.range (by rfl) (by k_asm) (by k_asm) (by assumption) (by first | exact small_one (by omega) (by omega) (by omega) (by omega) | decide) (by first | exact rangeSize_nat _ _ | rfl) (by rw [PySem.sizeLine_eq]; omega) ?_; intro g'; refine Stop.of ?_)
  | (refine LCg.CompSrc.ledger (by rfl) (by k_asm) (by k_asm) (by k_mem) (by rw [PySem.sizeLine_eq]; simp only [List.size_toArray]; omega) ?_; intro g'; refine Stop.of ?_))))
local macro_rules | `(tactic| walk_at "CompEnd") => `(tactic| refine Stop.of ?_)
local macro_rules | `(tactic| walk_at "call ref") => `(tactic| (k_here; k_dflt (show wpAny _ _ (call (Value.ref 435) [Value.ref _, Value.int _ _]) _ _ _); k_dflt (refine' draw_call ?k1 ?k2 ?k3 ?k4 ?k5 ?k6 ?m1 ?m2 ?m3 ?m4 ?m5 ?hd ?hu ?_; (case k1 => k_asm); (case k2 => k_asm); (case k3 => k_asm); (case k4 => k_asm); (case k5 => k_asm); (case k6 => exact rfl); (case m1 => assumption); (case m2 => assumption); (case m3 => assumption); (case m4 => omega); (case m5 => omega); (case hd => ktr_room); (case hu => ktr_units); intro t9 h9 tk9 F9 N9; (try dsimp only); (try k_fold))))
set_option maxRecDepth 100000 in
set_option maxHeartbeats 8000000 in
theorem terms_call {w : World} {loose : List Str} {mean : ExcName → Option Value} {mg mb : Str → Option Value} {dp un : Nat} {gd : Option (List Code)} {cn : Str} {cs : Scope} {a : Addr} {ccd : Value} {cl : List (Str × Addr)} {outer : List Env} {A₀ : Around} {base h₀ : Heap} {L : Addr} {m : Str → Option Value} {s : Shared} {Q E : Value → Shared → Prop}
   {ls : Addr} {sv : List Value} {sc : List Int} {news : List (Addr × Obj)} {k cnt : Int} {tk0 tk1 : Tok}
   (B : Below A₀ base outer h₀) (F : Fr h₀ L s.heap m) (X : (hd.heap_1 w.params).In h₀) (N : News h₀ L s.heap news) (T : Top view62 loose mean mg mb h₀) (hk : cs.kind = .function)
   (hls : base.IsList ls sv.toArray) (his : IntsAre sv sc) (hsl : sc.length ≤ 63) (h0 : 0 ≤ k) (hk2 : k < 100) (hc0 : 0 ≤ cnt) (hc3 : cnt ≤ 3)
   (hd : dp + 14 < recursionLimit) (hu : un + 140 < cLine)
   (hret : ∀ (l : Addr) (vs : List Value) (n : Nat) (tl : List (Addr × Obj)) (h' : Heap) (tk' : Nat), Fr h₀ L h' m → News h₀ L h' ((l, listOf vs.toArray n) :: (news ++ tl)) → TermsIn tl vs (terms sc k cnt.toNat) → Q (.ref l) { s with heap := h', toks := tk' }) :
   wpAny (model PySem.Challenge.rw_yi0062_01.row.prog w) (ktrTop dp un gd cn cs L a ccd cl outer) (call (.ref 452) [.ref ls, .int k tk0, .int cnt tk1]) Q E s := by
  revert X
  k_fill
  intro X
  refine wpAny_call ?_
  (k_dflt (refine' code_defC ?k1 ?k2 ?k3 ?k4 ?k5 ?kA ?kF ?kK ?k6 ?k7 ?k8 ?k9 ?kB ?kD ?_ ?c2 ?c3 ?c4; (case kA => exact rfl); (case kF => exact rfl); (case kK => exact hk); (case k1 => k_asm); (case k2 => k_asm); (case k3 => k_asm); (case k4 => k_asm); (case k5 => k_asm); (case k6 => k_is); (case k7 => k_is); (case k8 => k_room); (case k9 => first | exact BindsTo.of_eq rfl | exact binds_K (by k_in) rfl (by k_is) rfl rfl rfl | fail "k_enter: no rule for these arguments"); (case kB => exact rfl); (case kD => decide +kernel); (case c2 => exact rfl); (case c3 => exact rfl); (case c4 => exact rfl); k_whole; intro g' L' h' tk' cells' FG' F' N' Y' B' X' T' l1; (try k_lt l1); k_cells Y'; (try simp only [List.cons_append, List.nil_append] at N'); (try dsimp only); (try k_lift B'); (try k_fold)))
  k_steps
  refine Stop.out ?_
  refine' comp_tl (fun i ys tl => TermsIn tl ys (terms sc k i)) ?h0 ?turn ?fin
  case h0 => exact .nil
  case turn =>
    rintro i ys tl v I oI C oC D m₂ h1 tk1 E' hi hJ ⟨t, rfl⟩ hC hx F1 N1 off ne
    simp only [List.cons_append] at N1
    set_option maxHeartbeats 1000000 in
    k_steps
    refine Stop.out ?_
    (rename Fr _ _ _ _ => F2)
    (rename News _ _ _ _ => N2)
    (rename _ ∧ _ ∧ _ ∧ _ => l1)
    refine comp_end1 F2 N2 off (by show @Ne Nat _ _; omega) (by show @Ne Nat _ _; omega) (by show @Ne Nat _ _; omega) (by lcg_src) ?_
    rw [terms_succ]
    simp only [Int.zero_add]
    exact (hJ.mono fun p hp => .tail _ hp).snoc (.head _)
  case fin =>
    intro ys tl hJ
    simp only [List.cons_append]
    set_option maxHeartbeats 1000000 in
    k_steps
    (rename Fr _ _ _ _ => F2)
    (rename News _ _ _ _ => N2)
    refine hret _ ys ys.length tl _ _ F2 (kst_newsOf N2 fun p hp => ?_) (by simpa using hJ)
    rcases List.mem_cons.mp hp with rfl | hp
    · exact .head _
    · exact .tail _ (.tail _ (.tail _ hp))
end Mine62
end
section
open PySem PySem.W PyProof.Rows PySem.Calls PyProof.V PySem.Spec
namespace Mine62
open PySem.NumText
local macro_rules | `(tactic| walk_at "call builtin:len") => `(tactic| (k_here; k_dflt (show wpAny _ _ (call (Value.builtin "len") [Value.ref _]) _ _ _); k_dflt (refine' my_len ?k1 ?k2 ?k3 ?k4 ?_; (case k1 => k_asm); (case k2 => k_mem); (case k3 => with_reducible assumption); (case k4 => omega); k_whole)))
local macro_rules | `(tactic| walk_at "callWith ref") => `(tactic| (k_here; (with_reducible show wpAny _ _ (callWith _ (Value.ref _) _ _ (backToKw _ (keywordEach (_ :: _) _))) _ _ _); kco_here; k_dflt (refine' own_callWithKW ?k1 ?k2 ?k3 ?k4 ?k5 ?_; (case k1 => k_in); (case k2 => k_inst); (case k3 => rfl); (case k4 => k_is); (case k5 => rfl); k_whole)))
local macro_rules | `(tactic| walk_at "getMethod ref") => `(tactic| (k_here; k_dflt (refine' kmu_own ?k1 ?k2 ?k3 ?k4 ?k5 ?_; (case k1 => k_asm); (case k2 => k_asm); (case k3 => k_inst); (case k4 => k_is); (case k5 => k_is); k_whole)))
local macro_rules | `(tactic| k_mem) => `(tactic| assumption)
local macro_rules | `(tactic| k_room) => `(tactic| ktr_room)
local macro_rules | `(tactic| k_units) => `(tactic| ktr_units)

def bt0 (i : Int) : Str := baseText "0b" 2 (Builtin.bitAnd i (2 ^ Int.toNat 7 - 1))
def bt2 (i : Int) : Str := Txt.zfill (Txt.slice (bt0 i) (some 2) none) 7
def bt3 (i : Int) : Str := Txt.sliceBy (bt2 i) none none (-1, 0)
def br7 (i : Nat) : Nat := (List.range 7).foldl (fun a j => a + (i / 2 ^ j % 2) * 2 ^ (6 - j)) 0
def numVal (x : int_private% "Numeral") : Option Int := (int_private% "Numeral.casesOn") (motive := fun _ => Option Int) x none (fun _ => none) none (fun i => some i)
theorem numVal_eq {x : int_private% "Numeral"} {i : Int} (h : numVal x = some i) : x = (int_private% "Numeral.value") i := by
  cases x with
  | value j => cases h; rfl
  | _ => cases h
theorem br_table : ∀ i : Nat, i < 128 → (bt0 i).length ≤ 9 ∧ (bt2 i).length ≤ 9 ∧ (bt3 i).cps.all (· < 128) = true ∧ ((bt3 i).cps.toList.takeWhile (· != 0)).length ≤ 640 ∧ (((bt3 i).cps.toList.takeWhile (· != 0)).length == (bt3 i).cps.toList.length) = true ∧
    numVal ((int_private% "readNumeral") 0 2 ((bt3 i).cps.toList.takeWhile (· != 0))) = some (br7 i : Int) := by decide +kernel
local macro_rules | `(tactic| walk_at "subscriptTail") => `(tactic| (k_here; (with_reducible show wpAny _ _ (subscriptTail _ (Expr.Slice (some _) none none _) (Value.str _ _) (Value.ref _)) _ _ _); ((with_reducible rename Fr _ _ _ _ => F'); (with_reducible rename News _ _ _ _ => N'); (refine slice_strN_sn (hsz := ?hsz) (s := ⟨_, _, _, _, _⟩) F' N' ?_); (case hsz => assumption)); intro _ _ _ _ _))
local macro_rules | `(tactic| walk_at "subscriptTail") => `(tactic| (k_here; (with_reducible show wpAny _ _ (subscriptTail _ (Expr.Slice none none (some _) _) (Value.str _ _) (Value.ref _)) _ _ _); ((with_reducible rename Fr _ _ _ _ => F'); (with_reducible rename News _ _ _ _ => N'); (refine slice_strK_nn (hsz := ?hsz) (s := ⟨_, _, _, _, _⟩) F' N' (by rfl) ?_); (case hsz => assumption)); intro _ _ _ _ _))
local macro_rules | `(tactic| walk_at "call builtin:str.zfill") => `(tactic| (k_here; (refine SC.zfill (by decide) ?_); intro _ _))
local macro_rules | `(tactic| walk_at "call builtin:bin") => `(tactic| (k_here; (refine P.bin_of_int ?_ (by assumption))))
set_option maxRecDepth 100000 in
set_option maxHeartbeats 8000000 in
theorem br_call {w : World} {loose : List Str} {mean : ExcName → Option Value} {mg mb : Str → Option Value} {dp un : Nat} {gd : Option (List Code)} {cn : Str} {cs : Scope} {a : Addr} {ccd : Value} {cl : List (Str × Addr)} {outer : List Env} {A₀ : Around} {base h₀ : Heap} {L : Addr} {m : Str → Option Value} {s : Shared} {Q E : Value → Shared → Prop}
   {news : List (Addr × Obj)} {i : Int} {tk0 tk1 : Tok}
   (B : Below A₀ base outer h₀) (F : Fr h₀ L s.heap m) (X : (hd.heap_1 w.params).In h₀) (N : News h₀ L s.heap news) (T : Top view62 loose mean mg mb h₀) (hk : cs.kind = .function)
   (h0 : 0 ≤ i) (h1 : i < 128)
   (hd : dp + 4 < recursionLimit) (hu : un + 40 < cLine)
   (hret : ∀ (t : Tok) (h' : Heap) (tk' : Nat), Fr h₀ L h' m → News h₀ L h' news → Q (.int (br7 i.toNat : Nat) t) { s with heap := h', toks := tk' }) :
   wpAny (model PySem.Challenge.rw_yi0062_01.row.prog w) (ktrTop dp un gd cn cs L a ccd cl outer) (call (.ref 245) [.int i tk0, .int 7 tk1]) Q E s := by
  revert X
  k_fill
  intro X
  refine wpAny_call ?_
  (k_dflt (refine' code_def ?k1 ?k2 ?k3 ?k4 ?k5 ?kA ?kF ?kK ?k6 ?k7 ?k8 ?k9 ?kB ?_ ?c2 ?c3 ?c4 ?c5; (case kA => exact rfl); (case kF => exact rfl); (case kK => exact hk); (case k1 => k_asm); (case k2 => k_asm); (case k3 => k_asm); (case k4 => k_asm); (case k5 => k_asm); (case k6 => k_is); (case k7 => k_is); (case k8 => k_room); (case k9 => first | exact BindsTo.of_eq rfl | exact binds_K (by k_in) rfl (by k_is) rfl rfl rfl | fail "k_enter: no rule for these arguments"); (case c5 => decide); (case kB => exact locs rfl); (case c2 => exact rfl); (case c3 => exact rfl); (case c4 => exact rfl); k_whole; intro g' L' h' FG' F' N' B' X' T'; (try dsimp only); (try k_lift B'); (try k_fold)))
  have hT := br_table i.toNat (by omega)
  rw [show ((i.toNat : Nat) : Int) = i by omega] at hT
  have hl0 : (baseText "0b" 2 (Builtin.bitAnd i (2 ^ Int.toNat 7 - 1))).length ≤ sizeLine := Nat.le_trans hT.1 (by decide +kernel)
  have hl2 : (Txt.zfill (Txt.slice (baseText "0b" 2 (Builtin.bitAnd i (2 ^ Int.toNat 7 - 1))) (some 2) none) 7).length ≤ sizeLine := Nat.le_trans hT.2.1 (by decide +kernel)
  set_option maxHeartbeats 1000000 in
  k_steps
  refine call_int2 (n := (br7 i.toNat : Int)) hT.2.2.1 hT.2.2.2.1 (numVal_eq hT.2.2.2.2.2) hT.2.2.2.2.1 ?_
  k_steps
  exact hret _ _ _ (by assumption) (by assumption)
end Mine62
end
section
open PySem PySem.W PyProof.Rows PySem.Calls PyProof.V PySem.Spec
namespace Mine62
local macro_rules | `(tactic| walk_at "no tree W5 0") => `(tactic| fail "no tree")
local macro_rules | `(tactic| walk_at "call builtin:len") => `(tactic| (k_here; k_dflt (show wpAny _ _ (call (Value.builtin "len") [Value.ref _]) _ _ _); k_dflt (refine' my_len ?k1 ?k2 ?k3 ?k4 ?_; (case k1 => k_asm); (case k2 => k_mem); (case k3 => with_reducible assumption); (case k4 => omega); k_whole)))
local macro_rules | `(tactic| walk_at "callWith ref") => `(tactic| (k_here; (with_reducible show wpAny _ _ (callWith _ (Value.ref _) _ _ (backToKw _ (keywordEach (_ :: _) _))) _ _ _); kco_here; k_dflt (refine' own_callWithKW ?k1 ?k2 ?k3 ?k4 ?k5 ?_; (case k1 => k_in); (case k2 => k_inst); (case k3 => rfl); (case k4 => k_is); (case k5 => rfl); k_whole)))
local macro_rules | `(tactic| walk_at "getMethod ref") => `(tactic| (k_here; k_dflt (refine' kmu_own ?k1 ?k2 ?k3 ?k4 ?k5 ?_; (case k1 => k_asm); (case k2 => k_asm); (case k3 => k_inst); (case k4 => k_is); (case k5 => k_is); k_whole)))
local macro_rules | `(tactic| k_mem) => `(tactic| assumption)
local macro_rules | `(tactic| k_room) => `(tactic| ktr_room)
local macro_rules | `(tactic| k_units) => `(tactic| ktr_units)
local macro_rules | `(tactic| k_all) => `(tactic| with_reducible assumption)
local macro_rules | `(tactic| walk_at "CompSrc") => `(tactic| (k_here; k_dflt (first
  | (refine LCg.CompSrc.range (by rfl) (by k_asm) (by k_asm) (by assumption) (by first | exact small_one (by omega) (by omega) (by omega) (by omega) | decide) (by first | exact rangeSize_nat _ _ | rfl) (by rw [PySem.sizeLine_eq]; omega) ?_; intro g'; refine Stop.of ?_)
  | (refine LCg.CompSrc.ledger (by rfl) (by k_asm) (by k_asm) (by k_mem) (by rw [PySem.sizeLine_eq]; simp only [List.size_toArray]; omega) ?_; intro g'; refine Stop.of ?_))))
local macro_rules | `(tactic| walk_at "CompEnd") => `(tactic| refine Stop.of ?_)

theorem news_drop2 {h₀ h : Heap} {L : Addr} {q c1 c2 : Addr × Obj} {rest : List (Addr × Obj)} (N : News h₀ L h (q :: c1 :: c2 :: rest)) : News h₀ L h (q :: rest) := fun p hp => N p (by
  rcases List.mem_cons.mp hp with rfl | hp
  · exact .head _
  · exact .tail _ (.tail _ (.tail _ hp)))
local macro_rules | `(tactic| walk_at "call ref") => `(tactic| (k_here; k_dflt (show wpAny _ _ (call (Value.ref 245) _) _ _ _); k_dflt (refine' br_call ?k1 ?k2 ?k3 ?k4 ?k5 ?k6 ?m4 ?m5 ?hd ?hu ?_; (case k1 => k_asm); (case k2 => k_asm); (case k3 => k_asm); (case k4 => k_asm); (case k5 => k_asm); (case k6 => exact rfl); (case m4 => omega); (case m5 => omega); (case hd => ktr_room); (case hu => ktr_units); intro t9 h9 tk9 F9 N9; (try dsimp only); (try k_fold))))
local macro_rules | `(tactic| walk_at "call builtin:pow") => `(tactic| (k_here; k_dflt (show wpAny _ _ (call (Value.builtin _) [Value.int _ _, Value.int _ _, Value.int _ _]) _ _ _); k_dflt (first | refine pow3 (by omega) ?_ | refine pow_inv ?_)))

def zetas : List Int := (List.range 128).map fun i => pm 17 (br7 i : Nat)
set_option maxRecDepth 100000 in
set_option maxHeartbeats 8000000 in
theorem ring_new {w : World} {loose : List Str} {mean : ExcName → Option Value} {mg mb : Str → Option Value} {dp un : Nat} {gd : Option (List Code)} {cn : Str} {cs : Scope} {a : Addr} {ccd : Value} {cl : List (Str × Addr)} {outer : List Env} {A₀ : Around} {base h₀ : Heap} {L : Addr} {m : Str → Option Value} {s : Shared} {Q E : Value → Shared → Prop}
   {news : List (Addr × Obj)}
   (B : Below A₀ base outer h₀) (F : Fr h₀ L s.heap m) (X : (hd.heap_1 w.params).In h₀) (N : News h₀ L s.heap news) (T : Top view62 loose mean mg mb h₀) (hk : cs.kind = .function)
   (hd : dp + 14 < recursionLimit) (hu : un + 140 < cLine)
   (hret : ∀ (r dr lz : Addr) (zs : List Value) (nz n2 : Nat) (tq uq tn tn2 tz tf tf2 : Tok) (h' : Heap) (tk' : Nat), IntsAre zs zetas → Fr h₀ L h' m → News h₀ L h' ((lz, listOf zs.toArray nz) :: (r, instObj 282 dr) :: (dr, dictOf [ent w (Str.ofString "q") tq (.int 3329 uq), ent w (Str.ofString "n") tn (.int 256 tn2), ent w (Str.ofString "ntt_zetas") tz (.ref lz), ent w (Str.ofString "ntt_f") tf (.int 3303 tf2)] n2) :: news) → Q (.ref r) { s with heap := h', toks := tk' }) :
   wpAny (model PySem.Challenge.rw_yi0062_01.row.prog w) (ktrTop dp un gd cn cs L a ccd cl outer) (call (.ref 282) []) Q E s := by
  revert X
  k_fill
  intro X
  k_dflt (refine' call_cls ?k1 ?k2 ?k3 ?k4 ?k5 ?k6 ?_; (case k1 => k_asm); (case k2 => k_asm); (case k3 => k_asm); (case k4 => k_is); (case k5 => k_is); (case k6 => k_is); k_whole; intro x' d' h' F' N' l1 l2; (try k_lt l1); (try k_lt2 l2))
  rw [under_make]
  (k_dflt (refine' code_defC ?k1 ?k2 ?k3 ?k4 ?k5 ?kA ?kF ?kK ?k6 ?k7 ?k8 ?k9 ?kB ?kD ?_ ?c2 ?c3 ?c4; (case kA => exact rfl); (case kF => exact rfl); (case kK => exact hk); (case k1 => k_asm); (case k2 => k_asm); (case k3 => k_asm); (case k4 => k_asm); (case k5 => k_asm); (case k6 => k_is); (case k7 => k_is); (case k8 => k_room); (case k9 => first | exact BindsTo.of_eq rfl | exact binds_K (by k_in) rfl (by k_is) rfl rfl rfl | fail "k_enter: no rule for these arguments"); (case kB => exact rfl); (case kD => decide +kernel); (case c2 => exact rfl); (case c3 => exact rfl); (case c4 => exact rfl); k_whole; intro g' L' h' tk' cells' FG' F' N' Y' B' X' T' l1; (try k_lt l1); k_cells Y'; (try simp only [List.cons_append, List.nil_append] at N'); (try dsimp only); (try k_lift B'); (try k_fold)))
  have hn1 : ∀ p ∈ news, p.1 ≠ L' + 1 := fun p hp => Nat.ne_of_lt (Nat.lt_succ_of_lt (ktn_ltOf l1.2.2 p hp))
  have hn2 : ∀ p ∈ news, p.1 ≠ L' + 1 + 1 := fun p hp => Nat.ne_of_lt (Nat.lt_succ_of_lt (Nat.lt_succ_of_lt (ktn_ltOf l1.2.2 p hp)))
  k_steps
  refine Stop.out ?_
  refine' comp_ints (fun i => pm 17 (br7 i : Nat)) ?turn ?fin
  case turn =>
    rintro i ys v I oI C oC D m₂ h1 tk1 E' hi ⟨t, rfl⟩ hC hx F1 N1 off ne
    set_option maxHeartbeats 1000000 in
    k_steps
    refine Stop.out ?_
    rw [show (0 + (i : Int)).toNat = i by omega]
    (rename Fr _ _ _ _ => F2)
    (rename News _ _ _ _ => N2)
    exact comp_end0 F2 N2 (fun p hp => hp) off (by lcg_src)
  case fin =>
    intro ys hJ
    set_option maxHeartbeats 1000000 in
    k_steps
    (rename Fr _ _ _ _ => F2)
    (rename News _ _ _ _ => N2)
    exact hret _ _ _ ys ys.length _ _ _ _ _ _ _ _ _ _ hJ F2 (news_drop2 N2)
end Mine62
end
section
open PySem PySem.W PyProof.Rows PySem.Calls PyProof.V PySem.Spec
namespace Mine62
local macro_rules | `(tactic| walk_at "call builtin:len") => `(tactic| (k_here; k_dflt (show wpAny _ _ (call (Value.builtin "len") [Value.ref _]) _ _ _); k_dflt (refine' my_len ?k1 ?k2 ?k3 ?k4 ?_; (case k1 => k_asm); (case k2 => k_mem); (case k3 => with_reducible assumption); (case k4 => omega); k_whole)))
local macro_rules | `(tactic| walk_at "callWith ref") => `(tactic| (k_here; (with_reducible show wpAny _ _ (callWith _ (Value.ref _) _ _ (backToKw _ (keywordEach (_ :: _) _))) _ _ _); kco_here; k_dflt (refine' own_callWithKW ?k1 ?k2 ?k3 ?k4 ?k5 ?_; (case k1 => k_in); (case k2 => k_inst); (case k3 => rfl); (case k4 => k_is); (case k5 => rfl); k_whole)))
local macro_rules | `(tactic| walk_at "getMethod ref") => `(tactic| (k_here; k_dflt (refine' kmu_own ?k1 ?k2 ?k3 ?k4 ?k5 ?_; (case k1 => k_asm); (case k2 => k_asm); (case k3 => k_inst); (case k4 => k_is); (case k5 => k_is); k_whole)))
local macro_rules | `(tactic| k_mem) => `(tactic| assumption)
local macro_rules | `(tactic| k_room) => `(tactic| ktr_room)
local macro_rules | `(tactic| k_units) => `(tactic| ktr_units)
local macro_rules | `(tactic| k_all) => `(tactic| with_reducible assumption)
local macro_rules | `(tactic| walk_at "CompSrc") => `(tactic| (k_here; k_dflt (first
  | (refine LCg.CompSrc.range (by rfl) (by k_asm) (by k_asm) (by assumption) (by first | exact small_one (by omega) (by omega) (by omega) (by omega) | decide) (by first | exact rangeSize_nat _ _ | rfl) (by rw [PySem.sizeLine_eq]; omega) ?_; intro g'; refine Stop.of ?_)
  | (refine LCg.CompSrc.ledger (by rfl) (by k_asm) (by k_asm) (by k_mem) (by rw [PySem.sizeLine_eq]; simp only [List.size_toArray]; omega) ?_; intro g'; refine Stop.of ?_))))
local macro_rules | `(tactic| walk_at "CompEnd") => `(tactic| refine Stop.of ?_)
local macro_rules | `(tactic| walk_at "eval ListComp") => `(tactic| (k_here; k_dflt (refine LCg.ListComp_U (F₀ := by k_asm) (by rfl) (by decide) (by rfl) (by decide) (by rfl) ?_); k_dflt lcg_toSrc))
local macro_rules | `(tactic| walk_at "call builtin:pow") => `(tactic| (k_here; k_dflt (show wpAny _ _ (call (Value.builtin _) [Value.int _ _, Value.int _ _, Value.int _ _]) _ _ _); k_dflt (refine pow3 (by assumption) ?_)))

def splitE (w : List Int) (e : Int) : List Int := w ++ [e.fdiv 2, e.fdiv 2 + 128]
def rowE : Nat → List Int
  | 0 => [128]
  | t + 1 => (rowE t).foldl splitE []
def roots62 : List Int := (rowE 7).map fun e => pm 17 e
theorem splitE_len (ks : List Int) : ∀ w : List Int, (ks.foldl splitE w).length = w.length + 2 * ks.length := by
  induction ks with
  | nil => intro w; rfl
  | cons k r ih => intro w; rw [List.foldl_cons, ih, splitE, List.length_append, List.length_cons]; simp only [List.length_cons, List.length_nil]; omega
theorem rowE_len : ∀ i : Nat, i < 7 → (rowE i).length ≤ 64 := by decide +kernel
theorem row7_len : (rowE 7).length = 128 := by decide +kernel
theorem row7_nn : ∀ e ∈ rowE 7, 0 ≤ e := by decide +kernel
theorem map_range {α : Type} (f : Int → α) : ∀ l : List Int, (List.range l.length).map (fun i => f (l.getD i 0)) = l.map f := by
  intro l
  apply List.ext_getElem
  · simp
  · intro i h1 h2
    simp at h1
    simp [List.getD, h1]
local macro_rules | `(tactic| walk_at "exec For Name Name cons nil") => `(tactic| (k_here; (rename Fr _ _ _ _ => lF'); (with_unfolding_all refine' For_invVF lF' ?k1 ?k2 ?_; (case k1 => exact rfl); (case k2 => exact rfl); k_whole)))
local macro_rules | `(tactic| walk_at "pyIter ref") => `(tactic| ((with_reducible show wpAny _ _ (pyIter (Value.ref _)) (fun it s₂ => LoopAtV _ _ _ _ _ _ _ _ _ it s₂) _ _); refine Stop.of ?_))
local macro_rules | `(tactic| walk_at "inplaceOp Add ref") => `(tactic| (k_here; (with_reducible show wpAny _ _ (inplaceOp Operator.Add (Value.ref _) (Value.ref _)) _ _ _); k_dflt (refine' kl_iadd ?a1 ?a2 ?a3 ?a4 ?a5 ?a6 ?a7 ?a8 ?_; (case a1 => k_asm); (case a2 => k_asm); (case a3 => k_mem); (case a4 => k_upd); (case a5 => with_reducible assumption); (case a6 => first | with_reducible assumption | exact .cons _ _ (.cons _ _ .nil)); (case a7 => first | exact Nat.succ_ne_zero _ | omega); (case a8 => ((try simp only [List.length_cons, List.length_nil]); omega))); intro h' F' N' hi'))
local macro_rules | `(tactic| walk_at "FnPost") => `(tactic| refine Stop.of ?_)
local macro_rules | `(tactic| walk_at "GrPost") => `(tactic| refine Stop.of ?_)
set_option maxRecDepth 100000 in
set_option maxHeartbeats 8000000 in
theorem roots_call {w : World} {loose : List Str} {mean : ExcName → Option Value} {mg mb : Str → Option Value} {dp un : Nat} {gd : Option (List Code)} {cn : Str} {cs : Scope} {a : Addr} {ccd : Value} {cl : List (Str × Addr)} {outer : List Env} {A₀ : Around} {base h₀ : Heap} {L : Addr} {m : Str → Option Value} {s : Shared} {Q E : Value → Shared → Prop}
   {news : List (Addr × Obj)}
   (B : Below A₀ base outer h₀) (F : Fr h₀ L s.heap m) (X : (hd.heap_1 w.params).In h₀) (N : News h₀ L s.heap news) (T : Top view62 loose mean mg mb h₀) (hk : cs.kind = .function)
   (hd : dp + 4 < recursionLimit) (hu : un + 40 < cLine)
   (hret : ∀ (l : Addr) (vs : List Value) (n : Nat) (h' : Heap) (tk' : Nat), IntsAre vs roots62 → Fr h₀ L h' m → News h₀ L h' ((l, listOf vs.toArray n) :: news) → Q (.ref l) { s with heap := h', toks := tk' }) :
   wpAny (model PySem.Challenge.rw_yi0062_01.row.prog w) (ktrTop dp un gd cn cs L a ccd cl outer) (call (.ref 440) []) Q E s := by
  revert X
  k_fill
  intro X
  refine wpAny_call ?_
  (k_dflt (refine' code_def ?k1 ?k2 ?k3 ?k4 ?k5 ?kA ?kF ?kK ?k6 ?k7 ?k8 ?k9 ?kB ?_ ?c2 ?c3 ?c4 ?c5; (case kA => exact rfl); (case kF => exact rfl); (case kK => exact hk); (case k1 => k_asm); (case k2 => k_asm); (case k3 => k_asm); (case k4 => k_asm); (case k5 => k_asm); (case k6 => k_is); (case k7 => k_is); (case k8 => k_room); (case k9 => first | exact BindsTo.of_eq rfl | exact binds_K (by k_in) rfl (by k_is) rfl rfl rfl | fail "k_enter: no rule for these arguments"); (case c5 => decide); (case kB => exact locs rfl); (case c2 => exact rfl); (case c3 => exact rfl); (case c4 => exact rfl); k_whole; intro g' L' h' FG' F' N' B' X' T'; (try dsimp only); (try k_lift B'); (try k_fold)))
  k_steps
  refine Stop.out ?_
  (rename Fr _ _ _ _ => F1)
  (rename News _ _ _ _ => N1)
  (rename IsRange _ _ _ _ _ _ _ _ => R1)
  refine' for_grow (vs := [_]) (Str.ofString "row") [Str.ofString "_", Str.ofString "wide", Str.ofString "e"] rowE 7 (.head _) (by rfl) R1 (by decide) (by rfl) F1 N1 (.cons _ _ .nil) (by with_unfolding_all rfl) (by decide) ?turn ?done
  case turn =>
    clear F1 N1
    intro i t rl vsr nnr u h tk I it hi7 hbI hneI hiv F2 N2
    have hr64 := rowE_len i hi7
    k_steps
    refine Stop.out ?_
    (rename Fr _ _ _ _ => F3)
    (rename News _ _ _ _ => N3)
    (rename _ ∧ _ ∧ AllLt _ _ => l1)
    refine' for_ints (vs := []) (cs := []) [] splitE (by rfl) ?hl hiv F3 N3 (fun p hp => hp) .nil ?turn2 ?done2
    case hl => exact .tail _ (.head _)
    case turn2 =>
      clear F3 N3
      intro k t vs nc cs' u h tk own hk hoff hi' hpre F4 N4
      simp only [List.cons_append] at N4
      obtain ⟨pre, hp1, hp2⟩ := hpre
      have hp4 : cs'.length ≤ 128 := by rw [hp2, splitE_len]; simp only [List.length_nil]; omega
      have hq := all_app (allLt_ne l1.2.2) hoff (.head _)
      k_steps
      refine Stop.out ?_
      (rename Fr _ _ _ _ => F5)
      (rename News _ _ _ _ => N5)
      dsimp only [FnPost]
      refine ⟨_, _, _, _, _, _, rfl, F5, N5, .tail _ (.head _), fun p hp => .tail _ (.tail _ (List.mem_append.mpr (Or.inl hp) : p ∈ ((I, it) :: (rl, listOf vsr.toArray nnr) :: news) ++ own)), fun p hp => .tail _ (.tail _ (List.mem_append.mpr (Or.inr hp) : p ∈ ((I, it) :: (rl, listOf vsr.toArray nnr) :: news) ++ own)), by assumption, ?_⟩
      intro z h1 h2
      by_cases hz : z = Str.ofString "wide"
      · subst hz; exact (if_pos rfl).trans (if_pos rfl).symm
      · exact (if_neg hz).trans (fr1_off h1 h2)
    case done2 =>
      clear F3 N3
      intro vs nc u h tk hi' F4 N4
      k_steps
      refine Stop.out ?_
      (rename Fr _ _ _ _ => F5)
      (rename News _ _ _ _ => N5)
      dsimp only [GrPost]
      refine ⟨_, _, _, _, _, _, _, rfl, F5, N5, .tail _ (.head _), .head _, fun p hp => .tail _ (.tail _ (.tail _ hp)), ?_, hi', if_pos rfl, ?_⟩
      · show @Ne Nat _ _
        omega
      · intro z h1 h2
        exact (if_neg h1).trans ((fr1_off (st_ne h2 (.tail _ (.tail _ (.head _)))) rfl).trans ((if_neg (st_ne h2 (.tail _ (.head _)))).trans (frY_off h1 h2 (.head _))))
  case done =>
    clear F1 N1
    intro rl vs nn u h tk hiv F2 N2
    have hvl : vs.length = 128 := hiv.length.trans row7_len
    k_steps
    refine Stop.out ?_
    rw [show vs.toArray.size = (rowE 7).length by rw [List.size_toArray]; exact hiv.length]
    refine' comp_ints (fun i => pm 17 ((rowE 7).getD i 0)) ?turn3 ?fin3
    case turn3 =>
      rintro i ys v I oI C oC D m₂ h1 tk1 E' hi hv hC hx F1 N1 off ne
      obtain ⟨t, hk⟩ := hiv.get i (rowE 7)[i] (by simp [hi])
      have hv' : v = .int ((rowE 7).getD i 0) t := by
        have hv2 : vs[i]? = some v := by simpa using hv
        rw [hk] at hv2
        rw [← Option.some.inj hv2]
        simp [List.getD, hi]
      subst hv'
      have h0 : 0 ≤ (rowE 7).getD i 0 := by
        have := row7_nn (rowE 7)[i] (List.getElem_mem hi)
        simpa [List.getD, hi] using this
      k_steps
      refine Stop.out ?_
      (rename Fr _ _ _ _ => F3)
      (rename News _ _ _ _ => N3)
      exact comp_end0 F3 N3 (fun p hp => hp) off (by lcg_src)
    case fin3 =>
      intro ys hJ
      rw [map_range (fun e => pm 17 e)] at hJ
      k_steps
      (rename Fr _ _ _ _ => F3)
      (rename News _ _ _ _ => N3)
      refine hret _ ys ys.length _ _ hJ F3 (kst_newsOf N3 fun p hp => ?_)
      rcases List.mem_cons.mp hp with rfl | hp
      · exact .head _
      · exact .tail _ (.tail _ hp)
end Mine62
end
section
open PySem PySem.W PyProof.Rows PySem.Calls PyProof.V PySem.Spec
namespace Mine62
local macro_rules | `(tactic| walk_at "call builtin:len") => `(tactic| (k_here; k_dflt (show wpAny _ _ (call (Value.builtin "len") [Value.ref _]) _ _ _); k_dflt (refine' my_len ?k1 ?k2 ?k3 ?k4 ?_; (case k1 => k_asm); (case k2 => k_mem); (case k3 => with_reducible assumption); (case k4 => omega); k_whole)))
local macro_rules | `(tactic| walk_at "callWith ref") => `(tactic| (k_here; (with_reducible show wpAny _ _ (callWith _ (Value.ref _) _ _ (backToKw _ (keywordEach (_ :: _) _))) _ _ _); kco_here; k_dflt (refine' own_callWithKW ?k1 ?k2 ?k3 ?k4 ?k5 ?_; (case k1 => k_in); (case k2 => k_inst); (case k3 => rfl); (case k4 => k_is); (case k5 => rfl); k_whole)))
local macro_rules | `(tactic| walk_at "getMethod ref") => `(tactic| (k_here; k_dflt (refine' kmu_own ?k1 ?k2 ?k3 ?k4 ?k5 ?_; (case k1 => k_asm); (case k2 => k_asm); (case k3 => k_inst); (case k4 => k_is); (case k5 => k_is); k_whole)))
local macro_rules | `(tactic| k_mem) => `(tactic| assumption)
local macro_rules | `(tactic| k_room) => `(tactic| ktr_room)
local macro_rules | `(tactic| k_units) => `(tactic| ktr_units)
local macro_rules | `(tactic| k_all) => `(tactic| with_reducible assumption)
local macro_rules | `(tactic| walk_at "CompSrc") => `(tactic| (k_here; k_dflt (first
  | (refine LCg.CompSrc.range (by rfl) (by k_asm) (by k_asm) (by assumption) (by first | exact small_one (by omega) (by omega) (by omega) (by omega) | decide) (by first | exact rangeSize_nat _ _ | rfl) (by rw [PySem.sizeLine_eq]; omega) ?_; intro g'; refine Stop.of ?_)
  | (refine LCg.CompSrc.ledger (by rfl) (by k_asm) (by k_asm) (by k_mem) (by rw [PySem.sizeLine_eq]; simp only [List.size_toArray]; omega) ?_; intro g'; refine Stop.of ?_))))
local macro_rules | `(tactic| walk_at "CompEnd") => `(tactic| refine Stop.of ?_)
local macro_rules | `(tactic| walk_at "call builtin:pow") => `(tactic| (k_here; k_dflt (show wpAny _ _ (call (Value.builtin _) [Value.int _ _, Value.int _ _, Value.int _ _]) _ _ _); k_dflt (refine pow3 (by first | assumption | omega) ?_)))

theorem split_led {h₀ h : Heap} {L : Addr} {q : Addr × Obj} {tl : List (Addr × Obj)} (N : News h₀ L h (q :: tl)) : ∃ tl', tl' = tl ∧ News h₀ L h (q :: tl') := ⟨tl, rfl, N⟩
def pairStep (r : Int) (c : List Int) (t : Int × Int) : List Int := c.set (t.1.fmod 2).toNat (c.getD (t.1.fmod 2).toNat 0 + t.2 * pm r (t.1.fdiv 2))
def pairOf (ts : List (Int × Int)) (r : Int) : List Int := ts.foldl (pairStep r) [0, 0]
def valStep (ts : List (Int × Int)) (out : List Int) (r : Int) : List Int := out ++ pairOf ts r
def vals (ts : List (Int × Int)) (roots : List Int) : List Int := roots.foldl (valStep ts) []
theorem pairs_len (r : Int) (ts : List (Int × Int)) : ∀ c : List Int, (ts.foldl (pairStep r) c).length = c.length := by
  induction ts with
  | nil => intro c; rfl
  | cons k t ih => intro w; rw [List.foldl_cons, ih, pairStep, List.length_set]
theorem pairOf_len (ts : List (Int × Int)) (r : Int) : (pairOf ts r).length = 2 := pairs_len r ts [0, 0]
theorem vals_len (ts : List (Int × Int)) (ks : List Int) : ∀ w : List Int, (ks.foldl (valStep ts) w).length = w.length + 2 * ks.length := by
  induction ks with
  | nil => intro w; rfl
  | cons k r ih => intro w; rw [List.foldl_cons, ih, valStep, List.length_append, pairOf_len, List.length_cons]; omega
local macro_rules | `(tactic| walk_at "exec For Name Name cons nil") => `(tactic| (k_here; (rename Fr _ _ _ _ => lF'); (with_unfolding_all refine' For_invVF lF' ?k1 ?k2 ?_; (case k1 => exact rfl); (case k2 => exact rfl); k_whole)))
local macro_rules | `(tactic| walk_at "pyIter ref") => `(tactic| ((with_reducible show wpAny _ _ (pyIter (Value.ref _)) (fun it s₂ => LoopAtV _ _ _ _ _ _ _ _ _ it s₂) _ _); refine Stop.of ?_))
local macro_rules | `(tactic| walk_at "exec For Tuple Name cons nil") => `(tactic| (k_here; (rename Fr _ _ _ _ => lF'); (with_unfolding_all refine' For_turns lF' ?_; k_whole)))
local macro_rules | `(tactic| walk_at "pyIter ref") => `(tactic| ((with_reducible show wpAny _ _ (pyIter (Value.ref _)) (fun it s₂ => TurnsAt _ _ _ _ _ _ _ _ _ it s₂) _ _); refine Stop.of ?_))
local macro_rules | `(tactic| walk_at "FtPost") => `(tactic| refine Stop.of ?_)
local macro_rules | `(tactic| walk_at "inplaceOp Add ref") => `(tactic| (k_here; (with_reducible show wpAny _ _ (inplaceOp Operator.Add (Value.ref _) (Value.ref _)) _ _ _); k_dflt (refine' kl_iadd ?a1 ?a2 ?a3 ?a4 ?a5 ?a6 ?a7 ?a8 ?_; (case a1 => k_asm); (case a2 => k_asm); (case a3 => k_mem); (case a4 => k_upd); (case a5 => with_reducible assumption); (case a6 => first | with_reducible assumption | exact .cons _ _ (.cons _ _ .nil)); (case a7 => first | exact Nat.succ_ne_zero _ | omega); (case a8 => ((try simp only [List.length_cons, List.length_nil]); omega))); intro h' F' N' hi'))
local macro_rules | `(tactic| walk_at "FnPost") => `(tactic| refine Stop.of ?_)
local macro_rules | `(tactic| walk_at "GrPost") => `(tactic| refine Stop.of ?_)
set_option maxRecDepth 100000 in
set_option maxHeartbeats 8000000 in
theorem values_call {w : World} {loose : List Str} {mean : ExcName → Option Value} {mg mb : Str → Option Value} {dp un : Nat} {gd : Option (List Code)} {cn : Str} {cs : Scope} {a : Addr} {ccd : Value} {cl : List (Str × Addr)} {outer : List Env} {A₀ : Around} {base h₀ : Heap} {L : Addr} {m : Str → Option Value} {s : Shared} {Q E : Value → Shared → Prop}
   {lt lr : Addr} {vsT vsR : List Value} {ts : List (Int × Int)} {rs : List Int} {nT nR : Nat} {news : List (Addr × Obj)}
   (B : Below A₀ base outer h₀) (F : Fr h₀ L s.heap m) (X : (hd.heap_1 w.params).In h₀) (N : News h₀ L s.heap news) (T : Top view62 loose mean mg mb h₀) (hk : cs.kind = .function)
   (m1 : (lt, listOf vsT.toArray nT) ∈ news) (m2 : (lr, listOf vsR.toArray nR) ∈ news) (hT : TermsIn news vsT ts) (hR : IntsAre vsR rs) (hRl : rs.length ≤ 128) (hpl : ∀ t ∈ ts, 0 ≤ t.1 ∧ t.1 < 256)
   (hd : dp + 4 < recursionLimit) (hu : un + 40 < cLine)
   (hret : ∀ (l : Addr) (vs : List Value) (n : Nat) (h' : Heap) (tk' : Nat), IntsAre vs (vals ts rs) → Fr h₀ L h' m → News h₀ L h' ((l, listOf vs.toArray n) :: news) → (∀ p ∈ news, p.1 < l) → Q (.ref l) { s with heap := h', toks := tk' }) :
   wpAny (model PySem.Challenge.rw_yi0062_01.row.prog w) (ktrTop dp un gd cn cs L a ccd cl outer) (call (.ref 447) [.ref lt, .ref lr]) Q E s := by
  revert X
  k_fill
  intro X
  refine wpAny_call ?_
  (k_dflt (refine' code_def ?k1 ?k2 ?k3 ?k4 ?k5 ?kA ?kF ?kK ?k6 ?k7 ?k8 ?k9 ?kB ?_ ?c2 ?c3 ?c4 ?c5; (case kA => exact rfl); (case kF => exact rfl); (case kK => exact hk); (case k1 => k_asm); (case k2 => k_asm); (case k3 => k_asm); (case k4 => k_asm); (case k5 => k_asm); (case k6 => k_is); (case k7 => k_is); (case k8 => k_room); (case k9 => first | exact BindsTo.of_eq rfl | exact binds_K (by k_in) rfl (by k_is) rfl rfl rfl | fail "k_enter: no rule for these arguments"); (case c5 => decide); (case kB => exact locs rfl); (case c2 => exact rfl); (case c3 => exact rfl); (case c4 => exact rfl); k_whole; intro g' L' h' FG' F' N' B' X' T'; (try dsimp only); (try k_lift B'); (try k_fold)))
  k_steps
  refine Stop.out ?_
  (rename Fr _ _ _ _ => F1)
  (rename News _ _ _ _ => N1)
  (rename ∀ p ∈ news, p.1 < _ => l1)
  refine' for_ints (vs := []) (cs := []) [Str.ofString "pair", Str.ofString "place", Str.ofString "number"] (valStep ts) (by rfl) m2 hR F1 N1 (fun p hp => hp) .nil ?turn ?done
  case turn =>
    clear F1 N1
    intro r tr vs nc cs' u h tk own hr hoff hi' hpre F2 N2
    obtain ⟨pre, hp1, hp2⟩ := hpre
    have hp4 : cs'.length ≤ 256 := by rw [hp2, vals_len]; simp only [List.length_nil]; omega
    have hq := all_app (ne_of_lt_all l1) hoff (.head _)
    k_steps
    refine Stop.out ?_
    (rename Fr _ _ _ _ => F3)
    (rename News _ _ _ _ => N3)
    (rename _ ∧ AllLt _ _ => l2)
    have hne := allLt_ne (l := (_, listOf vs.toArray nc) :: (news ++ own)) l2
    obtain ⟨tl, htl, N4⟩ := split_led N3
    rw [← htl] at hne
    refine' for_terms (vs := [_, _]) (cs := [0, 0]) (tail := tl) [Str.ofString "place", Str.ofString "number"] (pairStep r) (by rfl) ?hl (hT.mono fun p hp => ?_) F3 N4 (fun p hp => hp) (.cons _ _ (.cons _ _ .nil)) ?turn2 ?done2
    case hl => rw [htl]; exact .tail _ (List.mem_append.mpr (.inl m1))
    · rw [htl]; exact .tail _ (List.mem_append.mpr (.inl hp))
    case turn2 =>
      clear F3 N3 N4
      intro a2 pl nm t2 u2 vs2 cs2 w2 h2 tk2 own2 hmem hts hoff2 hi2 hpre2 F4 N4
      obtain ⟨pre2, hpre2⟩ := hpre2
      have hl2 : cs2.length = 2 := by rw [hpre2, pairs_len]; rfl
      have hpp := hpl _ hts
      dsimp only at hpp
      have hmd0 : 0 ≤ pl.fmod 2 := Int.fmod_nonneg_of_pos _ (by decide)
      have hmd1 : pl.fmod 2 < 2 := Int.fmod_lt_of_pos _ (by decide)
      have hdv : 0 ≤ pl.fdiv 2 := by rw [Int.fdiv_eq_ediv_of_nonneg _ (by decide)]; omega
      have hpm := pm_bits r (pl.fdiv 2)
      have hm2 : (a2, tupO pl nm t2 u2) ∈ tl ++ own2 := List.mem_append.mpr (.inl hmem)
      have hq2 := all_app hne hoff2 (.head _)
      k_steps
      refine Stop.out ?_
      (rename Fr _ _ _ _ => F5)
      (rename News _ _ _ _ => N5)
      dsimp only [FtPost]
      refine ⟨_, _, _, _, _, rfl, F5, N5, .head _, fun p hp => .tail _ (List.mem_append.mpr (Or.inl hp)), fun p hp => .tail _ (List.mem_append.mpr (Or.inr hp)), by assumption, ?_⟩
      intro z h2
      exact (if_neg (st_ne h2 (.tail _ (.head _)))).trans ((if_neg (st_ne h2 (.head _))).trans (frS_off h2))
    case done2 =>
      clear F3 N3 N4
      intro vs2 w2 h2 tk2 hi2 F4 N4
      rw [htl] at N4
      have hl2 : (ts.foldl (pairStep r) [0, 0]).length = 2 := pairOf_len ts r
      k_steps
      refine Stop.out ?_
      (rename Fr _ _ _ _ => F5)
      (rename News _ _ _ _ => N5)
      dsimp only [FnPost]
      refine ⟨_, _, _, _, _, _, rfl, F5, N5, .tail _ (.head _), fun p hp => .tail _ (.tail _ (List.mem_append.mpr (Or.inl hp))), fun p hp => .tail _ (.tail _ (List.mem_append.mpr (Or.inr hp))), by assumption, ?_⟩
      intro z h1 h2
      by_cases hz : z = Str.ofString "out"
      · subst hz; exact (if_pos rfl).trans (if_pos rfl).symm
      · exact (if_neg hz).trans ((frS_off (st_of fun q hq => st_ne h2 (.tail _ hq))).trans ((if_neg (st_ne h2 (.head _))).trans (fr1_off h1 h2)))
  case done =>
    clear F1 N1
    intro vs nc u h tk hi' F2 N2
    k_steps
    exact hret _ vs nc _ _ hi' (by assumption) (by assumption) l1
end Mine62
end
section
open PySem PySem.W PyProof.Rows PySem.Calls PyProof.V PySem.Spec
namespace Mine62
theorem off1_of {D : Addr} : ∀ {l : List (Addr × Obj)}, (∀ p ∈ l, p.1 ≠ D) → LCg.Off1 D l
  | [], _ => trivial
  | _ :: _, h => ⟨h _ (.head _), off1_of fun p hp => h p (.tail _ hp)⟩
def ZEnd (h₀ : Heap) (L : Addr) (m : Str → Option Value) (s₁ : Shared) (X : List (Addr × Obj)) (k : Int) (y : Value) (s₂ : Shared) : Prop :=
  ∃ h' tk t, s₂ = { s₁ with heap := h', toks := tk } ∧ y = .int k t ∧ Fr h₀ L h' m ∧ News h₀ L h' X
theorem ZEnd.intro {h₀ : Heap} {L : Addr} {m : Str → Option Value} {s₁ : Shared} {X all : List (Addr × Obj)} {k : Int} {t : Tok} {h' : Heap} {tk : Nat} (F : Fr h₀ L h' m) (N : News h₀ L h' all) (sub : ∀ p ∈ X, p ∈ all) :
    ZEnd h₀ L m s₁ X k (.int k t) { s₁ with heap := h', toks := tk } := ⟨h', tk, t, rfl, rfl, F, fun p hp => N p (sub p hp)⟩
def ZTurn (prog : Program) (w : World) (A : Around) (h₀ : Heap) (L : Addr) (m : Str → Option Value) (env : Env) (elt : PySem.Expr) (x x₂ : Str) (scope : Scope) (cl : List (Str × Addr)) (s : Shared) (xs ys : List Value) (g : Nat → Int) (news : List (Addr × Obj)) : Prop :=
  ∀ i v₁ v₂ own C oC D out m₂ h tk (E' : Value → Shared → Prop), xs[i]? = some v₁ → ys[i]? = some v₂ → LCg.NsObj oC m₂ → m₂ x = some v₁ → m₂ x₂ = some v₂ → Fr h₀ L h m → News h₀ L h ((C, oC) :: (D, LCg.lst out) :: (news ++ own)) →
    wpAny (model prog w) A (eval elt (compEnvC scope cl C env)) (ZEnd h₀ L m { s with heap := h, toks := tk } ((C, oC) :: (D, LCg.lst out) :: (news ++ own)) (g i)) E' { s with heap := h, toks := tk }
section
variable {prog : Program} {w : World} {A : Around} {E : Value → Shared → Prop} {s : Shared} {h₀ : Heap} {L : Addr} {m : Str → Option Value} {env : Env}
set_option maxHeartbeats 2000000 in
theorem block_Z {elt iter : PySem.Expr} {x x₂ : Str} {px px₂ tp : Pos} {tk} {scope : Scope} {cl : List (Str × Addr)} {pos : Pos} {s₂ : Shared} {I : Addr} {fp wr : List Addr} {n : Nat} {xs ys : List Value} {g : Nat → Int} {St : Nat → Heap → Prop} {Mid : Nat → Addr → Heap → Prop} {news : List (Addr × Obj)}
    {RR : Value → Addr → Result → Shared → Prop}
    (W : WalksU prog w A I fp wr n (fun i vals => ∃ v₁ v₂, xs[i]? = some v₁ ∧ ys[i]? = some v₂ ∧ vals = #[v₁, v₂]) St Mid) (hsz : n ≤ sizeLine)
    (hcell : ∀ y ∈ scope.names, y.2 ≠ .cell) (hkind : scope.kind = .function) (hx : scope.names.lookup x = some .local) (hx₂ : scope.names.lookup x₂ = some .local) (hxx : x ≠ x₂) (hh : A.handled = none) (hst : St 0 s₂.heap) (hfp : ∀ b ∈ fp, b < s₂.heap.objs.size)
    (F : Fr h₀ L s₂.heap m) (N : News h₀ L s₂.heap news) (hLf : L ∉ fp) (hwr : ∀ b ∈ wr, h₀.get? b = none) (hnw : ∀ p ∈ news, p.1 ∉ wr)
    (R : ZTurn prog w A h₀ L m env elt x x₂ scope cl s₂ xs ys g news)
    (hRR : ∀ D C h tk m' out, Fr h₀ L h m → News h₀ L h ((D, LCg.lst out) :: news) → LCg.Off1 D news → h.Ns C m' → h₀.get? C = none → h₀.get? D = none → C ≠ L → D ≠ L → C ≠ D → (∀ p ∈ news, p.1 ≠ C) → IntsAre out ((List.range n).map g) → RR (.ref D) C (.ok .next) { s₂ with heap := h, toks := tk }) :
    wpAny (model prog w) A (newList []) (fun acc s₃ => wpAny (model prog w) A (newFunctionEnv scope env.globals cl [] env.qual none .none (some env)) (fun cenv s₄ =>
      codeAny (model prog w) A (.compStart (.ListComp elt [⟨.Tuple [.Name x px, .Name x₂ px₂] tk tp, iter, [], 0⟩] scope pos) 0 (.ref I) acc { cenv with scope := relabel scope env }) (RR acc cenv.locals) s₄) E s₃) E s₂ := by
  refine wpAny_newObj_type (wpAny_newFunctionEnv hcell (by intro y hy; simp at hy) (fun h₁ hns₁ hsb₁ => ?_) hkind)
  dsimp only at hns₁ hsb₁ ⊢
  generalize hH2 : s₂.heap.push { cls := .type "list", dict := none, data := .seq ([] : List Value).toArray } = H2 at hns₁ hsb₁ ⊢
  have hC : H2.objs.size = s₂.heap.objs.size + 1 := by rw [← hH2, Heap.size_push]
  have hDC : s₂.heap.objs.size ≠ H2.objs.size := by rw [hC]; exact Nat.ne_of_lt (Nat.lt_succ_self _)
  have below : ∀ b, b < s₂.heap.objs.size → b ≠ H2.objs.size ∧ b ≠ s₂.heap.objs.size := fun b hb => ⟨by rw [hC]; exact Nat.ne_of_lt (Nat.lt_succ_of_lt hb), Nat.ne_of_lt hb⟩
  have hDf : s₂.heap.objs.size ∉ fp := fun hm => Nat.lt_irrefl _ (hfp _ hm)
  have hCf : H2.objs.size ∉ fp := fun hm => by have := hfp _ hm; rw [hC] at this; exact Nat.lt_irrefl _ (Nat.lt_of_succ_lt this)
  have hDw : s₂.heap.objs.size ∉ wr := fun h => hDf (W.sub _ h)
  have hCw : H2.objs.size ∉ wr := fun h => hCf (W.sub _ h)
  have hLw : L ∉ wr := fun h => hLf (W.sub _ h)
  have old₀ : ∀ b o, h₀.get? b = some o → b ∉ wr := fun b o e hb => by rw [hwr b hb] at e; cases e
  have old : ∀ b o, s₂.heap.get? b = some o → h₁.get? b = some o := fun b o e => hsb₁.extBut b o (below b (Heap.lt_size e)).1 (Heap.get?_push_of_some _ (hH2 ▸ Heap.get?_push_of_some _ e))
  have hacc : h₁.get? s₂.heap.objs.size = some (LCg.lst []) := hsb₁.extBut _ _ hDC (Heap.get?_push_of_some _ (hH2 ▸ Heap.get?_push_size _ rfl))
  have hst₁ : St 0 h₁ := W.frame _ _ _ hst fun b _ o e => old b o e
  have fresh : ∀ a, s₂.heap.objs.size ≤ a → s₂.heap.get? a = none := fun a ha => by
    cases e : s₂.heap.get? a with
    | none => rfl
    | some o' => exact absurd (Heap.lt_size e) (Nat.not_lt.mpr ha)
  have fresh₀ : ∀ a, s₂.heap.objs.size ≤ a → h₀.get? a = none := fun a ha => by
    cases e : h₀.get? a with
    | none => rfl
    | some o' => have := F.keep a o' e; rw [fresh a ha] at this; cases this
  have hD₀ : h₀.get? s₂.heap.objs.size = none := fresh₀ _ (Nat.le_refl _)
  have hC₀ : h₀.get? H2.objs.size = none := fresh₀ _ (by rw [hC]; exact Nat.le_succ _)
  have hLlt : L < s₂.heap.objs.size := F.ns.lt
  have hDL : s₂.heap.objs.size ≠ L := Ne.symm (below L hLlt).2
  have hCL : H2.objs.size ≠ L := Ne.symm (below L hLlt).1
  have offC : ∀ p ∈ news, p.1 ≠ H2.objs.size := fun p hp => (below _ (Heap.lt_size (N p hp).1)).1
  have offD : ∀ p ∈ news, p.1 ≠ s₂.heap.objs.size := fun p hp => (below _ (Heap.lt_size (N p hp).1)).2
  have loop : ∀ s₃ : Shared, s₃ = { s₂ with heap := h₁, toks := s₂.toks + ([] : List (Str × Value)).length } →
      codeAny (model prog w) A (.compLoop (.ListComp elt [⟨.Tuple [.Name x px, .Name x₂ px₂] tk tp, iter, [], 0⟩] scope pos) 0 (.ref I) (.ref s₂.heap.objs.size) (compEnvC scope cl H2.objs.size env))
        (RR (.ref s₂.heap.objs.size) H2.objs.size) s₃ := by
    rintro s₃ rfl
    refine LCp.codeAny_compLoop_pair
      (fun k s' => ∃ h' tk i out m', s' = { s₂ with heap := h', toks := tk } ∧ i ≤ n ∧ k = n + 1 - i ∧ IntsAre out ((List.range i).map g) ∧ St i h' ∧ Fr h₀ L h' m ∧ h'.Ns H2.objs.size m' ∧ News h₀ L h' ((s₂.heap.objs.size, LCg.lst out) :: news)) ?_ (n + 1)
      ⟨h₁, _, 0, [], _, rfl, Nat.zero_le _, rfl, .nil, hst₁, F.keeps old, hns₁, fun p hp => ?_⟩
    · rintro k s' ⟨h', tk, i, out, m', rfl, hi, rfl, hyl, hst', F', hn', N'⟩
      have next : ∀ h₂ : Heap, (∀ b o, b ∉ wr → h'.get? b = some o → h₂.get? b = some o) → Fr h₀ L h₂ m ∧ News h₀ L h₂ ((s₂.heap.objs.size, LCg.lst out) :: news) ∧ h₂.Ns H2.objs.size m' := fun h₂ hk =>
        ⟨⟨F'.ns.at' fun o e => hk _ o hLw e, fun b o e => hk b o (old₀ b o e) (F'.keep b o e), F'.above⟩, fun p hp => ⟨hk _ _ (by
          rcases List.mem_cons.mp hp with rfl | hp
          · exact hDw
          · exact hnw p hp) (N' p hp).1, (N' p hp).2⟩, hn'.at' fun o e => hk _ o hCw e⟩
      have hol : out.length = i := by have := hyl.length; simpa using this
      by_cases hlt : i < n
      · refine W.item i _ _ _ hlt hst' fun T vals h₂ tk₂ hPv hT hMid hk₂ => ?_
        obtain ⟨v₁, v₂, hv₁, hv₂, rfl⟩ := hPv
        refine W.go _ _ _ i T _ _ _ hMid fun h₃ hst₃ hk₃ => ?_
        have hT₃ : IsTup h₃ T #[v₁, v₂] := hT.at fun o e => hk₃ T o (W.apart i T _ hMid) e
        obtain ⟨F₃, N₃, hn₃⟩ := next h₃ fun b o hb e => hk₃ b o hb (hk₂ b o hb e)
        refine assign_Tuple_tuple hh hT₃ rfl rfl fun h₅ he => ?_
        have he' : ∀ b o, h₃.get? b = some o → h₅.get? b = some o := fun b o e => he b o (Nat.ne_of_lt (Heap.lt_size e)) e
        refine assignInOrder_cons (wpAny_assign_Name (wpAny_storeName_local (lookup_relabel_local hx) (hn₃.at' fun o e => he' _ o e) (fun h₆ hn₆ hs₆ => ?_) (by simp [compEnvC, relabel, hkind])))
        refine assignInOrder_cons (wpAny_assign_Name (wpAny_storeName_local (lookup_relabel_local hx₂) hn₆ (fun h₇ hn₇ hs₇ => ?_) (by simp [compEnvC, relabel, hkind])))
        refine assignInOrder_nil ?_
        have old7 : ∀ b o, b ≠ H2.objs.size → h₃.get? b = some o → h₇.get? b = some o := fun b o hb e => hs₇.extBut b o hb (hs₆.extBut b o hb (he' b o e))
        have hst₇ : St (i + 1) h₇ := W.frame _ _ _ hst₃ fun b hb o e => old7 b o (fun q => hCf (by rw [← q]; exact hb)) e
        obtain ⟨oC, heC, hoC⟩ := LCg.ns_obj hn₇
        have F₇ : Fr h₀ L h₇ m := ((F₃.keeps he').change hs₆ hCL hC₀).change hs₇ hCL hC₀
        have N₇ : News h₀ L h₇ ((s₂.heap.objs.size, LCg.lst out) :: news) := fun p hp => by
          have z := N₃ p hp
          refine ⟨old7 _ _ ?_ z.1, z.2⟩
          rcases List.mem_cons.mp hp with rfl | hp
          · exact hDC
          · exact offC p hp
        have Nown : News h₀ L h₇ (ownOf h₀ fp h₇) := news_ownOf hLf
        have N₈ : News h₀ L h₇ ((H2.objs.size, oC) :: (s₂.heap.objs.size, LCg.lst out) :: (news ++ ownOf h₀ fp h₇)) := fun p hp => by
          rcases List.mem_cons.mp hp with rfl | hp
          · exact ⟨heC, hCL, hC₀⟩
          rcases List.mem_cons.mp hp with rfl | hp
          · exact N₇ _ (.head _)
          rcases List.mem_append.mp hp with hp | hp
          · exact N₇ _ (.tail _ hp)
          · exact Nown _ hp
        refine wpAny_mono (R i v₁ v₂ (ownOf h₀ fp h₇) H2.objs.size oC s₂.heap.objs.size out _ h₇ _ _ hv₁ hv₂ hoC (by simp [hxx]) (by simp) F₇ N₈) (fun y s₄ h₄ => ?_) fun _ _ e => e
        obtain ⟨h₈, tk₈, t, rfl, rfl, F₈, N₉⟩ := h₄
        have hst₈ : St (i + 1) h₈ := W.frame _ _ _ hst₇ fun b hb o e => by
          cases hn : h₀.get? b with
          | some o₀ =>
            have : o₀ = o := by have q := F₇.keep b o₀ hn; rw [e] at q; exact (Option.some.inj q).symm
            exact this ▸ F₈.keep b o₀ hn
          | none => exact (N₉ _ (.tail _ (.tail _ (List.mem_append_right _ (mem_ownOf hb hn e))))).1
        have zC := (N₉ (H2.objs.size, oC) (.head _)).1
        have zD := (N₉ (s₂.heap.objs.size, LCg.lst out) (.tail _ (.head _))).1
        refine append_at (hsz := by show out.toArray.size ≤ sizeLine; rw [List.size_toArray, hol]; exact Nat.le_trans hi hsz) zD fun h₉ hs₉ hD₉ => ?_
        refine ⟨n + 1 - (i + 1), by omega, h₉, _, i + 1, out ++ [.int (g i) t], _, rfl, hlt, rfl, ?_, W.frame _ _ _ hst₈ fun b hb o e => hs₉.extBut b o (fun q => hDf (q ▸ hb)) e, F₈.change hs₉ hDL hD₀, (hoC.ns zC).sameBut hs₉ (Ne.symm hDC), fun p hp => ?_⟩
        · rw [List.range_succ, List.map_append]; exact hyl.append (.cons _ t .nil)
        · rcases List.mem_cons.mp hp with rfl | hp
          · exact ⟨hD₉.trans (congrArg some (LCg.lst_snoc out _)), hDL, hD₀⟩
          · have q := N₉ p (.tail _ (.tail _ (List.mem_append_left _ hp)))
            exact ⟨hs₉.extBut _ _ (offD p hp) q.1, q.2⟩
      · obtain rfl : i = n := Nat.le_antisymm hi (Nat.not_lt.mp hlt)
        refine W.done _ _ _ hst' fun h₂ tk₂ hk₂ => ?_
        obtain ⟨F₂, N₂, hn₂⟩ := next h₂ hk₂
        exact hRR _ _ h₂ tk₂ _ out F₂ N₂ (off1_of offD) hn₂ hC₀ hD₀ hCL hDL (Ne.symm hDC) offC hyl
    · rcases List.mem_cons.mp hp with rfl | hp
      · exact ⟨hacc, hDL, hD₀⟩
      · exact ⟨old _ _ (N p hp).1, (N p hp).2⟩
  exact codeAny_compStart_list (loop _ rfl) (W.self 0 _ _ _ hst₁ (loop _ rfl))

/-- what the source of the comprehension, zip of two lists, must answer -/
def SrcZ (prog : Program) (w : World) (A : Around) (h₀ : Heap) (L : Addr) (m : Str → Option Value) (env : Env) (elt : PySem.Expr) (x x₂ : Str) (scope : Scope) (cl : List (Str × Addr)) (Fin : List Value → List (Addr × Obj) → Prop) (xv : Value) (s₁ : Shared) : Prop :=
  ∃ (z TI TO i1 i2 l1 l2 : Addr) (xs ys : List Value) (news : List (Addr × Obj)) (g : Nat → Int), xv = .ref z ∧ A.handled = none ∧ ZipApart z TI TO i1 i2 l1 l2 ∧
    (IsZip s₁.heap z TI TO .none ∧ IsPair s₁.heap TI (.ref i1) (.ref i2) ∧ (∃ a b, IsPair s₁.heap TO a b) ∧ s₁.heap.IsListIter i1 l1 0 ∧ s₁.heap.IsListIter i2 l2 0 ∧ s₁.heap.IsList l1 xs.toArray ∧ s₁.heap.IsList l2 ys.toArray) ∧
    Fr h₀ L s₁.heap m ∧ News h₀ L s₁.heap news ∧ L ∉ [z, TI, TO, i1, i2, l1, l2] ∧ (∀ b ∈ [z, TO, i1, i2], h₀.get? b = none) ∧ (∀ p ∈ news, p.1 ∉ [z, TO, i1, i2]) ∧ min xs.length ys.length ≤ sizeLine ∧
    (∀ s₂ : Shared, (∃ h, s₂ = { s₁ with heap := h }) → ZTurn prog w A h₀ L m env elt x x₂ scope cl s₂ xs ys g news) ∧
    ∀ out, IntsAre out ((List.range (min xs.length ys.length)).map g) → Fin out news

theorem Assign_ListComp_Z {elt iter : PySem.Expr} {x x₂ y : Str} {px px₂ tp py : Pos} {tk} {scope : Scope} {cl : List (Str × Addr)} {pos spos : Pos} {Q : Flow → Shared → Prop} (F₀ : Fr h₀ L s.heap m) (hLe : env.locals = L)
    (hsw : swapsWith (.ListComp elt [⟨.Tuple [.Name x px, .Name x₂ px₂] tk tp, iter, [], 0⟩] scope pos) (some (.Name y py)) spos.line env = pure true)
    (hclos : closureFor scope env = pure cl) (hcell : ∀ z ∈ scope.names, z.2 ≠ .cell) (hkind : scope.kind = .function)
    (hnames : ∀ z ∈ scope.names, z.2 = .local → scope.names.lookup z.1 = some .local) (hx : scope.names.lookup x = some .local) (hx₂ : scope.names.lookup x₂ = some .local) (hxx : x ≠ x₂)
    (hy : env.kindOf y = some .local) (hp : (env.scope.kind == .class || (env.scope.kind == .module && env.locals != env.globals)) = false)
    (h : wpAny (model prog w) A (eval iter env) (fun xv s₁ => SrcZ prog w A h₀ L m env elt x x₂ scope cl (LCg.FinA h₀ L m s₁ y Q) xv s₁) E s)
    (hs : ∀ x, foldedSetIterable iter env x = pure x := by intro _; rfl) :
    wpAny (model prog w) A (exec (.Assign [.Name y py] (.ListComp elt [⟨.Tuple [.Name x px, .Name x₂ px₂] tk tp, iter, [], 0⟩] scope pos) spos) env) Q E s := by
  subst hLe
  rw [exec_Assign_Name_used _ _ _ _ hsw]
  refine wpAny_bind (wpAny_standAt (wpAny_bind ?_))
  show wpAny _ A (do let _ ← comprehension (.ListComp elt [⟨.Tuple [.Name x px, .Name x₂ px₂] tk tp, iter, [], 0⟩] scope pos) scope env _ (newList []) false (eval iter env) (some (assign (.Name y py) env))) _ _ s
  refine wpAny_bind (wpAny_mono (wpAny_comprehension_free (use := some (assign (.Name y py) env)) (Q := fun _ s' => Q .next s') rfl hs hclos hkind hnames
    (wpAny_mono h (fun xv s₁ h₁ => ?_) fun _ _ e => e)) (fun _ s' hq => wpAny_pure (wpAny_pure hq)) fun _ _ e => e)
  obtain ⟨z, TI, TO, i1, i2, l1, l2, xs, ys, news, g, rfl, hh, D, st, F, N, hLf, hwr, hnw, hsz, R, fin⟩ := h₁
  refine wpAny_pyIter_zip st.1 ?_
  have hsz' : min xs.toArray.size ys.toArray.size ≤ sizeLine := by simpa using hsz
  have W := (WalksT.zip2 (prog := prog) (w := w) hh z TI TO i1 i2 l1 l2 D xs.toArray ys.toArray).toU
  simp only [List.getElem?_toArray] at W
  have lt : ∀ b o, s₁.heap.get? b = some o → b < s₁.heap.objs.size := fun b o e => Heap.lt_size e
  refine block_Z W hsz' hcell hkind hx hx₂ hxx hh st ?_ F N hLf hwr hnw (R _ ⟨_, rfl⟩) ?_
  · intro b hb
    obtain ⟨h1, h2, ⟨_, _, h3⟩, ⟨_, h4, _⟩, ⟨_, h5, _⟩, ⟨_, h6, _⟩, ⟨_, h7, _⟩⟩ := st
    have hb' : b = z ∨ b = TI ∨ b = TO ∨ b = i1 ∨ b = i2 ∨ b = l1 ∨ b = l2 := by simpa using hb
    rcases hb' with rfl | rfl | rfl | rfl | rfl | rfl | rfl
    · exact lt _ _ h1
    · exact lt _ _ h2
    · exact lt _ _ h3
    · exact lt _ _ h4
    · exact lt _ _ h5
    · exact lt _ _ h6
    · exact lt _ _ h7
  · intro D C h' tk m' out F' N' o1 hn hC₀ hD₀ hCL hDL hCD offC hout
    show wpAny _ A (assign (.Name y py) env (.ref D)) _ _ _
    refine wpAny_assign_Name (wpAny_storeName_local hy F'.ns (fun h₂ hn₂ hs₂ => ?_) hp)
    have hL₀ : h₀.get? env.locals = none := Heap.get?_none_of_le F'.above
    have F₂ : Fr h₀ env.locals h₂ (fun z => if z = y then some (.ref D) else m z) := ⟨hn₂, fun b o e => hs₂.extBut b o (fun q => by rw [q, hL₀] at e; cases e) (F'.keep b o e), F'.above⟩
    refine ⟨m', hn.sameBut hs₂ hCL, fun h'' hs'' => fin _ (by simpa using hout) D h'' _ (F₂.change hs'' hCL hC₀) (fun p hp => ?_) o1⟩
    have z : h₂.get? p.1 = some p.2 := hs₂.extBut _ _ (N' p hp).2.1 (N' p hp).1
    refine ⟨hs''.extBut _ _ ?_ z, (N' p hp).2⟩
    rcases List.mem_cons.mp hp with rfl | hp
    · exact Ne.symm hCD
    · exact offC p hp

theorem src_zip {elt : PySem.Expr} {x x₂ : Str} {scope : Scope} {cl : List (Str × Addr)} {FinZ : Shared → List Value → List (Addr × Obj) → Prop} {l1 l2 : Addr} {xs ys : List Value} {n1 n2 : Nat} {news : List (Addr × Obj)} (g : Nat → Int)
    (hh : A.handled = none) (F : Fr h₀ L s.heap m) (N : News h₀ L s.heap news) (hm1 : (l1, listOf xs.toArray n1) ∈ news) (hm2 : (l2, listOf ys.toArray n2) ∈ news) (hsz : min xs.length ys.length ≤ sizeLine)
    (turn : ∀ h, ZTurn prog w A h₀ L m env elt x x₂ scope cl { s with heap := h } xs ys g news)
    (fin : ∀ h out, IntsAre out ((List.range (min xs.length ys.length)).map g) → FinZ { s with heap := h } out news) :
    wpAny (model prog w) A (call (.type "zip") [.ref l1, .ref l2]) (fun xv s₁ => SrcZ prog w A h₀ L m env elt x x₂ scope cl (FinZ s₁) xv s₁) E s := by
  have hax1 := N _ hm1
  have hax2 := N _ hm2
  have hl1 : s.heap.IsList l1 xs.toArray := ⟨_, hax1.1, rfl, n1, rfl⟩
  have hl2 : s.heap.IsList l2 ys.toArray := ⟨_, hax2.1, rfl, n2, rfl⟩
  have hlt1 : l1 < s.heap.objs.size := Heap.lt_size hax1.1
  have hlt2 : l2 < s.heap.objs.size := Heap.lt_size hax2.1
  have hLs : L < s.heap.objs.size := F.ns.lt
  have D : ZipApart (s.heap.objs.size + 4) (s.heap.objs.size + 2) (s.heap.objs.size + 3) s.heap.objs.size (s.heap.objs.size + 1) l1 l2 := ktu_apart _ _ _ hlt1 hlt2
  refine call_zip_2 hl1 hl2 fun h' hz hTI hTO hi1 hi2 hsz' hk => ?_
  refine ⟨_, _, _, _, _, l1, l2, xs, ys, news, g, rfl, hh, D, ⟨hz, hTI, ⟨_, _, hTO⟩, hi1, hi2, hl1.at fun o e => hk l1 o e, hl2.at fun o e => hk l2 o e⟩, F.keeps hk, N.grown hk, ?_, ?_, ?_, hsz, ?_, ?_⟩
  · intro hm
    have hb' : L = s.heap.objs.size + 4 ∨ L = s.heap.objs.size + 2 ∨ L = s.heap.objs.size + 3 ∨ L = s.heap.objs.size ∨ L = s.heap.objs.size + 1 ∨ L = l1 ∨ L = l2 := by simpa using hm
    rcases hb' with e | e | e | e | e | e | e
    · exact ktu_ne 4 hLs e
    · exact ktu_ne 2 hLs e
    · exact ktu_ne 3 hLs e
    · exact ktu_ne 0 hLs e
    · exact ktu_ne 1 hLs e
    · exact hax1.2.1 e.symm
    · exact hax2.2.1 e.symm
  · intro b hb
    have hb' : b = s.heap.objs.size + 4 ∨ b = s.heap.objs.size + 3 ∨ b = s.heap.objs.size ∨ b = s.heap.objs.size + 1 := by simpa using hb
    rcases hb' with rfl | rfl | rfl | rfl
    · exact ktu_new F (Nat.le_add_right _ _)
    · exact ktu_new F (Nat.le_add_right _ _)
    · exact ktu_new F (Nat.le_refl _)
    · exact ktu_new F (Nat.le_add_right _ _)
  · intro p hp hm
    have hlp := Heap.lt_size (N p hp).1
    have hb' : p.1 = s.heap.objs.size + 4 ∨ p.1 = s.heap.objs.size + 3 ∨ p.1 = s.heap.objs.size ∨ p.1 = s.heap.objs.size + 1 := by simpa using hm
    rcases hb' with e | e | e | e
    · exact ktu_ne 4 hlp e
    · exact ktu_ne 3 hlp e
    · exact ktu_ne 0 hlp e
    · exact ktu_ne 1 hlp e
  · rintro s₂ ⟨h, rfl⟩
    exact turn h
  · exact fin _
end
end Mine62
end
section
open PySem PySem.W PyProof.Rows PySem.Calls PyProof.V PySem.Spec
namespace Mine62
local macro_rules | `(tactic| walk_at "call builtin:len") => `(tactic| (k_here; k_dflt (show wpAny _ _ (call (Value.builtin "len") [Value.ref _]) _ _ _); k_dflt (refine' my_len ?k1 ?k2 ?k3 ?k4 ?_; (case k1 => k_asm); (case k2 => k_mem); (case k3 => with_reducible assumption); (case k4 => omega); k_whole)))
local macro_rules | `(tactic| walk_at "callWith ref") => `(tactic| (k_here; (with_reducible show wpAny _ _ (callWith _ (Value.ref _) _ _ (backToKw _ (keywordEach (_ :: _) _))) _ _ _); kco_here; k_dflt (refine' own_callWithKW ?k1 ?k2 ?k3 ?k4 ?k5 ?_; (case k1 => k_in); (case k2 => k_inst); (case k3 => rfl); (case k4 => k_is); (case k5 => rfl); k_whole)))
local macro_rules | `(tactic| walk_at "getMethod ref") => `(tactic| (k_here; k_dflt (refine' kmu_own ?k1 ?k2 ?k3 ?k4 ?k5 ?_; (case k1 => k_asm); (case k2 => k_asm); (case k3 => k_inst); (case k4 => k_is); (case k5 => k_is); k_whole)))
local macro_rules | `(tactic| k_mem) => `(tactic| assumption)
local macro_rules | `(tactic| k_room) => `(tactic| ktr_room)
local macro_rules | `(tactic| k_units) => `(tactic| ktr_units)
local macro_rules | `(tactic| k_all) => `(tactic| with_reducible assumption)
local macro_rules | `(tactic| walk_at "exec Assign cons ListComp") => `(tactic| (k_here; k_dflt (refine Assign_ListComp_Z (F₀ := by k_asm) (by rfl) (by with_unfolding_all rfl) (by with_unfolding_all rfl) (by decide) (by rfl) (by decide) (by rfl) (by rfl) (by decide) (by rfl) (by rfl) ?_)))
local macro_rules | `(tactic| walk_at "call type:zip") => `(tactic| (k_here; (with_reducible show wpAny _ _ _ (fun xv s₁ => SrcZ _ _ _ _ _ _ _ _ _ _ _ _ _ xv s₁) _ _); refine Stop.of ?_))
local macro_rules | `(tactic| walk_at "ZEnd") => `(tactic| refine Stop.of ?_)

def addZ (xs ys : List Int) (i : Nat) : Int := (xs.getD i 0 + ys.getD i 0).fmod 3329
def subZ (xs ys : List Int) (i : Nat) : Int := (xs.getD i 0 - ys.getD i 0).fmod 3329
theorem off1_all {D : Addr} (l : List (Addr × Obj)) : LCg.Off1 D l → ∀ p ∈ l, p.1 ≠ D := by
  induction l with
  | nil => intro _ p hp; cases hp
  | cons q r ih =>
    intro h p hp
    rcases List.mem_cons.mp hp with e | hp
    · rw [e]; exact h.1
    · exact ih h.2 p hp
theorem off1_mem {D : Addr} {q : Addr × Obj} {l : List (Addr × Obj)} (h : LCg.Off1 D (q :: l)) : ∀ p ∈ l, p.1 ≠ D := off1_all l h.2
theorem news_drop1 {h₀ h : Heap} {L : Addr} {q c1 : Addr × Obj} {rest : List (Addr × Obj)} (N : News h₀ L h (q :: c1 :: rest)) : News h₀ L h (q :: rest) := fun p hp => N p (by
  rcases List.mem_cons.mp hp with rfl | hp
  · exact .head _
  · exact .tail _ (.tail _ hp))
theorem ints_at {vs : List Value} {ns : List Int} (h : IntsAre vs ns) : ∀ {i : Nat} {v : Value}, vs[i]? = some v → ∃ t, v = .int (ns.getD i 0) t := by
  induction h with
  | nil => intro i v e; simp at e
  | cons n t h ih =>
    intro i v e
    cases i with
    | zero => simp at e; exact ⟨t, by simp [← e]⟩
    | succ i => simp at e; simpa using ih e
set_option maxRecDepth 100000 in
set_option maxHeartbeats 8000000 in
theorem add_list {w : World} {loose : List Str} {mean : ExcName → Option Value} {mg mb : Str → Option Value} {dp un : Nat} {gd : Option (List Code)} {cn : Str} {cs : Scope} {a : Addr} {ccd : Value} {cl : List (Str × Addr)} {outer : List Env} {A₀ : Around} {base h₀ : Heap} {L : Addr} {m : Str → Option Value} {s : Shared} {Q E : Value → Shared → Prop}
   {x1 d1 c1 : Addr} {vs1 : List Value} {ns1 : List Int} {nd1 nl1 : Nat} {ta1 tb1 : Tok} {x2 d2 c2 : Addr} {vs2 : List Value} {ns2 : List Int} {nd2 nl2 : Nat} {ta2 tb2 : Tok} {r dr lz : Addr} {n2 : Nat} {tq uq tn tn2 tz tf tf2 : Tok} {news : List (Addr × Obj)}
   (B : Below A₀ base outer h₀) (F : Fr h₀ L s.heap m) (X : (hd.heap_1 w.params).In h₀) (N : News h₀ L s.heap news) (T : Top view62 loose mean mg mb h₀) (hk : cs.kind = .function)
   (x1m : (x1, instObj 426 d1) ∈ news) (d1m : (d1, dictOf [ent w (Str.ofString "parent") ta1 (.ref r), ent w (Str.ofString "coeffs") tb1 (.ref c1)] nd1) ∈ news) (c1m : (c1, listOf vs1.toArray nl1) ∈ news) (hi1 : IntsAre vs1 ns1) (hl1 : ns1.length = 256)
   (x2m : (x2, instObj 426 d2) ∈ news) (d2m : (d2, dictOf [ent w (Str.ofString "parent") ta2 (.ref r), ent w (Str.ofString "coeffs") tb2 (.ref c2)] nd2) ∈ news) (c2m : (c2, listOf vs2.toArray nl2) ∈ news) (hi2 : IntsAre vs2 ns2) (hl2 : ns2.length = 256)
   (rm : (r, instObj 282 dr) ∈ news) (drm : (dr, dictOf [ent w (Str.ofString "q") tq (.int 3329 uq), ent w (Str.ofString "n") tn (.int 256 tn2), ent w (Str.ofString "ntt_zetas") tz (.ref lz), ent w (Str.ofString "ntt_f") tf (.int 3303 tf2)] n2) ∈ news)
   (hd : dp + 10 < recursionLimit) (hu : un + 100 < cLine)
   (hret : ∀ (l : Addr) (vs : List Value) (n : Nat) (h' : Heap) (tk' : Nat), IntsAre vs ((List.range 256).map (addZ ns1 ns2)) → Fr h₀ L h' m → News h₀ L h' ((l, listOf vs.toArray n) :: news) → (∀ p ∈ news, p.1 ≠ l) → Q (.ref l) { s with heap := h', toks := tk' }) :
   wpAny (model PySem.Challenge.rw_yi0062_01.row.prog w) (ktrTop dp un gd cn cs L a ccd cl outer) (call (.ref 132) [.ref x1, .ref x2]) Q E s := by
  revert X
  k_fill
  intro X
  refine wpAny_call ?_
  (k_dflt (refine' code_defC ?k1 ?k2 ?k3 ?k4 ?k5 ?kA ?kF ?kK ?k6 ?k7 ?k8 ?k9 ?kB ?kD ?_ ?c2 ?c3 ?c4; (case kA => exact rfl); (case kF => exact rfl); (case kK => exact hk); (case k1 => k_asm); (case k2 => k_asm); (case k3 => k_asm); (case k4 => k_asm); (case k5 => k_asm); (case k6 => k_is); (case k7 => k_is); (case k8 => k_room); (case k9 => first | exact BindsTo.of_eq rfl | exact binds_K (by k_in) rfl (by k_is) rfl rfl rfl | fail "k_enter: no rule for these arguments"); (case kB => exact rfl); (case kD => decide +kernel); (case c2 => exact rfl); (case c3 => exact rfl); (case c4 => exact rfl); k_whole; intro g' L' h' tk' cells' FG' F' N' Y' B' X' T' l1; (try k_lt l1); k_cells Y'; (try simp only [List.cons_append, List.nil_append] at N'); (try dsimp only); (try k_lift B'); (try k_fold)))
  k_steps
  refine Stop.out ?_
  (rename Fr _ _ _ _ => F1)
  (rename News _ _ _ _ => N1)
  refine' src_zip (addZ ns1 ns2) rfl F1 N1 ?m1 ?m2 ?hsz ?turn ?fin
  case m1 => k_mem
  case m2 => k_mem
  case hsz => rw [hi1.length, hi2.length, hl1, hl2]; decide
  case turn =>
    clear F1 N1
    intro g0 i v₁ v₂ own C oC D out m₂ h tk E' hv1 hv2 hC hx hx2 F1 N1
    obtain ⟨t1, rfl⟩ := ints_at hi1 hv1
    obtain ⟨t2, rfl⟩ := ints_at hi2 hv2
    have q1 := List.mem_append_left own x1m
    have q2 := List.mem_append_left own d1m
    have q3 := List.mem_append_left own rm
    have q4 := List.mem_append_left own drm
    simp only [List.cons_append] at N1
    k_steps
    refine Stop.out ?_
    (rename Fr _ _ _ _ => F2)
    (rename News _ _ _ _ => N2)
    exact ZEnd.intro F2 N2 (fun p hp => hp)
  case fin =>
    clear F1 N1
    intro g0 out hout
    rw [hi1.length, hi2.length, hl1, hl2] at hout
    intro D h tk F1 N1 off
    k_steps
    (rename Fr _ _ _ _ => F2)
    (rename News _ _ _ _ => N2)
    exact hret D out out.length _ _ hout F2 (news_drop1 N2) (off1_mem off)
set_option maxRecDepth 100000 in
set_option maxHeartbeats 8000000 in
theorem sub_list {w : World} {loose : List Str} {mean : ExcName → Option Value} {mg mb : Str → Option Value} {dp un : Nat} {gd : Option (List Code)} {cn : Str} {cs : Scope} {a : Addr} {ccd : Value} {cl : List (Str × Addr)} {outer : List Env} {A₀ : Around} {base h₀ : Heap} {L : Addr} {m : Str → Option Value} {s : Shared} {Q E : Value → Shared → Prop}
   {x1 d1 c1 : Addr} {vs1 : List Value} {ns1 : List Int} {nd1 nl1 : Nat} {ta1 tb1 : Tok} {x2 d2 c2 : Addr} {vs2 : List Value} {ns2 : List Int} {nd2 nl2 : Nat} {ta2 tb2 : Tok} {r dr lz : Addr} {n2 : Nat} {tq uq tn tn2 tz tf tf2 : Tok} {news : List (Addr × Obj)}
   (B : Below A₀ base outer h₀) (F : Fr h₀ L s.heap m) (X : (hd.heap_1 w.params).In h₀) (N : News h₀ L s.heap news) (T : Top view62 loose mean mg mb h₀) (hk : cs.kind = .function)
   (x1m : (x1, instObj 426 d1) ∈ news) (d1m : (d1, dictOf [ent w (Str.ofString "parent") ta1 (.ref r), ent w (Str.ofString "coeffs") tb1 (.ref c1)] nd1) ∈ news) (c1m : (c1, listOf vs1.toArray nl1) ∈ news) (hi1 : IntsAre vs1 ns1) (hl1 : ns1.length = 256)
   (x2m : (x2, instObj 426 d2) ∈ news) (d2m : (d2, dictOf [ent w (Str.ofString "parent") ta2 (.ref r), ent w (Str.ofString "coeffs") tb2 (.ref c2)] nd2) ∈ news) (c2m : (c2, listOf vs2.toArray nl2) ∈ news) (hi2 : IntsAre vs2 ns2) (hl2 : ns2.length = 256)
   (rm : (r, instObj 282 dr) ∈ news) (drm : (dr, dictOf [ent w (Str.ofString "q") tq (.int 3329 uq), ent w (Str.ofString "n") tn (.int 256 tn2), ent w (Str.ofString "ntt_zetas") tz (.ref lz), ent w (Str.ofString "ntt_f") tf (.int 3303 tf2)] n2) ∈ news)
   (hd : dp + 10 < recursionLimit) (hu : un + 100 < cLine)
   (hret : ∀ (l : Addr) (vs : List Value) (n : Nat) (h' : Heap) (tk' : Nat), IntsAre vs ((List.range 256).map (subZ ns1 ns2)) → Fr h₀ L h' m → News h₀ L h' ((l, listOf vs.toArray n) :: news) → (∀ p ∈ news, p.1 ≠ l) → Q (.ref l) { s with heap := h', toks := tk' }) :
   wpAny (model PySem.Challenge.rw_yi0062_01.row.prog w) (ktrTop dp un gd cn cs L a ccd cl outer) (call (.ref 158) [.ref x1, .ref x2]) Q E s := by
  revert X
  k_fill
  intro X
  refine wpAny_call ?_
  (k_dflt (refine' code_defC ?k1 ?k2 ?k3 ?k4 ?k5 ?kA ?kF ?kK ?k6 ?k7 ?k8 ?k9 ?kB ?kD ?_ ?c2 ?c3 ?c4; (case kA => exact rfl); (case kF => exact rfl); (case kK => exact hk); (case k1 => k_asm); (case k2 => k_asm); (case k3 => k_asm); (case k4 => k_asm); (case k5 => k_asm); (case k6 => k_is); (case k7 => k_is); (case k8 => k_room); (case k9 => first | exact BindsTo.of_eq rfl | exact binds_K (by k_in) rfl (by k_is) rfl rfl rfl | fail "k_enter: no rule for these arguments"); (case kB => exact rfl); (case kD => decide +kernel); (case c2 => exact rfl); (case c3 => exact rfl); (case c4 => exact rfl); k_whole; intro g' L' h' tk' cells' FG' F' N' Y' B' X' T' l1; (try k_lt l1); k_cells Y'; (try simp only [List.cons_append, List.nil_append] at N'); (try dsimp only); (try k_lift B'); (try k_fold)))
  k_steps
  refine Stop.out ?_
  (rename Fr _ _ _ _ => F1)
  (rename News _ _ _ _ => N1)
  refine' src_zip (subZ ns1 ns2) rfl F1 N1 ?m1 ?m2 ?hsz ?turn ?fin
  case m1 => k_mem
  case m2 => k_mem
  case hsz => rw [hi1.length, hi2.length, hl1, hl2]; decide
  case turn =>
    clear F1 N1
    intro g0 i v₁ v₂ own C oC D out m₂ h tk E' hv1 hv2 hC hx hx2 F1 N1
    obtain ⟨t1, rfl⟩ := ints_at hi1 hv1
    obtain ⟨t2, rfl⟩ := ints_at hi2 hv2
    have q1 := List.mem_append_left own x1m
    have q2 := List.mem_append_left own d1m
    have q3 := List.mem_append_left own rm
    have q4 := List.mem_append_left own drm
    simp only [List.cons_append] at N1
    k_steps
    refine Stop.out ?_
    (rename Fr _ _ _ _ => F2)
    (rename News _ _ _ _ => N2)
    exact ZEnd.intro F2 N2 (fun p hp => hp)
  case fin =>
    clear F1 N1
    intro g0 out hout
    rw [hi1.length, hi2.length, hl1, hl2] at hout
    intro D h tk F1 N1 off
    k_steps
    (rename Fr _ _ _ _ => F2)
    (rename News _ _ _ _ => N2)
    exact hret D out out.length _ _ hout F2 (news_drop1 N2) (off1_mem off)
end Mine62
end
section
open PySem PySem.W PyProof.Rows PySem.Calls PyProof.V PySem.Spec
namespace Mine62
local macro_rules | `(tactic| walk_at "no tree W9 0") => `(tactic| fail "no tree")
local macro_rules | `(tactic| walk_at "call builtin:len") => `(tactic| (k_here; k_dflt (show wpAny _ _ (call (Value.builtin "len") [Value.ref _]) _ _ _); k_dflt (refine' my_len ?k1 ?k2 ?k3 ?k4 ?_; (case k1 => k_asm); (case k2 => k_mem); (case k3 => with_reducible assumption); (case k4 => omega); k_whole)))
local macro_rules | `(tactic| walk_at "callWith ref") => `(tactic| (k_here; (with_reducible show wpAny _ _ (callWith _ (Value.ref _) _ _ (backToKw _ (keywordEach (_ :: _) _))) _ _ _); kco_here; k_dflt (refine' own_callWithKW ?k1 ?k2 ?k3 ?k4 ?k5 ?_; (case k1 => k_in); (case k2 => k_inst); (case k3 => rfl); (case k4 => k_is); (case k5 => rfl); k_whole)))
local macro_rules | `(tactic| walk_at "getMethod ref") => `(tactic| (k_here; k_dflt (refine' kmu_own ?k1 ?k2 ?k3 ?k4 ?k5 ?_; (case k1 => k_asm); (case k2 => k_asm); (case k3 => k_inst); (case k4 => k_is); (case k5 => k_is); k_whole)))
local macro_rules | `(tactic| k_mem) => `(tactic| assumption)
local macro_rules | `(tactic| k_room) => `(tactic| ktr_room)
local macro_rules | `(tactic| k_units) => `(tactic| ktr_units)
local macro_rules | `(tactic| k_all) => `(tactic| with_reducible assumption)
local macro_rules | `(tactic| walk_at "call ref") => `(tactic| (k_here; k_dflt (show wpAny _ _ (call (Value.ref _) [Value.ref _] (List.zip _ _)) _ _ _); k_dflt (refine' ring_call true ?k1 ?k2 ?k3 ?k4 ?k5 ?k6 ?m1 ?m2 ?m3 ?hi ?hl ?hd ?hu ?_; (case k1 => k_asm); (case k2 => k_asm); (case k3 => k_asm); (case k4 => k_asm); (case k5 => k_asm); (case k6 => exact rfl); (case m1 => k_mem); (case m2 => k_mem); (case m3 => k_mem); (case hi => with_reducible assumption); (case hl => simp only [List.length_map, List.length_range]); (case hd => ktr_room); (case hu => ktr_units); intro xr9 dr9 tr9 ur9 hr9 kr9 FR9 NR9 ltr9 lsr9; (rw [if_pos rfl] at NR9); (try dsimp only); (try k_fold))))
local macro_rules | `(tactic| walk_at "call ref") => `(tactic| (k_here; k_dflt (show wpAny _ _ (call (Value.ref 132) [Value.ref _, Value.ref _]) _ _ _); k_dflt (refine' add_list ?k1 ?k2 ?k3 ?k4 ?k5 ?k6 ?a1 ?a2 ?a3 ?a4 ?a5 ?b1 ?b2 ?b3 ?b4 ?b5 ?r1 ?r2 ?hd ?hu ?_; (case k1 => k_asm); (case k2 => k_asm); (case k3 => k_asm); (case k4 => k_asm); (case k5 => k_asm); (case k6 => exact rfl); (case a1 => k_mem); (case a2 => k_mem); (case a3 => k_mem); (case a4 => with_reducible assumption); (case a5 => with_reducible assumption); (case b1 => k_mem); (case b2 => k_mem); (case b3 => k_mem); (case b4 => with_reducible assumption); (case b5 => with_reducible assumption); (case r1 => k_mem); (case r2 => k_mem); (case hd => ktr_room); (case hu => ktr_units); intro la9 vs9 n9 h9 tk9 i9 F9 N9 ne9; (try dsimp only); (try k_fold))))
local macro_rules | `(tactic| walk_at "call ref") => `(tactic| (k_here; k_dflt (show wpAny _ _ (call (Value.ref 158) [Value.ref _, Value.ref _]) _ _ _); k_dflt (refine' sub_list ?k1 ?k2 ?k3 ?k4 ?k5 ?k6 ?a1 ?a2 ?a3 ?a4 ?a5 ?b1 ?b2 ?b3 ?b4 ?b5 ?r1 ?r2 ?hd ?hu ?_; (case k1 => k_asm); (case k2 => k_asm); (case k3 => k_asm); (case k4 => k_asm); (case k5 => k_asm); (case k6 => exact rfl); (case a1 => k_mem); (case a2 => k_mem); (case a3 => k_mem); (case a4 => with_reducible assumption); (case a5 => with_reducible assumption); (case b1 => k_mem); (case b2 => k_mem); (case b3 => k_mem); (case b4 => with_reducible assumption); (case b5 => with_reducible assumption); (case r1 => k_mem); (case r2 => k_mem); (case hd => ktr_room); (case hu => ktr_units); intro la9 vs9 n9 h9 tk9 i9 F9 N9 ne9; (try dsimp only); (try k_fold))))

theorem lt_cons {q : Addr × Obj} {l : List (Addr × Obj)} {d : Addr} (h : ∀ p ∈ q :: l, p.1 < d) : ∀ p ∈ l, p.1 < d := fun p hp => h p (.tail _ hp)
theorem lt_head {q : Addr × Obj} {l : List (Addr × Obj)} {d : Addr} (h : ∀ p ∈ q :: l, p.1 < d) : @LT.lt Nat _ q.1 d := h q (.head _)
set_option maxRecDepth 100000 in
set_option maxHeartbeats 8000000 in
theorem add_call {w : World} {loose : List Str} {mean : ExcName → Option Value} {mg mb : Str → Option Value} {dp un : Nat} {gd : Option (List Code)} {cn : Str} {cs : Scope} {a : Addr} {ccd : Value} {cl : List (Str × Addr)} {outer : List Env} {A₀ : Around} {base h₀ : Heap} {L : Addr} {m : Str → Option Value} {s : Shared} {Q E : Value → Shared → Prop}
   {x1 d1 c1 : Addr} {vs1 : List Value} {ns1 : List Int} {nd1 nl1 : Nat} {ta1 tb1 : Tok} {x2 d2 c2 : Addr} {vs2 : List Value} {ns2 : List Int} {nd2 nl2 : Nat} {ta2 tb2 : Tok} {r dr lz : Addr} {n2 : Nat} {tq uq tn tn2 tz tf tf2 : Tok} {news : List (Addr × Obj)}
   (B : Below A₀ base outer h₀) (F : Fr h₀ L s.heap m) (X : (hd.heap_1 w.params).In h₀) (N : News h₀ L s.heap news) (T : Top view62 loose mean mg mb h₀) (hk : cs.kind = .function)
   (x1m : (x1, instObj 426 d1) ∈ news) (d1m : (d1, dictOf [ent w (Str.ofString "parent") ta1 (.ref r), ent w (Str.ofString "coeffs") tb1 (.ref c1)] nd1) ∈ news) (c1m : (c1, listOf vs1.toArray nl1) ∈ news) (hi1 : IntsAre vs1 ns1) (hl1 : ns1.length = 256)
   (x2m : (x2, instObj 426 d2) ∈ news) (d2m : (d2, dictOf [ent w (Str.ofString "parent") ta2 (.ref r), ent w (Str.ofString "coeffs") tb2 (.ref c2)] nd2) ∈ news) (c2m : (c2, listOf vs2.toArray nl2) ∈ news) (hi2 : IntsAre vs2 ns2) (hl2 : ns2.length = 256)
   (rm : (r, instObj 282 dr) ∈ news) (drm : (dr, dictOf [ent w (Str.ofString "q") tq (.int 3329 uq), ent w (Str.ofString "n") tn (.int 256 tn2), ent w (Str.ofString "ntt_zetas") tz (.ref lz), ent w (Str.ofString "ntt_f") tf (.int 3303 tf2)] n2) ∈ news)
   (hd : dp + 40 < recursionLimit) (hu : un + 400 < cLine)
   (hret : ∀ (x dx l : Addr) (vs : List Value) (n : Nat) (t1 t2 : Tok) (h' : Heap) (tk' : Nat), IntsAre vs ((List.range 256).map (addZ ns1 ns2)) → Fr h₀ L h' m → News h₀ L h' ((x, instObj 426 dx) :: (dx, dictOf [ent w (Str.ofString "parent") t1 (.ref r), ent w (Str.ofString "coeffs") t2 (.ref l)] 2) :: (l, listOf vs.toArray n) :: news) → (∀ p ∈ news, p.1 ≠ l) → (∀ p ∈ news, p.1 < dx) → @LT.lt Nat _ l dx → @LT.lt Nat _ dx x → Q (.ref x) { s with heap := h', toks := tk' }) :
   wpAny (model PySem.Challenge.rw_yi0062_01.row.prog w) (ktrTop dp un gd cn cs L a ccd cl outer) (call (.ref 411) [.ref x1, .ref x2]) Q E s := by
  revert X
  k_fill
  intro X
  refine wpAny_call ?_
  (k_dflt (refine' code_def ?k1 ?k2 ?k3 ?k4 ?k5 ?kA ?kF ?kK ?k6 ?k7 ?k8 ?k9 ?kB ?_ ?c2 ?c3 ?c4 ?c5; (case kA => exact rfl); (case kF => exact rfl); (case kK => exact hk); (case k1 => k_asm); (case k2 => k_asm); (case k3 => k_asm); (case k4 => k_asm); (case k5 => k_asm); (case k6 => k_is); (case k7 => k_is); (case k8 => k_room); (case k9 => first | exact BindsTo.of_eq rfl | exact binds_K (by k_in) rfl (by k_is) rfl rfl rfl | fail "k_enter: no rule for these arguments"); (case c5 => decide); (case kB => exact locs rfl); (case c2 => exact rfl); (case c3 => exact rfl); (case c4 => exact rfl); k_whole; intro g' L' h' FG' F' N' B' X' T'; (try dsimp only); (try k_lift B'); (try k_fold)))
  set_option maxHeartbeats 400000 in
  k_steps
  (rename ∀ p : Addr × Obj, p ∈ (_, _) :: news → @LT.lt Nat _ p.1 _ => lt9)
  (rename ∀ p : Addr × Obj, p ∈ news → p.1 ≠ _ => ne9)
  exact hret _ _ _ _ _ _ _ _ _ (by assumption) (by assumption) (by assumption) ne9 (lt_cons lt9) (lt_head lt9) (by assumption)
set_option maxRecDepth 100000 in
set_option maxHeartbeats 8000000 in
theorem sub_call {w : World} {loose : List Str} {mean : ExcName → Option Value} {mg mb : Str → Option Value} {dp un : Nat} {gd : Option (List Code)} {cn : Str} {cs : Scope} {a : Addr} {ccd : Value} {cl : List (Str × Addr)} {outer : List Env} {A₀ : Around} {base h₀ : Heap} {L : Addr} {m : Str → Option Value} {s : Shared} {Q E : Value → Shared → Prop}
   {x1 d1 c1 : Addr} {vs1 : List Value} {ns1 : List Int} {nd1 nl1 : Nat} {ta1 tb1 : Tok} {x2 d2 c2 : Addr} {vs2 : List Value} {ns2 : List Int} {nd2 nl2 : Nat} {ta2 tb2 : Tok} {r dr lz : Addr} {n2 : Nat} {tq uq tn tn2 tz tf tf2 : Tok} {news : List (Addr × Obj)}
   (B : Below A₀ base outer h₀) (F : Fr h₀ L s.heap m) (X : (hd.heap_1 w.params).In h₀) (N : News h₀ L s.heap news) (T : Top view62 loose mean mg mb h₀) (hk : cs.kind = .function)
   (x1m : (x1, instObj 426 d1) ∈ news) (d1m : (d1, dictOf [ent w (Str.ofString "parent") ta1 (.ref r), ent w (Str.ofString "coeffs") tb1 (.ref c1)] nd1) ∈ news) (c1m : (c1, listOf vs1.toArray nl1) ∈ news) (hi1 : IntsAre vs1 ns1) (hl1 : ns1.length = 256)
   (x2m : (x2, instObj 426 d2) ∈ news) (d2m : (d2, dictOf [ent w (Str.ofString "parent") ta2 (.ref r), ent w (Str.ofString "coeffs") tb2 (.ref c2)] nd2) ∈ news) (c2m : (c2, listOf vs2.toArray nl2) ∈ news) (hi2 : IntsAre vs2 ns2) (hl2 : ns2.length = 256)
   (rm : (r, instObj 282 dr) ∈ news) (drm : (dr, dictOf [ent w (Str.ofString "q") tq (.int 3329 uq), ent w (Str.ofString "n") tn (.int 256 tn2), ent w (Str.ofString "ntt_zetas") tz (.ref lz), ent w (Str.ofString "ntt_f") tf (.int 3303 tf2)] n2) ∈ news)
   (hd : dp + 40 < recursionLimit) (hu : un + 400 < cLine)
   (hret : ∀ (x dx l : Addr) (vs : List Value) (n : Nat) (t1 t2 : Tok) (h' : Heap) (tk' : Nat), IntsAre vs ((List.range 256).map (subZ ns1 ns2)) → Fr h₀ L h' m → News h₀ L h' ((x, instObj 426 dx) :: (dx, dictOf [ent w (Str.ofString "parent") t1 (.ref r), ent w (Str.ofString "coeffs") t2 (.ref l)] 2) :: (l, listOf vs.toArray n) :: news) → (∀ p ∈ news, p.1 ≠ l) → (∀ p ∈ news, p.1 < dx) → @LT.lt Nat _ l dx → @LT.lt Nat _ dx x → Q (.ref x) { s with heap := h', toks := tk' }) :
   wpAny (model PySem.Challenge.rw_yi0062_01.row.prog w) (ktrTop dp un gd cn cs L a ccd cl outer) (call (.ref 418) [.ref x1, .ref x2]) Q E s := by
  revert X
  k_fill
  intro X
  refine wpAny_call ?_
  (k_dflt (refine' code_def ?k1 ?k2 ?k3 ?k4 ?k5 ?kA ?kF ?kK ?k6 ?k7 ?k8 ?k9 ?kB ?_ ?c2 ?c3 ?c4 ?c5; (case kA => exact rfl); (case kF => exact rfl); (case kK => exact hk); (case k1 => k_asm); (case k2 => k_asm); (case k3 => k_asm); (case k4 => k_asm); (case k5 => k_asm); (case k6 => k_is); (case k7 => k_is); (case k8 => k_room); (case k9 => first | exact BindsTo.of_eq rfl | exact binds_K (by k_in) rfl (by k_is) rfl rfl rfl | fail "k_enter: no rule for these arguments"); (case c5 => decide); (case kB => exact locs rfl); (case c2 => exact rfl); (case c3 => exact rfl); (case c4 => exact rfl); k_whole; intro g' L' h' FG' F' N' B' X' T'; (try dsimp only); (try k_lift B'); (try k_fold)))
  set_option maxHeartbeats 400000 in
  k_steps
  (rename ∀ p : Addr × Obj, p ∈ (_, _) :: news → @LT.lt Nat _ p.1 _ => lt9)
  (rename ∀ p : Addr × Obj, p ∈ news → p.1 ≠ _ => ne9)
  exact hret _ _ _ _ _ _ _ _ _ (by assumption) (by assumption) (by assumption) ne9 (lt_cons lt9) (lt_head lt9) (by assumption)
end Mine62
end
section
open PySem PySem.W PyProof.Rows PySem.Calls PyProof.V PySem.Spec
namespace Mine62
local macro_rules | `(tactic| walk_at "call builtin:len") => `(tactic| (k_here; k_dflt (show wpAny _ _ (call (Value.builtin "len") [Value.ref _]) _ _ _); k_dflt (refine' my_len ?k1 ?k2 ?k3 ?k4 ?_; (case k1 => k_asm); (case k2 => k_mem); (case k3 => with_reducible assumption); (case k4 => omega); k_whole)))
local macro_rules | `(tactic| walk_at "callWith ref") => `(tactic| (k_here; (with_reducible show wpAny _ _ (callWith _ (Value.ref _) _ _ (backToKw _ (keywordEach (_ :: _) _))) _ _ _); kco_here; k_dflt (refine' own_callWithKW ?k1 ?k2 ?k3 ?k4 ?k5 ?_; (case k1 => k_in); (case k2 => k_inst); (case k3 => rfl); (case k4 => k_is); (case k5 => rfl); k_whole)))
local macro_rules | `(tactic| walk_at "getMethod ref") => `(tactic| (k_here; k_dflt (refine' kmu_own ?k1 ?k2 ?k3 ?k4 ?k5 ?_; (case k1 => k_asm); (case k2 => k_asm); (case k3 => k_inst); (case k4 => k_is); (case k5 => k_is); k_whole)))
local macro_rules | `(tactic| k_mem) => `(tactic| assumption)
local macro_rules | `(tactic| k_room) => `(tactic| ktr_room)
local macro_rules | `(tactic| k_units) => `(tactic| ktr_units)
local macro_rules | `(tactic| k_all) => `(tactic| with_reducible assumption)
local macro_rules | `(tactic| walk_at "call ref") => `(tactic| (k_here; k_dflt (show wpAny _ _ (call (Value.ref _) [Value.ref _] (List.zip _ _)) _ _ _); k_dflt (refine' ring_call true ?k1 ?k2 ?k3 ?k4 ?k5 ?k6 ?m1 ?m2 ?m3 ?hi ?hl ?hd ?hu ?_; (case k1 => k_asm); (case k2 => k_asm); (case k3 => k_asm); (case k4 => k_asm); (case k5 => k_asm); (case k6 => exact rfl); (case m1 => k_mem); (case m2 => k_mem); (case m3 => k_mem); (case hi => with_reducible assumption); (case hl => simp only [List.length_map, List.length_range]); (case hd => ktr_room); (case hu => ktr_units); intro xr9 dr9 tr9 ur9 hr9 kr9 FR9 NR9 ltr9 lsr9; (rw [if_pos rfl] at NR9); (try dsimp only); (try k_fold))))
local macro_rules | `(tactic| walk_at "CompSrc") => `(tactic| (k_here; k_dflt (first
  | (refine LCg.CompSrc.range (by rfl) (by k_asm) (by k_asm) (by assumption) (by first | exact small_one (by omega) (by omega) (by omega) (by omega) | decide) (by first | exact rangeSize_nat _ _ | rfl) (by rw [PySem.sizeLine_eq]; omega) ?_; intro g'; refine Stop.of ?_)
  | (refine LCg.CompSrc.ledger (by rfl) (by k_asm) (by k_asm) (by k_mem) (by rw [PySem.sizeLine_eq]; simp only [List.size_toArray]; omega) ?_; intro g'; refine Stop.of ?_))))
local macro_rules | `(tactic| walk_at "CompEnd") => `(tactic| refine Stop.of ?_)
local macro_rules | `(tactic| mul_fits) => `(tactic| assumption)

theorem news_drop3 {h₀ h : Heap} {L : Addr} {q1 q2 q3 c : Addr × Obj} {rest : List (Addr × Obj)} (N : News h₀ L h (q1 :: q2 :: q3 :: c :: rest)) : News h₀ L h (q1 :: q2 :: q3 :: rest) := fun p hp => N p (by
  simp only [List.mem_cons] at hp ⊢
  rcases hp with h | h | h | h <;> simp [h])
def mulZ (xs : List Int) (k : Int) (i : Nat) : Int := (xs.getD i 0 * k).fmod 3329
set_option maxRecDepth 100000 in
set_option maxHeartbeats 8000000 in
theorem mul_int {w : World} {loose : List Str} {mean : ExcName → Option Value} {mg mb : Str → Option Value} {dp un : Nat} {gd : Option (List Code)} {cn : Str} {cs : Scope} {a : Addr} {ccd : Value} {cl : List (Str × Addr)} {outer : List Env} {A₀ : Around} {base h₀ : Heap} {L : Addr} {m : Str → Option Value} {s : Shared} {Q E : Value → Shared → Prop}
   {x1 d1 c1 : Addr} {vs1 : List Value} {ns1 : List Int} {nd1 nl1 : Nat} {ta1 tb1 : Tok} {r dr lz : Addr} {n2 : Nat} {tq uq tn tn2 tz tf tf2 : Tok} {news : List (Addr × Obj)} {k : Int} {tk0 : Tok}
   (B : Below A₀ base outer h₀) (F : Fr h₀ L s.heap m) (X : (hd.heap_1 w.params).In h₀) (N : News h₀ L s.heap news) (T : Top view62 loose mean mg mb h₀) (hk : cs.kind = .function)
   (x1m : (x1, instObj 426 d1) ∈ news) (d1m : (d1, dictOf [ent w (Str.ofString "parent") ta1 (.ref r), ent w (Str.ofString "coeffs") tb1 (.ref c1)] nd1) ∈ news) (c1m : (c1, listOf vs1.toArray nl1) ∈ news) (hi1 : IntsAre vs1 ns1) (hl1 : ns1.length = 256)
   (rm : (r, instObj 282 dr) ∈ news) (drm : (dr, dictOf [ent w (Str.ofString "q") tq (.int 3329 uq), ent w (Str.ofString "n") tn (.int 256 tn2), ent w (Str.ofString "ntt_zetas") tz (.ref lz), ent w (Str.ofString "ntt_f") tf (.int 3303 tf2)] n2) ∈ news)
   (hb1 : ∀ i, Builtin.Int.intBits (ns1.getD i 0) ≤ 2097152) (hb2 : Builtin.Int.intBits k ≤ 2097152)
   (hd : dp + 40 < recursionLimit) (hu : un + 400 < cLine)
   (hret : ∀ (x dx l : Addr) (vs : List Value) (n : Nat) (t1 t2 : Tok) (h' : Heap) (tk' : Nat), IntsAre vs ((List.range 256).map (mulZ ns1 k)) → Fr h₀ L h' m → News h₀ L h' ((x, instObj 426 dx) :: (dx, dictOf [ent w (Str.ofString "parent") t1 (.ref r), ent w (Str.ofString "coeffs") t2 (.ref l)] 2) :: (l, listOf vs.toArray n) :: news) → (∀ p ∈ news, p.1 ≠ l) → (∀ p ∈ news, p.1 < dx) → @LT.lt Nat _ l dx → @LT.lt Nat _ dx x → Q (.ref x) { s with heap := h', toks := tk' }) :
   wpAny (model PySem.Challenge.rw_yi0062_01.row.prog w) (ktrTop dp un gd cn cs L a ccd cl outer) (call (.ref 423) [.ref x1, .int k tk0]) Q E s := by
  revert X
  k_fill
  intro X
  have hvl : vs1.length = 256 := by rw [hi1.length, hl1]
  refine wpAny_call ?_
  (k_dflt (refine' code_defC ?k1 ?k2 ?k3 ?k4 ?k5 ?kA ?kF ?kK ?k6 ?k7 ?k8 ?k9 ?kB ?kD ?_ ?c2 ?c3 ?c4; (case kA => exact rfl); (case kF => exact rfl); (case kK => exact hk); (case k1 => k_asm); (case k2 => k_asm); (case k3 => k_asm); (case k4 => k_asm); (case k5 => k_asm); (case k6 => k_is); (case k7 => k_is); (case k8 => k_room); (case k9 => first | exact BindsTo.of_eq rfl | exact binds_K (by k_in) rfl (by k_is) rfl rfl rfl | fail "k_enter: no rule for these arguments"); (case kB => exact rfl); (case kD => decide +kernel); (case c2 => exact rfl); (case c3 => exact rfl); (case c4 => exact rfl); k_whole; intro g' L' h' tk' cells' FG' F' N' Y' B' X' T' l1; (try k_lt l1); k_cells Y'; (try simp only [List.cons_append, List.nil_append] at N'); (try dsimp only); (try k_lift B'); (try k_fold)))
  set_option maxHeartbeats 1000000 in
  k_steps
  refine Stop.out ?_
  refine' comp_ints (mulZ ns1 k) ?turn ?fin
  case turn =>
    intro i ys v I oI C oC D m₂ h1 tk1 E' hi hv hC hx F1 N1 off ne
    obtain ⟨t, rfl⟩ := ints_at hi1 (show vs1[i]? = some v by simpa using hv)
    have b1 := hb1 i
    have hmo : PySem.IntMulOk (ns1.getD i 0) k := PyProof.Rows.mulOk_of_bits b1 hb2 (by decide)
    set_option maxHeartbeats 1000000 in
    k_steps
    refine Stop.out ?_
    (rename Fr _ _ _ _ => F2)
    (rename News _ _ _ _ => N2)
    refine LCg.CompEnd.intro F2 N2 _ (fun p hp => hp) off ?_ ⟨rfl, _, rfl⟩
    exact .inr ⟨_, .tail _ c1m, rfl, _, rfl⟩
  case fin =>
    intro ys hJ
    rw [List.size_toArray, hvl] at hJ
    set_option maxHeartbeats 1000000 in
    k_steps
    (rename ∀ p : Addr × Obj, p ∈ (_, _) :: _ :: news → @LT.lt Nat _ p.1 _ => lt9)
    (rename _ ∧ LCg.Off1 _ _ => off9)
    (rename News _ _ _ ((_, instObj 426 _) :: _) => N9)
    exact hret _ _ _ ys ys.length _ _ _ _ hJ (by assumption) (news_drop3 N9) (off1_all _ off9.2) (lt_cons (lt_cons lt9)) (lt_head lt9) (by assumption)
end Mine62
end
section
open PySem PySem.W PyProof.Rows PySem.Calls PyProof.V PySem.Spec
namespace Mine62
local macro_rules | `(tactic| walk_at "call builtin:len") => `(tactic| (k_here; k_dflt (show wpAny _ _ (call (Value.builtin "len") [Value.ref _]) _ _ _); k_dflt (refine' my_len ?k1 ?k2 ?k3 ?k4 ?_; (case k1 => k_asm); (case k2 => k_mem); (case k3 => with_reducible assumption); (case k4 => omega); k_whole)))
local macro_rules | `(tactic| walk_at "callWith ref") => `(tactic| (k_here; (with_reducible show wpAny _ _ (callWith _ (Value.ref _) _ _ (backToKw _ (keywordEach (_ :: _) _))) _ _ _); kco_here; k_dflt (refine' own_callWithKW ?k1 ?k2 ?k3 ?k4 ?k5 ?_; (case k1 => k_in); (case k2 => k_inst); (case k3 => rfl); (case k4 => k_is); (case k5 => rfl); k_whole)))
local macro_rules | `(tactic| walk_at "getMethod ref") => `(tactic| (k_here; k_dflt (refine' kmu_own ?k1 ?k2 ?k3 ?k4 ?k5 ?_; (case k1 => k_asm); (case k2 => k_asm); (case k3 => k_inst); (case k4 => k_is); (case k5 => k_is); k_whole)))
local macro_rules | `(tactic| k_mem) => `(tactic| assumption)
local macro_rules | `(tactic| k_room) => `(tactic| ktr_room)
local macro_rules | `(tactic| k_units) => `(tactic| ktr_units)
local macro_rules | `(tactic| k_all) => `(tactic| with_reducible assumption)

theorem my_copy {prog : Program} {w : World} {A : Around} {E : Value → Shared → Prop} {s : Shared} {h₀ : Heap} {L l : Addr} {m : Str → Option Value} {news : List (Addr × Obj)} {vs : List Value} {n : Nat} {Q : Value → Shared → Prop} (F : Fr h₀ L s.heap m) (N : News h₀ L s.heap news) (hm : (l, listOf vs.toArray n) ∈ news) (hsz : vs.length ≤ sizeLine)
    (h : ∀ D h', Fr h₀ L h' m → News h₀ L h' ((D, listOf vs.toArray 0) :: news) → (∀ q ∈ news, q.1 < D) → Q (.ref D) { s with heap := h' }) :
    wpAny (model prog w) A (call (.builtin "list.copy") [.ref l]) Q E s :=
  copy_list F N (News.isList N hm) (fun h' F' N' => h _ h' F' N' fun q hq => Heap.lt_size (N q hq).1) hsz
local macro_rules | `(tactic| walk_at "getMethod ref") => `(tactic| (k_here; (with_reducible show wpAny _ _ (getMethod (Value.ref _) (Str.ofString "copy") _) _ _ _); k_dflt (refine' kl_method ?N ?m PySem.F.slot_list_copy PySem.F.type_list_copy ?_; (case N => k_asm); (case m => k_mem))))
local macro_rules | `(tactic| walk_at "call builtin:list.copy") => `(tactic| (k_here; k_dflt (show wpAny _ _ (call (Value.builtin _) [Value.ref _]) _ _ _); k_dflt (refine' my_copy ?F ?N ?m ?z ?_; (case F => k_asm); (case N => k_asm); (case m => k_mem); (case z => (rw [PySem.sizeLine_eq]; omega))); intro D9 h9 F9 N9 l9; have a9 := ne_of_lt_all (fun p hp => l9 p (.tail _ hp)); have b9 := ne_of_lt_all l9; (try k_lt l9); (try dsimp only)))

def addZ0 (xs : List Int) (k : Int) : List Int := xs.set 0 ((xs.getD 0 0 + k).fmod 3329)
set_option maxRecDepth 100000 in
set_option maxHeartbeats 8000000 in
theorem add_int {w : World} {loose : List Str} {mean : ExcName → Option Value} {mg mb : Str → Option Value} {dp un : Nat} {gd : Option (List Code)} {cn : Str} {cs : Scope} {a : Addr} {ccd : Value} {cl : List (Str × Addr)} {outer : List Env} {A₀ : Around} {base h₀ : Heap} {L : Addr} {m : Str → Option Value} {s : Shared} {Q E : Value → Shared → Prop}
   {x1 d1 c1 : Addr} {vs1 : List Value} {ns1 : List Int} {nd1 nl1 : Nat} {ta1 tb1 : Tok} {r dr lz : Addr} {n2 : Nat} {tq uq tn tn2 tz tf tf2 : Tok} {news : List (Addr × Obj)} {k : Int} {tk0 : Tok}
   (B : Below A₀ base outer h₀) (F : Fr h₀ L s.heap m) (X : (hd.heap_1 w.params).In h₀) (N : News h₀ L s.heap news) (T : Top view62 loose mean mg mb h₀) (hk : cs.kind = .function)
   (x1m : (x1, instObj 426 d1) ∈ news) (d1m : (d1, dictOf [ent w (Str.ofString "parent") ta1 (.ref r), ent w (Str.ofString "coeffs") tb1 (.ref c1)] nd1) ∈ news) (c1m : (c1, listOf vs1.toArray nl1) ∈ news) (hi1 : IntsAre vs1 ns1) (hl1 : ns1.length = 256)
   (rm : (r, instObj 282 dr) ∈ news) (drm : (dr, dictOf [ent w (Str.ofString "q") tq (.int 3329 uq), ent w (Str.ofString "n") tn (.int 256 tn2), ent w (Str.ofString "ntt_zetas") tz (.ref lz), ent w (Str.ofString "ntt_f") tf (.int 3303 tf2)] n2) ∈ news)
   (hd : dp + 10 < recursionLimit) (hu : un + 100 < cLine)
   (hret : ∀ (l : Addr) (vs : List Value) (n : Nat) (h' : Heap) (tk' : Nat), IntsAre vs (addZ0 ns1 k) → Fr h₀ L h' m → News h₀ L h' ((l, listOf vs.toArray n) :: news) → (∀ p ∈ news, p.1 ≠ l) → Q (.ref l) { s with heap := h', toks := tk' }) :
   wpAny (model PySem.Challenge.rw_yi0062_01.row.prog w) (ktrTop dp un gd cn cs L a ccd cl outer) (call (.ref 132) [.ref x1, .int k tk0]) Q E s := by
  revert X
  k_fill
  intro X
  have hvl : vs1.length = 256 := by rw [hi1.length, hl1]
  refine wpAny_call ?_
  (k_dflt (refine' code_defC ?k1 ?k2 ?k3 ?k4 ?k5 ?kA ?kF ?kK ?k6 ?k7 ?k8 ?k9 ?kB ?kD ?_ ?c2 ?c3 ?c4; (case kA => exact rfl); (case kF => exact rfl); (case kK => exact hk); (case k1 => k_asm); (case k2 => k_asm); (case k3 => k_asm); (case k4 => k_asm); (case k5 => k_asm); (case k6 => k_is); (case k7 => k_is); (case k8 => k_room); (case k9 => first | exact BindsTo.of_eq rfl | exact binds_K (by k_in) rfl (by k_is) rfl rfl rfl | fail "k_enter: no rule for these arguments"); (case kB => exact rfl); (case kD => decide +kernel); (case c2 => exact rfl); (case c3 => exact rfl); (case c4 => exact rfl); k_whole; intro g' L' h' tk' cells' FG' F' N' Y' B' X' T' l1; (try k_lt l1); k_cells Y'; (try simp only [List.cons_append, List.nil_append] at N'); (try dsimp only); (try k_lift B'); (try k_fold)))
  set_option maxHeartbeats 1000000 in
  k_steps
  (rename ∀ p : Addr × Obj, p ∈ news → p.1 ≠ _ => ne9)
  exact hret _ _ _ _ _ (by assumption) (by assumption) (news_drop1 (by assumption)) ne9
end Mine62
end
section
open PySem PySem.W PyProof.Rows PySem.Calls PyProof.V PySem.Spec
namespace Mine62
local macro_rules | `(tactic| walk_at "no tree W12 0") => `(tactic| fail "no tree")
local macro_rules | `(tactic| walk_at "call builtin:len") => `(tactic| (k_here; k_dflt (show wpAny _ _ (call (Value.builtin "len") [Value.ref _]) _ _ _); k_dflt (refine' my_len ?k1 ?k2 ?k3 ?k4 ?_; (case k1 => k_asm); (case k2 => k_mem); (case k3 => with_reducible assumption); (case k4 => omega); k_whole)))
local macro_rules | `(tactic| walk_at "callWith ref") => `(tactic| (k_here; (with_reducible show wpAny _ _ (callWith _ (Value.ref _) _ _ (backToKw _ (keywordEach (_ :: _) _))) _ _ _); kco_here; k_dflt (refine' own_callWithKW ?k1 ?k2 ?k3 ?k4 ?k5 ?_; (case k1 => k_in); (case k2 => k_inst); (case k3 => rfl); (case k4 => k_is); (case k5 => rfl); k_whole)))
local macro_rules | `(tactic| walk_at "getMethod ref") => `(tactic| (k_here; k_dflt (refine' kmu_own ?k1 ?k2 ?k3 ?k4 ?k5 ?_; (case k1 => k_asm); (case k2 => k_asm); (case k3 => k_inst); (case k4 => k_is); (case k5 => k_is); k_whole)))
local macro_rules | `(tactic| k_mem) => `(tactic| assumption)
local macro_rules | `(tactic| k_room) => `(tactic| ktr_room)
local macro_rules | `(tactic| k_units) => `(tactic| ktr_units)
local macro_rules | `(tactic| k_all) => `(tactic| with_reducible assumption)
local macro_rules | `(tactic| walk_at "call ref") => `(tactic| (k_here; k_dflt (show wpAny _ _ (call (Value.ref _) [Value.ref _] (List.zip _ _)) _ _ _); k_dflt (refine' ring_call true ?k1 ?k2 ?k3 ?k4 ?k5 ?k6 ?m1 ?m2 ?m3 ?hi ?hl ?hd ?hu ?_; (case k1 => k_asm); (case k2 => k_asm); (case k3 => k_asm); (case k4 => k_asm); (case k5 => k_asm); (case k6 => exact rfl); (case m1 => k_mem); (case m2 => k_mem); (case m3 => k_mem); (case hi => with_reducible assumption); (case hl => (unfold addZ0; rw [List.length_set]; with_reducible assumption)); (case hd => ktr_room); (case hu => ktr_units); intro xr9 dr9 tr9 ur9 hr9 kr9 FR9 NR9 ltr9 lsr9; (rw [if_pos rfl] at NR9); (try dsimp only); (try k_fold))))
local macro_rules | `(tactic| walk_at "call ref") => `(tactic| (k_here; k_dflt (show wpAny _ _ (call (Value.ref 132) [Value.ref _, Value.int _ _]) _ _ _); k_dflt (refine' add_int ?k1 ?k2 ?k3 ?k4 ?k5 ?k6 ?a1 ?a2 ?a3 ?a4 ?a5 ?r1 ?r2 ?hd ?hu ?_; (case k1 => k_asm); (case k2 => k_asm); (case k3 => k_asm); (case k4 => k_asm); (case k5 => k_asm); (case k6 => exact rfl); (case a1 => k_mem); (case a2 => k_mem); (case a3 => k_mem); (case a4 => with_reducible assumption); (case a5 => with_reducible assumption); (case r1 => k_mem); (case r2 => k_mem); (case hd => ktr_room); (case hu => ktr_units); intro la9 vs9 n9 h9 tk9 i9 F9 N9 ne9; (try dsimp only); (try k_fold))))
set_option maxRecDepth 100000 in
set_option maxHeartbeats 8000000 in
theorem add_int_call {w : World} {loose : List Str} {mean : ExcName → Option Value} {mg mb : Str → Option Value} {dp un : Nat} {gd : Option (List Code)} {cn : Str} {cs : Scope} {a : Addr} {ccd : Value} {cl : List (Str × Addr)} {outer : List Env} {A₀ : Around} {base h₀ : Heap} {L : Addr} {m : Str → Option Value} {s : Shared} {Q E : Value → Shared → Prop}
   {x1 d1 c1 : Addr} {vs1 : List Value} {ns1 : List Int} {nd1 nl1 : Nat} {ta1 tb1 : Tok} {r dr lz : Addr} {n2 : Nat} {tq uq tn tn2 tz tf tf2 : Tok} {news : List (Addr × Obj)} {k : Int} {tk0 : Tok}
   (B : Below A₀ base outer h₀) (F : Fr h₀ L s.heap m) (X : (hd.heap_1 w.params).In h₀) (N : News h₀ L s.heap news) (T : Top view62 loose mean mg mb h₀) (hk : cs.kind = .function)
   (x1m : (x1, instObj 426 d1) ∈ news) (d1m : (d1, dictOf [ent w (Str.ofString "parent") ta1 (.ref r), ent w (Str.ofString "coeffs") tb1 (.ref c1)] nd1) ∈ news) (c1m : (c1, listOf vs1.toArray nl1) ∈ news) (hi1 : IntsAre vs1 ns1) (hl1 : ns1.length = 256)
   (rm : (r, instObj 282 dr) ∈ news) (drm : (dr, dictOf [ent w (Str.ofString "q") tq (.int 3329 uq), ent w (Str.ofString "n") tn (.int 256 tn2), ent w (Str.ofString "ntt_zetas") tz (.ref lz), ent w (Str.ofString "ntt_f") tf (.int 3303 tf2)] n2) ∈ news)
   (hd : dp + 40 < recursionLimit) (hu : un + 400 < cLine)
   (hret : ∀ (x dx l : Addr) (vs : List Value) (n : Nat) (t1 t2 : Tok) (h' : Heap) (tk' : Nat), IntsAre vs (addZ0 ns1 k) → Fr h₀ L h' m → News h₀ L h' ((x, instObj 426 dx) :: (dx, dictOf [ent w (Str.ofString "parent") t1 (.ref r), ent w (Str.ofString "coeffs") t2 (.ref l)] 2) :: (l, listOf vs.toArray n) :: news) → (∀ p ∈ news, p.1 ≠ l) → (∀ p ∈ news, p.1 < dx) → @LT.lt Nat _ l dx → @LT.lt Nat _ dx x → Q (.ref x) { s with heap := h', toks := tk' }) :
   wpAny (model PySem.Challenge.rw_yi0062_01.row.prog w) (ktrTop dp un gd cn cs L a ccd cl outer) (call (.ref 411) [.ref x1, .int k tk0]) Q E s := by
  revert X
  k_fill
  intro X
  refine wpAny_call ?_
  (k_dflt (refine' code_def ?k1 ?k2 ?k3 ?k4 ?k5 ?kA ?kF ?kK ?k6 ?k7 ?k8 ?k9 ?kB ?_ ?c2 ?c3 ?c4 ?c5; (case kA => exact rfl); (case kF => exact rfl); (case kK => exact hk); (case k1 => k_asm); (case k2 => k_asm); (case k3 => k_asm); (case k4 => k_asm); (case k5 => k_asm); (case k6 => k_is); (case k7 => k_is); (case k8 => k_room); (case k9 => first | exact BindsTo.of_eq rfl | exact binds_K (by k_in) rfl (by k_is) rfl rfl rfl | fail "k_enter: no rule for these arguments"); (case c5 => decide); (case kB => exact locs rfl); (case c2 => exact rfl); (case c3 => exact rfl); (case c4 => exact rfl); k_whole; intro g' L' h' FG' F' N' B' X' T'; (try dsimp only); (try k_lift B'); (try k_fold)))
  set_option maxHeartbeats 400000 in
  k_steps
  (rename ∀ p : Addr × Obj, p ∈ (_, _) :: news → @LT.lt Nat _ p.1 _ => lt9)
  (rename ∀ p : Addr × Obj, p ∈ news → p.1 ≠ _ => ne9)
  exact hret _ _ _ _ _ _ _ _ _ (by assumption) (by assumption) (by assumption) ne9 (lt_cons lt9) (lt_head lt9) (by assumption)
end Mine62
end
section
open PySem PySem.W PyProof.Rows PySem.Calls PyProof.V PySem.Spec
namespace Mine62
local macro_rules | `(tactic| walk_at "call builtin:len") => `(tactic| (k_here; k_dflt (show wpAny _ _ (call (Value.builtin "len") [Value.ref _]) _ _ _); k_dflt (refine' my_len ?k1 ?k2 ?k3 ?k4 ?_; (case k1 => k_asm); (case k2 => k_mem); (case k3 => with_reducible assumption); (case k4 => omega); k_whole)))
local macro_rules | `(tactic| walk_at "callWith ref") => `(tactic| (k_here; (with_reducible show wpAny _ _ (callWith _ (Value.ref _) _ _ (backToKw _ (keywordEach (_ :: _) _))) _ _ _); kco_here; k_dflt (refine' own_callWithKW ?k1 ?k2 ?k3 ?k4 ?k5 ?_; (case k1 => k_in); (case k2 => k_inst); (case k3 => rfl); (case k4 => k_is); (case k5 => rfl); k_whole)))
local macro_rules | `(tactic| walk_at "getMethod ref") => `(tactic| (k_here; k_dflt (refine' kmu_own ?k1 ?k2 ?k3 ?k4 ?k5 ?_; (case k1 => k_asm); (case k2 => k_asm); (case k3 => k_inst); (case k4 => k_is); (case k5 => k_is); k_whole)))
local macro_rules | `(tactic| k_mem) => `(tactic| assumption)
local macro_rules | `(tactic| k_room) => `(tactic| ktr_room)
local macro_rules | `(tactic| k_units) => `(tactic| ktr_units)
set_option maxRecDepth 100000 in
set_option maxHeartbeats 8000000 in
theorem ring_call0 {w : World} {loose : List Str} {mean : ExcName → Option Value} {mg mb : Str → Option Value} {dp un : Nat} {gd : Option (List Code)} {cn : Str} {cs : Scope} {a : Addr} {ccd : Value} {cl : List (Str × Addr)} {outer : List Env} {A₀ : Around} {base h₀ : Heap} {L : Addr} {m : Str → Option Value} {s : Shared} {Q E : Value → Shared → Prop}
   {r dr lc lz : Addr} {vs : List Value} {ns : List Int} {nc n2 : Nat} {tq uq tn tn2 tz tf tf2 : Tok} {news : List (Addr × Obj)}
   (B : Below A₀ base outer h₀) (F : Fr h₀ L s.heap m) (X : (hd.heap_1 w.params).In h₀) (N : News h₀ L s.heap news) (T : Top view62 loose mean mg mb h₀) (hk : cs.kind = .function)
   (m1 : (r, instObj 282 dr) ∈ news) (m2 : (dr, dictOf [ent w (Str.ofString "q") tq (.int 3329 uq), ent w (Str.ofString "n") tn (.int 256 tn2), ent w (Str.ofString "ntt_zetas") tz (.ref lz), ent w (Str.ofString "ntt_f") tf (.int 3303 tf2)] n2) ∈ news)
   (m3 : (lc, listOf vs.toArray nc) ∈ news) (hi : IntsAre vs ns) (hl : ns.length = 256)
   (hd : dp + 20 < recursionLimit) (hu : un + 200 < cLine)
   (hret : ∀ (x dx : Addr) (t1 t2 : Tok) (h' : Heap) (tk' : Nat), Fr h₀ L h' m → News h₀ L h' ((x, instObj 350 dx) :: (dx, dictOf [ent w (Str.ofString "parent") t1 (.ref r), ent w (Str.ofString "coeffs") t2 (.ref lc)] 2) :: news) →
     (∀ p ∈ news, p.1 < dx) → dx < x → Q (.ref x) { s with heap := h', toks := tk' }) :
   wpAny (model PySem.Challenge.rw_yi0062_01.row.prog w) (ktrTop dp un gd cn cs L a ccd cl outer) (call (.ref r) [.ref lc]) Q E s := by
  revert X
  k_fill
  intro X
  refine wpAny_call ?_
  refine' kco_code ?k1 ?k2 ?k3 ?k4 ?k5 ?k6 ?_
  case k1 => k_in
  case k2 => k_inst
  case k3 => rfl
  case k4 => k_dflt k_is
  case k5 => k_dflt k_is
  case k6 => k_dflt k_is
  try dsimp only
  (k_dflt (refine' code_def ?k1 ?k2 ?k3 ?k4 ?k5 ?kA ?kF ?kK ?k6 ?k7 ?k8 ?k9 ?kB ?_ ?c2 ?c3 ?c4 ?c5; (case kA => exact rfl); (case kF => exact rfl); (case kK => exact hk); (case k1 => k_asm); (case k2 => k_asm); (case k3 => k_asm); (case k4 => k_asm); (case k5 => k_asm); (case k6 => k_is); (case k7 => k_is); (case k8 => k_room); (case k9 => first | exact BindsTo.of_eq rfl | exact binds_K (by k_in) rfl (by k_is) rfl rfl rfl | fail "k_enter: no rule for these arguments"); (case c5 => decide); (case kB => exact locs rfl); (case c2 => exact rfl); (case c3 => exact rfl); (case c4 => exact rfl); k_whole; intro g' L' h' FG' F' N' B' X' T'; (try dsimp only); (try k_lift B'); (try k_fold)))
  k_steps
  exact hret _ _ _ _ _ _ (by assumption) (by assumption) (by assumption) (by assumption)
end Mine62
end
section
open PySem PySem.W PyProof.Rows PySem.Calls PyProof.V PySem.Spec
namespace Mine62
local macro_rules | `(tactic| walk_at "call builtin:len") => `(tactic| (k_here; k_dflt (show wpAny _ _ (call (Value.builtin "len") [Value.ref _]) _ _ _); k_dflt (refine' my_len ?k1 ?k2 ?k3 ?k4 ?_; (case k1 => k_asm); (case k2 => k_mem); (case k3 => with_reducible assumption); (case k4 => omega); k_whole)))
local macro_rules | `(tactic| walk_at "callWith ref") => `(tactic| (k_here; (with_reducible show wpAny _ _ (callWith _ (Value.ref _) _ _ (backToKw _ (keywordEach (_ :: _) _))) _ _ _); kco_here; k_dflt (refine' own_callWithKW ?k1 ?k2 ?k3 ?k4 ?k5 ?_; (case k1 => k_in); (case k2 => k_inst); (case k3 => rfl); (case k4 => k_is); (case k5 => rfl); k_whole)))
local macro_rules | `(tactic| walk_at "getMethod ref") => `(tactic| (k_here; k_dflt (refine' kmu_own ?k1 ?k2 ?k3 ?k4 ?k5 ?_; (case k1 => k_asm); (case k2 => k_asm); (case k3 => k_inst); (case k4 => k_is); (case k5 => k_is); k_whole)))
local macro_rules | `(tactic| k_mem) => `(tactic| assumption)
local macro_rules | `(tactic| k_room) => `(tactic| ktr_room)
local macro_rules | `(tactic| k_units) => `(tactic| ktr_units)
local macro_rules | `(tactic| k_all) => `(tactic| with_reducible assumption)
local macro_rules | `(tactic| walk_at "call ref") => `(tactic| (k_here; k_dflt (show wpAny _ _ (call (Value.ref _) [Value.ref _]) _ _ _); k_dflt (refine' ring_call0 ?k1 ?k2 ?k3 ?k4 ?k5 ?k6 ?m1 ?m2 ?m3 ?hi ?hl ?hd ?hu ?_; (case k1 => k_asm); (case k2 => k_asm); (case k3 => k_asm); (case k4 => k_asm); (case k5 => k_asm); (case k6 => exact rfl); (case m1 => k_mem); (case m2 => k_mem); (case m3 => k_mem); (case hi => with_reducible assumption); (case hl => simp only [List.length_map, List.length_range]); (case hd => ktr_room); (case hu => ktr_units); intro xr9 dr9 tr9 ur9 hr9 kr9 FR9 NR9 ltr9 lsr9; (try dsimp only); (try k_fold))))
local macro_rules | `(tactic| walk_at "CompSrc") => `(tactic| (k_here; k_dflt (first
  | (refine LCg.CompSrc.range (by rfl) (by k_asm) (by k_asm) (by assumption) (by first | exact small_one (by omega) (by omega) (by omega) (by omega) | decide) (by first | exact rangeSize_nat _ _ | rfl) (by rw [PySem.sizeLine_eq]; omega) ?_; intro g'; refine Stop.of ?_)
  | (refine LCg.CompSrc.ledger (by rfl) (by k_asm) (by k_asm) (by k_mem) (by rw [PySem.sizeLine_eq]; simp only [List.size_toArray]; omega) ?_; intro g'; refine Stop.of ?_))))
local macro_rules | `(tactic| walk_at "CompEnd") => `(tactic| refine Stop.of ?_)

def negZ (xs : List Int) (i : Nat) : Int := (-(xs.getD i 0)).fmod 3329
set_option maxRecDepth 100000 in
set_option maxHeartbeats 8000000 in
theorem neg_call {w : World} {loose : List Str} {mean : ExcName → Option Value} {mg mb : Str → Option Value} {dp un : Nat} {gd : Option (List Code)} {cn : Str} {cs : Scope} {a : Addr} {ccd : Value} {cl : List (Str × Addr)} {outer : List Env} {A₀ : Around} {base h₀ : Heap} {L : Addr} {m : Str → Option Value} {s : Shared} {Q E : Value → Shared → Prop}
   {x1 d1 c1 : Addr} {vs1 : List Value} {ns1 : List Int} {nd1 nl1 : Nat} {ta1 tb1 : Tok} {r dr lz : Addr} {n2 : Nat} {tq uq tn tn2 tz tf tf2 : Tok} {news : List (Addr × Obj)}
   (B : Below A₀ base outer h₀) (F : Fr h₀ L s.heap m) (X : (hd.heap_1 w.params).In h₀) (N : News h₀ L s.heap news) (T : Top view62 loose mean mg mb h₀) (hk : cs.kind = .function)
   (x1m : (x1, instObj 426 d1) ∈ news) (d1m : (d1, dictOf [ent w (Str.ofString "parent") ta1 (.ref r), ent w (Str.ofString "coeffs") tb1 (.ref c1)] nd1) ∈ news) (c1m : (c1, listOf vs1.toArray nl1) ∈ news) (hi1 : IntsAre vs1 ns1) (hl1 : ns1.length = 256)
   (rm : (r, instObj 282 dr) ∈ news) (drm : (dr, dictOf [ent w (Str.ofString "q") tq (.int 3329 uq), ent w (Str.ofString "n") tn (.int 256 tn2), ent w (Str.ofString "ntt_zetas") tz (.ref lz), ent w (Str.ofString "ntt_f") tf (.int 3303 tf2)] n2) ∈ news)
   (hd : dp + 40 < recursionLimit) (hu : un + 400 < cLine)
   (hret : ∀ (x dx l : Addr) (vs : List Value) (n : Nat) (t1 t2 : Tok) (h' : Heap) (tk' : Nat), IntsAre vs ((List.range 256).map (negZ ns1)) → Fr h₀ L h' m → News h₀ L h' ((x, instObj 350 dx) :: (dx, dictOf [ent w (Str.ofString "parent") t1 (.ref r), ent w (Str.ofString "coeffs") t2 (.ref l)] 2) :: (l, listOf vs.toArray n) :: news) → (∀ p ∈ news, p.1 ≠ l) → (∀ p ∈ news, p.1 < dx) → @LT.lt Nat _ l dx → @LT.lt Nat _ dx x → Q (.ref x) { s with heap := h', toks := tk' }) :
   wpAny (model PySem.Challenge.rw_yi0062_01.row.prog w) (ktrTop dp un gd cn cs L a ccd cl outer) (call (.ref 127) [.ref x1]) Q E s := by
  revert X
  k_fill
  intro X
  have hvl : vs1.length = 256 := by rw [hi1.length, hl1]
  refine wpAny_call ?_
  (k_dflt (refine' code_defC ?k1 ?k2 ?k3 ?k4 ?k5 ?kA ?kF ?kK ?k6 ?k7 ?k8 ?k9 ?kB ?kD ?_ ?c2 ?c3 ?c4; (case kA => exact rfl); (case kF => exact rfl); (case kK => exact hk); (case k1 => k_asm); (case k2 => k_asm); (case k3 => k_asm); (case k4 => k_asm); (case k5 => k_asm); (case k6 => k_is); (case k7 => k_is); (case k8 => k_room); (case k9 => first | exact BindsTo.of_eq rfl | exact binds_K (by k_in) rfl (by k_is) rfl rfl rfl | fail "k_enter: no rule for these arguments"); (case kB => exact rfl); (case kD => decide +kernel); (case c2 => exact rfl); (case c3 => exact rfl); (case c4 => exact rfl); k_whole; intro g' L' h' tk' cells' FG' F' N' Y' B' X' T' l1; (try k_lt l1); k_cells Y'; (try simp only [List.cons_append, List.nil_append] at N'); (try dsimp only); (try k_lift B'); (try k_fold)))
  set_option maxHeartbeats 1000000 in
  k_steps
  refine Stop.out ?_
  refine' comp_ints (negZ ns1) ?turn ?fin
  case turn =>
    intro i ys v I oI C oC D m₂ h1 tk1 E' hi hv hC hx F1 N1 off ne
    obtain ⟨t, rfl⟩ := ints_at hi1 (show vs1[i]? = some v by simpa using hv)
    set_option maxHeartbeats 1000000 in
    k_steps
    refine Stop.out ?_
    (rename Fr _ _ _ _ => F2)
    (rename News _ _ _ _ => N2)
    refine LCg.CompEnd.intro F2 N2 _ (fun p hp => hp) off ?_ ⟨rfl, _, rfl⟩
    exact .inr ⟨_, .tail _ c1m, rfl, _, rfl⟩
  case fin =>
    intro ys hJ
    rw [List.size_toArray, hvl] at hJ
    set_option maxHeartbeats 1000000 in
    k_steps
    (rename ∀ p : Addr × Obj, p ∈ (_, _) :: _ :: news → @LT.lt Nat _ p.1 _ => lt9)
    (rename _ ∧ LCg.Off1 _ _ => off9)
    (rename News _ _ _ ((_, instObj 350 _) :: _) => N9)
    exact hret _ _ _ ys ys.length _ _ _ _ hJ (by assumption) (news_drop3 N9) (off1_all _ off9.2) (lt_cons (lt_cons lt9)) (lt_head lt9) (by assumption)
end Mine62
end
section
open PySem PySem.W PyProof.Rows PySem.Calls PyProof.V PySem.Spec
namespace Mine62
local macro_rules | `(tactic| walk_at "call builtin:len") => `(tactic| (k_here; k_dflt (show wpAny _ _ (call (Value.builtin "len") [Value.ref _]) _ _ _); k_dflt (refine' my_len ?k1 ?k2 ?k3 ?k4 ?_; (case k1 => k_asm); (case k2 => k_mem); (case k3 => with_reducible assumption); (case k4 => omega); k_whole)))
local macro_rules | `(tactic| walk_at "callWith ref") => `(tactic| (k_here; (with_reducible show wpAny _ _ (callWith _ (Value.ref _) _ _ (backToKw _ (keywordEach (_ :: _) _))) _ _ _); kco_here; k_dflt (refine' own_callWithKW ?k1 ?k2 ?k3 ?k4 ?k5 ?_; (case k1 => k_in); (case k2 => k_inst); (case k3 => rfl); (case k4 => k_is); (case k5 => rfl); k_whole)))
local macro_rules | `(tactic| walk_at "getMethod ref") => `(tactic| (k_here; k_dflt (refine' kmu_own ?k1 ?k2 ?k3 ?k4 ?k5 ?_; (case k1 => k_asm); (case k2 => k_asm); (case k3 => k_inst); (case k4 => k_is); (case k5 => k_is); k_whole)))
local macro_rules | `(tactic| k_mem) => `(tactic| assumption)
local macro_rules | `(tactic| k_room) => `(tactic| ktr_room)
local macro_rules | `(tactic| k_units) => `(tactic| ktr_units)
local macro_rules | `(tactic| k_all) => `(tactic| with_reducible assumption)
local macro_rules | `(tactic| walk_at "call ref") => `(tactic| (k_here; k_dflt (show wpAny _ _ (call (Value.ref 411) [Value.ref _, Value.int _ _]) _ _ _); k_dflt (refine' add_int_call ?k1 ?k2 ?k3 ?k4 ?k5 ?k6 ?a1 ?a2 ?a3 ?a4 ?a5 ?r1 ?r2 ?hd ?hu ?_; (case k1 => k_asm); (case k2 => k_asm); (case k3 => k_asm); (case k4 => k_asm); (case k5 => k_asm); (case k6 => exact rfl); (case a1 => k_mem); (case a2 => k_mem); (case a3 => k_mem); (case a4 => with_reducible assumption); (case a5 => with_reducible assumption); (case r1 => k_mem); (case r2 => k_mem); (case hd => ktr_room); (case hu => ktr_units); intro xc9 dc9 lc9 vc9 nc9 tc9 uc9 hc9 kc9 ic9 Fc9 Nc9 nec9 ltc9 ldc9 lxc9; (try dsimp only); (try k_fold))))
set_option maxRecDepth 100000 in
set_option maxHeartbeats 8000000 in
theorem radd_call {w : World} {loose : List Str} {mean : ExcName → Option Value} {mg mb : Str → Option Value} {dp un : Nat} {gd : Option (List Code)} {cn : Str} {cs : Scope} {a : Addr} {ccd : Value} {cl : List (Str × Addr)} {outer : List Env} {A₀ : Around} {base h₀ : Heap} {L : Addr} {m : Str → Option Value} {s : Shared} {Q E : Value → Shared → Prop}
   {x1 d1 c1 : Addr} {vs1 : List Value} {ns1 : List Int} {nd1 nl1 : Nat} {ta1 tb1 : Tok} {r dr lz : Addr} {n2 : Nat} {tq uq tn tn2 tz tf tf2 : Tok} {news : List (Addr × Obj)} {k : Int} {tk0 : Tok}
   (B : Below A₀ base outer h₀) (F : Fr h₀ L s.heap m) (X : (hd.heap_1 w.params).In h₀) (N : News h₀ L s.heap news) (T : Top view62 loose mean mg mb h₀) (hk : cs.kind = .function)
   (x1m : (x1, instObj 426 d1) ∈ news) (d1m : (d1, dictOf [ent w (Str.ofString "parent") ta1 (.ref r), ent w (Str.ofString "coeffs") tb1 (.ref c1)] nd1) ∈ news) (c1m : (c1, listOf vs1.toArray nl1) ∈ news) (hi1 : IntsAre vs1 ns1) (hl1 : ns1.length = 256)
   (rm : (r, instObj 282 dr) ∈ news) (drm : (dr, dictOf [ent w (Str.ofString "q") tq (.int 3329 uq), ent w (Str.ofString "n") tn (.int 256 tn2), ent w (Str.ofString "ntt_zetas") tz (.ref lz), ent w (Str.ofString "ntt_f") tf (.int 3303 tf2)] n2) ∈ news)
   (hd : dp + 60 < recursionLimit) (hu : un + 600 < cLine)
   (hret : ∀ (x dx l : Addr) (vs : List Value) (n : Nat) (t1 t2 : Tok) (h' : Heap) (tk' : Nat), IntsAre vs (addZ0 ns1 k) → Fr h₀ L h' m → News h₀ L h' ((x, instObj 426 dx) :: (dx, dictOf [ent w (Str.ofString "parent") t1 (.ref r), ent w (Str.ofString "coeffs") t2 (.ref l)] 2) :: (l, listOf vs.toArray n) :: news) → (∀ p ∈ news, p.1 ≠ l) → (∀ p ∈ news, p.1 < dx) → @LT.lt Nat _ l dx → @LT.lt Nat _ dx x → Q (.ref x) { s with heap := h', toks := tk' }) :
   wpAny (model PySem.Challenge.rw_yi0062_01.row.prog w) (ktrTop dp un gd cn cs L a ccd cl outer) (call (.ref 146) [.ref x1, .int k tk0]) Q E s := by
  revert X
  k_fill
  intro X
  refine wpAny_call ?_
  (k_dflt (refine' code_def ?k1 ?k2 ?k3 ?k4 ?k5 ?kA ?kF ?kK ?k6 ?k7 ?k8 ?k9 ?kB ?_ ?c2 ?c3 ?c4 ?c5; (case kA => exact rfl); (case kF => exact rfl); (case kK => exact hk); (case k1 => k_asm); (case k2 => k_asm); (case k3 => k_asm); (case k4 => k_asm); (case k5 => k_asm); (case k6 => k_is); (case k7 => k_is); (case k8 => k_room); (case k9 => first | exact BindsTo.of_eq rfl | exact binds_K (by k_in) rfl (by k_is) rfl rfl rfl | fail "k_enter: no rule for these arguments"); (case c5 => decide); (case kB => exact locs rfl); (case c2 => exact rfl); (case c3 => exact rfl); (case c4 => exact rfl); k_whole; intro g' L' h' FG' F' N' B' X' T'; (try dsimp only); (try k_lift B'); (try k_fold)))
  set_option maxHeartbeats 400000 in
  k_steps
  exact hret _ _ _ _ _ _ _ _ _ (by assumption) (by assumption) (by assumption) (by assumption) (by assumption) (by assumption) (by assumption)
end Mine62
end
section
open PySem PySem.W PyProof.Rows PySem.Calls PyProof.V PySem.Spec
set_option maxRecDepth 100000
namespace Mine62
section
open Builtin
theorem int_mul_inst (a : Int) (t : Tok) (x : Addr) (c : Value) (d : Option Addr) (sl : Array (Option Value)) :
    Meets (Builtin.«int.__mul__» ⟨[.int a t, .ref x], []⟩) (fun _ R s => s.heap.get? x = some { cls := c, dict := d, data := .plain, slots := sl } ∧ R (.ok (.ret Value.notImplemented)) s) :=
  .of_wp fun prog w A R s h => by obtain ⟨hp, g, d, tk, os⟩ := s; obtain ⟨hl, h⟩ := h; wp_walk; exact ⟨_, rfl, h⟩
theorem int_add_inst (a : Int) (t : Tok) (x : Addr) (c : Value) (d : Option Addr) (sl : Array (Option Value)) :
    Meets (Builtin.«int.__add__» ⟨[.int a t, .ref x], []⟩) (fun _ R s => s.heap.get? x = some { cls := c, dict := d, data := .plain, slots := sl } ∧ R (.ok (.ret Value.notImplemented)) s) :=
  .of_wp fun prog w A R s h => by obtain ⟨hp, g, d, tk, os⟩ := s; obtain ⟨hl, h⟩ := h; wp_walk; exact ⟨_, rfl, h⟩
end
section
variable {prog : Program} {w : World} {A : Around} {E : Value → Shared → Prop} {s : Shared} {K : Frag} {x C L f f0 : Addr} {h₀ : Heap} {m : Str → Option Value} {ox : Obj} {od : Option Obj} {a : Int} {t : Tok}
theorem rbin_int {op : Operator} {Q : Value → Shared → Prop} (F : Fr h₀ L s.heap m) (X₀ : K.In h₀) (I : W.InstAt s.heap x ox C od) (hc : selfFirst K C = true)
    (hs : findIn K (.ref C) (PySem.dunder op.info.2) = some (some (.ref f0))) (hr : findIn K (.ref C) (dunderR op.info.2) = some (some (.ref f))) (hf : isFn K (.ref f) = true)
    (hfl : fillsNumberSlot (.type "int") op.info.2 = pure true) (hsub : subIn K (.ref C) (.type "int") = some false)
    (hl : wpAny (model prog w) A (tryMethod (.int a t) (PySem.dunder op.info.2) (.ref x)) (fun r s' => r = none ∧ s' = s) E s)
    (h : wpAny (model prog w) A (call (.ref f) [.ref x, .int a t]) (W.CmpBack Q) E s) : wpAny (model prog w) A (binaryOp op (.int a t) (.ref x)) Q E s := by
  have X := X₀.keeps F.keep
  obtain ⟨cd, rest, hcd, hm⟩ := ksp_first hc
  rcases hi : op.info with ⟨sym, nm'⟩
  rw [hi] at hs hr hfl hl
  dsimp only at hs hr hfl hl
  have one := ksp_try X I hr hf h
  obtain ⟨hh, g, d, tt, os⟩ := s
  have L1 : Looks (model prog w) hh (typeOf (.ref x)) (.ref C) := I.type
  have L2 : Looks (model prog w) hh (typeOf (.int a t)) (.type "int") := Looks.of_pure rfl
  have L3 : Looks (model prog w) hh (fillsNumberSlot (.ref C) nm') true := fills_K X hcd hm hs
  have L4 : Looks (model prog w) hh (fillsNumberSlot (.type "int") nm') true := Looks.of_pure hfl
  have L5 : Looks (model prog w) hh (isSubtype (.ref C) (.type "int")) false := looks_subIn X hsub
  have L7 : Looks (model prog w) hh (numberSlotInPython (.type "int") nm') false := Looks.of_pure rfl
  have hne : (Value.type "int" == Value.ref C) = false := Bool.eq_false_iff.mpr fun q => by cases beq_iff_eq.mp q
  simp only [binaryOp, hi]
  refine wpAny_holding (wpAny_bind ?_)
  unfold binaryOp1
  refine wpAny_bind (L2.at (wpAny_bind (L1.at (wpAny_bind (L4.at ?_)))))
  simp only [hne, Bool.false_eq_true, if_false]
  ksp_lk
  refine wpAny_mono hl (fun r s' hr' => ?_) fun _ _ e => e
  obtain ⟨rfl, rfl⟩ := hr'
  ksp_lk
  refine wpAny_mono one (fun r s' hr' => ?_) fun _ _ e => e
  obtain ⟨v, rfl, hq⟩ := hr'
  ksp_lk
  exact hq
theorem int_declines_mul (ho : s.heap.get? x = some ox) (hp : ox.data = .plain) : wpAny (model prog w) A (tryMethod (.int a t) (PySem.dunder "mul") (.ref x)) (fun r s' => r = none ∧ s' = s) E s := by
  obtain ⟨c, d, da, sl⟩ := ox
  dsimp only at hp
  subst hp
  have hT : s.TypeIs (.int a t) "int" := PySem.typeIs_int s a t
  have hsl : Slot "int" (PySem.dunder "mul") "int.__mul__" := PySem.F.slot_int_mul
  generalize PySem.dunder "mul" = nmS at hsl ⊢
  refine wpAny_tryMethod_declines hT hsl ?_
  have hq : (fun (v : Value) (s' : Shared) => v = .notImplemented ∧ ((none : Option Value) = none ∧ s' = s)) .notImplemented s := ⟨rfl, rfl, rfl⟩
  exact call_meets (Q := fun v s' => v = .notImplemented ∧ ((none : Option Value) = none ∧ s' = s)) hsl hT PySem.F.entry_int_mul (PySem.F.args_int_mul_2 _ _) (int_mul_inst a t x c d sl) (And.intro ho hq)
theorem int_declines_add (ho : s.heap.get? x = some ox) (hp : ox.data = .plain) : wpAny (model prog w) A (tryMethod (.int a t) (PySem.dunder "add") (.ref x)) (fun r s' => r = none ∧ s' = s) E s := by
  obtain ⟨c, d, da, sl⟩ := ox
  dsimp only at hp
  subst hp
  have hT : s.TypeIs (.int a t) "int" := PySem.typeIs_int s a t
  have hsl : Slot "int" (PySem.dunder "add") "int.__add__" := PySem.F.slot_int_add
  generalize PySem.dunder "add" = nmS at hsl ⊢
  refine wpAny_tryMethod_declines hT hsl ?_
  have hq : (fun (v : Value) (s' : Shared) => v = .notImplemented ∧ ((none : Option Value) = none ∧ s' = s)) .notImplemented s := ⟨rfl, rfl, rfl⟩
  exact call_meets (Q := fun v s' => v = .notImplemented ∧ ((none : Option Value) = none ∧ s' = s)) hsl hT PySem.F.entry_int_add (PySem.F.args_int_add_2 _ _) (int_add_inst a t x c d sl) (And.intro ho hq)
theorem rmul_K {Q : Value → Shared → Prop} (F : Fr h₀ L s.heap m) (X₀ : K.In h₀) (I : W.InstAt s.heap x ox C od) (hp : ox.data = .plain) (hc : selfFirst K C = true)
    (hs : findIn K (.ref C) (PySem.dunder "mul") = some (some (.ref f0))) (hr : findIn K (.ref C) (dunderR "mul") = some (some (.ref f))) (hf : isFn K (.ref f) = true) (hsub : subIn K (.ref C) (.type "int") = some false)
    (h : wpAny (model prog w) A (call (.ref f) [.ref x, .int a t]) (W.CmpBack Q) E s) : wpAny (model prog w) A (binaryOp .Mult (.int a t) (.ref x)) Q E s :=
  rbin_int (op := .Mult) F X₀ I hc hs hr hf PySem.F.fills_int_mul hsub (int_declines_mul I.at_ hp) h
theorem radd_K {Q : Value → Shared → Prop} (F : Fr h₀ L s.heap m) (X₀ : K.In h₀) (I : W.InstAt s.heap x ox C od) (hp : ox.data = .plain) (hc : selfFirst K C = true)
    (hs : findIn K (.ref C) (PySem.dunder "add") = some (some (.ref f0))) (hr : findIn K (.ref C) (dunderR "add") = some (some (.ref f))) (hf : isFn K (.ref f) = true) (hsub : subIn K (.ref C) (.type "int") = some false)
    (h : wpAny (model prog w) A (call (.ref f) [.ref x, .int a t]) (W.CmpBack Q) E s) : wpAny (model prog w) A (binaryOp .Add (.int a t) (.ref x)) Q E s :=
  rbin_int (op := .Add) F X₀ I hc hs hr hf PySem.F.fills_int_add hsub (int_declines_add I.at_ hp) h
end
section
variable {prog : Program} {w : World} {A : Around} {R : Result → Shared → Prop} {s : Shared} {I S l : Addr} {items : Array Value}
/-- the list of the loop's one total, after a turn -/
def put2 (h : Heap) (S : Addr) (r : Value) : Heap := (h.update S (Obj.mapSeq fun _ => #[r])).update S (Obj.mapSeq fun _ => #[r])
theorem sum_end {r : Addr} {c : Nat} (hh : A.handled = none) (hne : l ≠ I) (st : s.heap.IsListIter I l items.size ∧ s.heap.IsList l items) (hS : s.heap.get? S = some (listOf #[.ref r] c))
    (hR : ∀ h' tk, (∀ b o, b ≠ I → s.heap.get? b = some o → h'.get? b = some o) → R (.ok (.ret (.ref r))) { s with heap := h', toks := tk }) :
    codeAny (model prog w) A (.builtin "sum.loop" ⟨[.ref I, .ref S, rawInt 2, rawInt 0], []⟩) R s := by
  have W := Walks.list (prog := prog) (w := w) (A := A.in1) hh I l hne items
  refine codeAny_builtin F.entry_sum_loop ?_
  rw [Around.under_plainId F.plain_sum_loop _]
  show wpAny _ A.in1 (seqItems? (.ref S) >>= _) _ _ s
  refine wpAny_bind (wpAny_seqItems hS rfl ?_)
  show wpAny _ A.in1 (tryCatch (pyNext (.ref I)) _ >>= _) _ _ s
  refine wpAny_bind (wpAny_tryCatch (W.done s _ _ st fun h' tk hk' => ?_))
  exact wpAny_pure (hR h' tk fun b o hb e => hk' b o (by simpa using hb) e)
theorem sum_first {i : Nat} {a : Addr} {tA : Tok} {c : Nat} (hh : A.handled = none) (hne : l ≠ I) (hv : items[i]? = some (.ref a)) (st : s.heap.IsListIter I l i ∧ s.heap.IsList l items) (hS : s.heap.get? S = some (listOf #[.int 0 tA] c))
    (h : ∀ h' tk, (∀ b o, b ≠ I → s.heap.get? b = some o → h'.get? b = some o) → (h'.IsListIter I l (i + 1) ∧ h'.IsList l items) →
      wpAny (model prog w) A.in1 (binaryOp .Add (.int 0 tA) (.ref a)) (fun r s₂ => ∃ ra c', r = .ref ra ∧ s₂.heap.get? S = some (listOf #[.int 0 tA] c') ∧
        codeAny (model prog w) A (.builtin "sum.loop" ⟨[.ref I, .ref S, rawInt 2, rawInt 0], []⟩) R { s₂ with heap := put2 s₂.heap S r }) (fun _ _ => False) { s with heap := h', toks := tk }) :
    codeAny (model prog w) A (.builtin "sum.loop" ⟨[.ref I, .ref S, rawInt 0, rawInt 0], []⟩) R s := by
  have W := Walks.list (prog := prog) (w := w) (A := A.in1) hh I l hne items
  have hlt : i < items.size := by
    rcases Nat.lt_or_ge i items.size with h | h
    · exact h
    · rw [Array.getElem?_eq_none h] at hv; cases hv
  refine codeAny_builtin F.entry_sum_loop ?_
  rw [Around.under_plainId F.plain_sum_loop _]
  show wpAny _ A.in1 (seqItems? (.ref S) >>= _) _ _ s
  refine wpAny_bind (wpAny_seqItems hS rfl ?_)
  show wpAny _ A.in1 (tryCatch (pyNext (.ref I)) _ >>= _) _ _ s
  refine wpAny_bind (wpAny_tryCatch (W.item i s _ _ hlt st fun v h' tk hP hst' hk' => ?_))
  obtain rfl : v = .ref a := Option.some.inj (hP.symm.trans hv)
  show wpAny _ A.in1 (PySem.rule _ >>= _) _ _ _
  refine wpAny_bind (wpAny_rule ?_)
  refine wpAny_bind (wpAny_attempt (wpAny_holding (wpAny_mono (h h' tk (fun b o hb e => hk' b o (by simpa using hb) e) hst') (fun r s₂ hq => ?_) fun _ _ hF => hF.elim)))
  obtain ⟨ra, c', rfl, hS', hgo⟩ := hq
  show wpAny _ A.in1 (updateSeq S (fun _ => #[.ref ra]) >>= _) _ _ _
  refine wpAny_bind ?_
  refine wpAny_updateSeq hS' rfl ?_
  have hS2 := Heap.get?_update_self (Obj.mapSeq fun _ => #[Value.ref ra]) hS' rfl
  refine wpAny_bind (wpAny_letGo ?_)
  refine wpAny_bind ?_
  exact wpAny_updateSeq hS2 rfl (wpAny_pure ⟨plainId_quiet F.plain_sum_loop _, hgo⟩)
theorem sum_more {i : Nat} {a r0 : Addr} {c : Nat} (hh : A.handled = none) (hne : l ≠ I) (hv : items[i]? = some (.ref a)) (st : s.heap.IsListIter I l i ∧ s.heap.IsList l items) (hS : s.heap.get? S = some (listOf #[.ref r0] c))
    (h : ∀ h' tk, (∀ b o, b ≠ I → s.heap.get? b = some o → h'.get? b = some o) → (h'.IsListIter I l (i + 1) ∧ h'.IsList l items) →
      wpAny (model prog w) A.in1 (binaryOp .Add (.ref r0) (.ref a)) (fun r s₂ => ∃ ra c', r = .ref ra ∧ s₂.heap.get? S = some (listOf #[.ref r0] c') ∧
        codeAny (model prog w) A (.builtin "sum.loop" ⟨[.ref I, .ref S, rawInt 2, rawInt 0], []⟩) R { s₂ with heap := put2 s₂.heap S r }) (fun _ _ => False) { s with heap := h', toks := tk }) :
    codeAny (model prog w) A (.builtin "sum.loop" ⟨[.ref I, .ref S, rawInt 2, rawInt 0], []⟩) R s := by
  have W := Walks.list (prog := prog) (w := w) (A := A.in1) hh I l hne items
  have hlt : i < items.size := by
    rcases Nat.lt_or_ge i items.size with h | h
    · exact h
    · rw [Array.getElem?_eq_none h] at hv; cases hv
  refine codeAny_builtin F.entry_sum_loop ?_
  rw [Around.under_plainId F.plain_sum_loop _]
  show wpAny _ A.in1 (seqItems? (.ref S) >>= _) _ _ s
  refine wpAny_bind (wpAny_seqItems hS rfl ?_)
  show wpAny _ A.in1 (tryCatch (pyNext (.ref I)) _ >>= _) _ _ s
  refine wpAny_bind (wpAny_tryCatch (W.item i s _ _ hlt st fun v h' tk hP hst' hk' => ?_))
  obtain rfl : v = .ref a := Option.some.inj (hP.symm.trans hv)
  show wpAny _ A.in1 ((holding [Value.ref a] (binaryOp .Add (.ref r0) (.ref a))).attempt >>= _) _ _ _
  refine wpAny_bind (wpAny_attempt (wpAny_holding (wpAny_mono (h h' tk (fun b o hb e => hk' b o (by simpa using hb) e) hst') (fun r s₂ hq => ?_) fun _ _ hF => hF.elim)))
  obtain ⟨ra, c', rfl, hS', hgo⟩ := hq
  show wpAny _ A.in1 (updateSeq S (fun _ => #[.ref ra]) >>= _) _ _ _
  refine wpAny_bind ?_
  refine wpAny_updateSeq hS' rfl ?_
  have hS2 := Heap.get?_update_self (Obj.mapSeq fun _ => #[Value.ref ra]) hS' rfl
  refine wpAny_bind (wpAny_letGo ?_)
  refine wpAny_bind ?_
  exact wpAny_updateSeq hS2 rfl (wpAny_pure ⟨plainId_quiet F.plain_sum_loop _, hgo⟩)
end
section
variable {prog : Program} {w : World} {A : Around} {E : Value → Shared → Prop} {s : Shared} {l : Addr} {items : Array Value}
theorem sum_call {Q : Value → Shared → Prop} (hl : s.heap.IsList l items)
    (h : ∀ h' tk tA, h' = (s.heap.push { cls := .type "list_iterator", data := .fields #[.ref l, .int 0 0] }).push (listOf #[.int 0 tA] 0) → (h'.IsListIter s.heap.objs.size l 0 ∧ h'.IsList l items) →
      codeAny (model prog w) A (.builtin "sum.loop" ⟨[.ref s.heap.objs.size, .ref (s.heap.objs.size + 1), rawInt 0, rawInt 0], []⟩) (wants Q E) { s with heap := h', toks := tk }) :
    wpAny (model prog w) A (call (.builtin "sum") [.ref l]) Q E s := by
  refine call_function_tree F.kind_sum F.plain_sum F.entry_sum (F.args_sum1 _) ?_
  unfold Builtin.«sum»
  simp only [List.length_cons, List.length_nil]
  rw [if_neg (by decide)]
  refine wpAny_bind (wpAny_of_eq (show Builtin.Builtins.bindParams "sum" ["start"] 0 { } = pure [none] from rfl) ?_)
  refine wpAny_bind (wpAny_pyIter_list hl ?_)
  refine wpAny_bind (wpAny_mkInt ?_)
  refine wpAny_bind (wpAny_pure ?_)
  simp only [List.forIn_cons, List.forIn_nil]
  refine wpAny_bind (wpAny_bind (wpAny_bind (wpAny_isInstance (T := "int") (b := false) (typeIs_int _ _ _) PySem.sub_int_str ?_)))
  simp only [Bool.false_eq_true, if_false]
  refine wpAny_pure (wpAny_bind (wpAny_bind (wpAny_isInstance (T := "int") (b := false) (typeIs_int _ _ _) PySem.sub_int_bytes ?_)))
  simp only [Bool.false_eq_true, if_false]
  refine wpAny_pure (wpAny_bind (wpAny_bind (wpAny_isInstance (T := "int") (b := false) (typeIs_int _ _ _) PySem.sub_int_bytearray ?_)))
  simp only [Bool.false_eq_true, if_false]
  refine wpAny_pure (wpAny_pure ?_)
  refine wpAny_bind (wpAny_newObj_type ?_)
  dsimp only
  rw [Heap.size_push]
  refine wpAny_pure ⟨plainId_quiet F.plain_sum_loop _, h _ _ _ rfl ⟨?_, ?_⟩⟩
  · exact ⟨_, Heap.get?_push_of_some _ (Heap.get?_push_size _ rfl), rfl, rfl⟩
  · exact (hl.push _).push _
end
end Mine62
end
section
open PySem PySem.W PyProof.Rows PySem.Calls PyProof.V PySem.Spec
namespace Mine62

theorem put2_same {h : Heap} {S : Addr} {r v : Value} {c : Nat} (hS : h.get? S = some (listOf #[v] c)) : Heap.SameBut S h (put2 h S r) ∧ (put2 h S r).get? S = some (listOf #[r] c) := by
  have a1 : (h.update S (Obj.mapSeq fun _ => #[r])).get? S = some (listOf #[r] c) := by
    have q := PySem.IsL.update hS (fun _ => #[r])
    rw [if_pos (show (#[r].size == #[v].size) = true from rfl)] at q
    exact q
  have a2 : (put2 h S r).get? S = some (listOf #[r] c) := by
    have q := PySem.IsL.update a1 (fun _ => #[r])
    rw [if_pos (show (#[r].size == #[r].size) = true from rfl)] at q
    exact q
  have s1 : Heap.SameBut S h (h.update S (Obj.mapSeq fun _ => #[r])) := Heap.SameBut.update ..
  have s2 : Heap.SameBut S (h.update S (Obj.mapSeq fun _ => #[r])) (put2 h S r) := Heap.SameBut.update ..
  exact ⟨s1.trans s2, a2⟩
theorem put2_news {h₀ h : Heap} {L S : Addr} {m : Str → Option Value} {r v : Value} {c : Nat} {rest : List (Addr × Obj)} (F : Fr h₀ L h m) (N : News h₀ L h ((S, listOf #[v] c) :: rest)) (hr : ∀ p ∈ rest, p.1 ≠ S) :
    Fr h₀ L (put2 h S r) m ∧ News h₀ L (put2 h S r) ((S, listOf #[r] c) :: rest) := by
  have z := N (S, listOf #[v] c) (.head _)
  have y := put2_same (r := r) z.1
  exact ⟨F.change y.1 z.2.1 z.2.2, news_set (pre := []) N (fun _ hp => nomatch hp) hr y.1 y.2⟩
theorem kept_news {h₀ h h' : Heap} {L I l : Addr} {m : Str → Option Value} {o : Obj} {rest : List (Addr × Obj)} {i : Nat} (F : Fr h₀ L h m) (N : News h₀ L h ((I, o) :: rest)) (hr : ∀ p ∈ rest, p.1 ≠ I) (hk : ∀ b o, b ≠ I → h.get? b = some o → h'.get? b = some o) (hI : h'.IsListIter I l i) :
    ∃ o', Fr h₀ L h' m ∧ News h₀ L h' ((I, o') :: rest) := by
  have z := N (I, o) (.head _)
  obtain ⟨it, hit, _⟩ := hI
  refine ⟨it, ⟨F.ns.at' fun o e => hk L o z.2.1.symm e, fun b o e => hk b o (fun q => ?_) (F.keep b o e), F.above⟩, fun p hp => ?_⟩
  · rw [q, z.2.2] at e; cases e
  · rcases List.mem_cons.mp hp with rfl | hp
    · exact ⟨hit, z.2⟩
    · exact ⟨hk _ _ (hr p hp) (N p (.tail _ hp)).1, (N p (.tail _ hp)).2⟩
theorem iter_at {h h' : Heap} {I l : Addr} {i : Nat} {items : Array Value} {o : Obj} (st : h.IsListIter I l i ∧ h.IsList l items) (h1 : h.get? I = some o) (h2 : h'.get? I = some o) (h3 : ∀ o, h.get? l = some o → h'.get? l = some o) : h'.IsListIter I l i ∧ h'.IsList l items :=
  ⟨st.1.at fun o' e => by rw [h1] at e; rw [h2]; exact e, st.2.at h3⟩
theorem fr_keep {h₀ h h' : Heap} {L : Addr} {m : Str → Option Value} {news : List (Addr × Obj)} {p : Addr × Obj} (N : News h₀ L h news) (N' : News h₀ L h' news) (hp : p ∈ news) : ∀ o, h.get? p.1 = some o → h'.get? p.1 = some o := fun o e => by
  rw [(N p hp).1] at e; rw [(N' p hp).1]; exact e
set_option maxRecDepth 100000 in
set_option maxHeartbeats 8000000 in
theorem sum_polys {w : World} {loose : List Str} {mean : ExcName → Option Value} {mg mb : Str → Option Value} {dp un : Nat} {gd : Option (List Code)} {cn : Str} {cs : Scope} {a : Addr} {ccd : Value} {cl : List (Str × Addr)} {outer : List Env} {A₀ : Around} {base h₀ : Heap} {L : Addr} {m : Str → Option Value} {s : Shared} {Q E : Value → Shared → Prop}
   {x1 d1 c1 : Addr} {vs1 : List Value} {ns1 : List Int} {nd1 nl1 : Nat} {ta1 tb1 : Tok} {x2 d2 c2 : Addr} {vs2 : List Value} {ns2 : List Int} {nd2 nl2 : Nat} {ta2 tb2 : Tok} {r dr lz : Addr} {n2 : Nat} {tq uq tn tn2 tz tf tf2 : Tok} {news : List (Addr × Obj)} {l : Addr} {nl : Nat}
   (B : Below A₀ base outer h₀) (F : Fr h₀ L s.heap m) (X : (hd.heap_1 w.params).In h₀) (N : News h₀ L s.heap news) (T : Top view62 loose mean mg mb h₀) (hk : cs.kind = .function)
   (hl : (l, listOf [.ref x1, .ref x2, .ref x1].toArray nl) ∈ news)
   (x1m : (x1, instObj 426 d1) ∈ news) (d1m : (d1, dictOf [ent w (Str.ofString "parent") ta1 (.ref r), ent w (Str.ofString "coeffs") tb1 (.ref c1)] nd1) ∈ news) (c1m : (c1, listOf vs1.toArray nl1) ∈ news) (hi1 : IntsAre vs1 ns1) (hl1 : ns1.length = 256)
   (x2m : (x2, instObj 426 d2) ∈ news) (d2m : (d2, dictOf [ent w (Str.ofString "parent") ta2 (.ref r), ent w (Str.ofString "coeffs") tb2 (.ref c2)] nd2) ∈ news) (c2m : (c2, listOf vs2.toArray nl2) ∈ news) (hi2 : IntsAre vs2 ns2) (hl2 : ns2.length = 256)
   (rm : (r, instObj 282 dr) ∈ news) (drm : (dr, dictOf [ent w (Str.ofString "q") tq (.int 3329 uq), ent w (Str.ofString "n") tn (.int 256 tn2), ent w (Str.ofString "ntt_zetas") tz (.ref lz), ent w (Str.ofString "ntt_f") tf (.int 3303 tf2)] n2) ∈ news)
   (hd : dp + 60 < recursionLimit) (hu : un + 700 < cLine)
   (hret : ∀ (x dx ll : Addr) (vs : List Value) (n : Nat) (t1 t2 : Tok) (h' : Heap) (tk' : Nat), IntsAre vs ((List.range 256).map (addZ ((List.range 256).map (addZ (addZ0 ns1 0) ns2)) ns1)) → Fr h₀ L h' m → News h₀ L h' ((x, instObj 426 dx) :: (dx, dictOf [ent w (Str.ofString "parent") t1 (.ref r), ent w (Str.ofString "coeffs") t2 (.ref ll)] 2) :: (ll, listOf vs.toArray n) :: news) → (∀ p ∈ news, p.1 ≠ ll) → (∀ p ∈ news, p.1 < dx) → @LT.lt Nat _ ll dx → @LT.lt Nat _ dx x → Q (.ref x) { s with heap := h', toks := tk' }) :
   wpAny (model PySem.Challenge.rw_yi0062_01.row.prog w) (ktrTop dp un gd cn cs L a ccd cl outer) (call (.builtin "sum") [.ref l]) Q E s := by
  revert X
  k_fill
  intro X
  refine sum_call (News.isList N hl) ?_
  intro h1 tk1 tA hdef st1
  have F1 : Fr h₀ L h1 m := by rw [hdef]; exact (F.push _).push _
  have N1 : News h₀ L h1 ((s.heap.objs.size + 1, listOf #[.int 0 tA] 0) :: (s.heap.objs.size, { cls := .type "list_iterator", data := .fields #[.ref l, .int 0 0] }) :: news) := by
    rw [hdef]
    have q := News.push (F.push _) (News.push F N { cls := .type "list_iterator", data := .fields #[.ref l, .int 0 0] }) (listOf #[.int 0 tA] 0)
    rw [Heap.size_push] at q
    exact q
  have ltI : ∀ p ∈ news, @LT.lt Nat _ p.1 s.heap.objs.size := fun p hp => Heap.lt_size (N p hp).1
  have hlI : @Ne Nat l s.heap.objs.size := Nat.ne_of_lt (ltI _ hl)
  clear hdef
  generalize hI : s.heap.objs.size = I at *
  have hSI : @Ne Nat (I + 1) I := Nat.succ_ne_self I
  have offI : ∀ p ∈ (I + 1, listOf #[.int 0 tA] 0) :: news, @Ne Nat p.1 I := fun p hp => by
    rcases List.mem_cons.mp hp with rfl | hp
    · exact hSI
    · exact Nat.ne_of_lt (ltI p hp)
  have offS : ∀ p ∈ news, @Ne Nat p.1 (I + 1) := fun p hp => Nat.ne_of_lt (Nat.lt_succ_of_lt (ltI p hp))
  have N1' : News h₀ L h1 ((I, { cls := .type "list_iterator", data := .fields #[.ref l, .int 0 0] }) :: (I + 1, listOf #[.int 0 tA] 0) :: news) := kst_newsOf N1 fun p hp => by
    simp only [List.mem_cons] at hp ⊢
    rcases hp with h | h | h <;> simp [h]
  refine sum_first (i := 0) rfl hlI rfl st1 (N1 _ (.head _)).1 ?_
  intro h2 tk2 hk2 st2
  obtain ⟨o2, F2, N2⟩ := kept_news F1 N1' offI hk2 st2.1
  have I1 : W.InstAt h2 x1 (instObj 426 d1) 426 (some _) := ⟨(N2 _ (.tail _ (.tail _ x1m))).1, rfl, rfl, (N2 _ (.tail _ (.tail _ d1m))).1⟩
  refine' radd_K ?F ?X I1 rfl ?hC ?hS ?hR ?hF ?hU ?_
  case F => exact F2
  case X => exact X
  case hC => k_dflt k_is
  case hS => k_dflt k_is
  case hR => k_dflt k_is
  case hF => k_dflt k_is
  case hU => k_dflt k_is
  refine radd_call (dp := dp) (un := un + 1) B F2 X N2 T hk (.tail _ (.tail _ x1m)) (.tail _ (.tail _ d1m)) (.tail _ (.tail _ c1m)) hi1 hl1 (.tail _ (.tail _ rm)) (.tail _ (.tail _ drm)) (by omega) (by omega) ?_
  intro xa da la va na t1a t2a h3 tk3 ia F3 N3 ne3 lt3 ld3 lx3
  refine ⟨xa, 0, rfl, (N3 _ (.tail _ (.tail _ (.tail _ (.tail _ (.head _)))))).1, ?_⟩
  have offS3 : ∀ p ∈ (xa, instObj 426 da) :: (da, dictOf [ent w (Str.ofString "parent") t1a (.ref r), ent w (Str.ofString "coeffs") t2a (.ref la)] 2) :: (la, listOf va.toArray na) :: (I, o2) :: news, @Ne Nat p.1 (I + 1) := fun p hp => by
    have l1 := lt3 (I + 1, _) (.tail _ (.head _))
    simp only [List.mem_cons] at hp
    rcases hp with rfl | rfl | rfl | rfl | hp
    · exact Ne.symm (Nat.ne_of_lt (Nat.lt_trans l1 lx3))
    · exact Ne.symm (Nat.ne_of_lt l1)
    · exact Ne.symm (ne3 _ (.tail _ (.head _)))
    · exact Ne.symm hSI
    · exact offS p hp
  have N3' : News h₀ L h3 ((I + 1, listOf #[.int 0 tA] 0) :: (xa, instObj 426 da) :: (da, dictOf [ent w (Str.ofString "parent") t1a (.ref r), ent w (Str.ofString "coeffs") t2a (.ref la)] 2) :: (la, listOf va.toArray na) :: (I, o2) :: news) := kst_newsOf N3 fun p hp => by
    simp only [List.mem_cons] at hp ⊢
    rcases hp with h | h | h | h | h | h <;> simp [h]
  obtain ⟨F4, N4⟩ := put2_news (r := .ref xa) F3 N3' offS3
  have st4 := iter_at (h' := put2 h3 (I + 1) (.ref xa)) st2 (N2 (I, o2) (.head _)).1 (N4 (I, o2) (.tail _ (.tail _ (.tail _ (.tail _ (.head _)))))).1 (fun o e => by
    rw [(N2 _ (.tail _ (.tail _ hl))).1] at e; rw [(N4 (l, _) (.tail _ (.tail _ (.tail _ (.tail _ (.tail _ hl)))))).1]; exact e)
  refine sum_more (i := 1) rfl hlI rfl st4 (N4 _ (.head _)).1 ?_
  intro h5 tk5 hk5 st5
  have offI4 : ∀ p ∈ (I + 1, listOf #[.ref xa] 0) :: (xa, instObj 426 da) :: (da, dictOf [ent w (Str.ofString "parent") t1a (.ref r), ent w (Str.ofString "coeffs") t2a (.ref la)] 2) :: (la, listOf va.toArray na) :: news, @Ne Nat p.1 I := fun p hp => by
    have l1 := lt3 (I, _) (.head _)
    simp only [List.mem_cons] at hp
    rcases hp with rfl | rfl | rfl | rfl | hp
    · exact hSI
    · exact Ne.symm (Nat.ne_of_lt (Nat.lt_trans l1 lx3))
    · exact Ne.symm (Nat.ne_of_lt l1)
    · exact Ne.symm (ne3 _ (.head _))
    · exact Nat.ne_of_lt (ltI p hp)
  have N4' : News h₀ L (put2 h3 (I + 1) (.ref xa)) ((I, o2) :: (I + 1, listOf #[.ref xa] 0) :: (xa, instObj 426 da) :: (da, dictOf [ent w (Str.ofString "parent") t1a (.ref r), ent w (Str.ofString "coeffs") t2a (.ref la)] 2) :: (la, listOf va.toArray na) :: news) := kst_newsOf N4 fun p hp => by
    simp only [List.mem_cons] at hp ⊢
    rcases hp with h | h | h | h | h | h <;> simp [h]
  obtain ⟨o5, F5, N5⟩ := kept_news F4 N4' offI4 hk5 st5.1
  have sub5 : ∀ p ∈ news, p ∈ (I, o5) :: (I + 1, listOf #[.ref xa] 0) :: (xa, instObj 426 da) :: (da, dictOf [ent w (Str.ofString "parent") t1a (.ref r), ent w (Str.ofString "coeffs") t2a (.ref la)] 2) :: (la, listOf va.toArray na) :: news := fun p hp => .tail _ (.tail _ (.tail _ (.tail _ (.tail _ hp))))
  have I5 : W.InstAt h5 xa (instObj 426 da) 426 (some _) := ⟨(N5 _ (.tail _ (.tail _ (.head _)))).1, rfl, rfl, (N5 _ (.tail _ (.tail _ (.tail _ (.head _))))).1⟩
  have J5 : W.InstAt h5 x2 (instObj 426 d2) 426 (some _) := ⟨(N5 _ (sub5 _ x2m)).1, rfl, rfl, (N5 _ (sub5 _ d2m)).1⟩
  refine' binop_K ?F ?X I5 J5.type ?hC ?hS ?hF ?_
  case F => exact F5
  case X => exact X
  case hC => k_dflt k_is
  case hS => k_dflt k_is
  case hF => k_dflt k_is
  have hla : (addZ0 ns1 0).length = 256 := by unfold addZ0; rw [List.length_set]; exact hl1
  refine add_call (dp := dp) (un := un + 1) B F5 X N5 T hk (.tail _ (.tail _ (.head _))) (.tail _ (.tail _ (.tail _ (.head _)))) (.tail _ (.tail _ (.tail _ (.tail _ (.head _))))) ia hla (sub5 _ x2m) (sub5 _ d2m) (sub5 _ c2m) hi2 hl2 (sub5 _ rm) (sub5 _ drm) (by omega) (by omega) ?_
  intro xb db lb vb nb t1b t2b h6 tk6 ib F6 N6 ne6 lt6 ld6 lx6
  refine ⟨xb, 0, rfl, (N6 _ (.tail _ (.tail _ (.tail _ (.tail _ (.head _)))))).1, ?_⟩
  have offS6 : ∀ p ∈ (xb, instObj 426 db) :: (db, dictOf [ent w (Str.ofString "parent") t1b (.ref r), ent w (Str.ofString "coeffs") t2b (.ref lb)] 2) :: (lb, listOf vb.toArray nb) :: (I, o5) :: news, @Ne Nat p.1 (I + 1) := fun p hp => by
    have l1 := lt6 (I + 1, _) (.tail _ (.head _))
    simp only [List.mem_cons] at hp
    rcases hp with rfl | rfl | rfl | rfl | hp
    · exact Ne.symm (Nat.ne_of_lt (Nat.lt_trans l1 lx6))
    · exact Ne.symm (Nat.ne_of_lt l1)
    · exact Ne.symm (ne6 _ (.tail _ (.head _)))
    · exact Ne.symm hSI
    · exact offS p hp
  have N6' : News h₀ L h6 ((I + 1, listOf #[.ref xa] 0) :: (xb, instObj 426 db) :: (db, dictOf [ent w (Str.ofString "parent") t1b (.ref r), ent w (Str.ofString "coeffs") t2b (.ref lb)] 2) :: (lb, listOf vb.toArray nb) :: (I, o5) :: news) := kst_newsOf N6 fun p hp => by
    simp only [List.mem_cons] at hp ⊢
    rcases hp with h | h | h | h | h | h <;> simp [h]
  obtain ⟨F7, N7⟩ := put2_news (r := .ref xb) F6 N6' offS6
  have st7 := iter_at (h' := put2 h6 (I + 1) (.ref xb)) st5 (N5 (I, o5) (.head _)).1 (N7 (I, o5) (.tail _ (.tail _ (.tail _ (.tail _ (.head _)))))).1 (fun o e => by
    rw [(N5 _ (sub5 _ hl)).1] at e; rw [(N7 (l, _) (.tail _ (.tail _ (.tail _ (.tail _ (.tail _ hl)))))).1]; exact e)
  refine sum_more (i := 2) rfl hlI rfl st7 (N7 _ (.head _)).1 ?_
  intro h8 tk8 hk8 st8
  have offI7 : ∀ p ∈ (I + 1, listOf #[.ref xb] 0) :: (xb, instObj 426 db) :: (db, dictOf [ent w (Str.ofString "parent") t1b (.ref r), ent w (Str.ofString "coeffs") t2b (.ref lb)] 2) :: (lb, listOf vb.toArray nb) :: news, @Ne Nat p.1 I := fun p hp => by
    have l1 := lt6 (I, _) (.head _)
    simp only [List.mem_cons] at hp
    rcases hp with rfl | rfl | rfl | rfl | hp
    · exact hSI
    · exact Ne.symm (Nat.ne_of_lt (Nat.lt_trans l1 lx6))
    · exact Ne.symm (Nat.ne_of_lt l1)
    · exact Ne.symm (ne6 _ (.head _))
    · exact Nat.ne_of_lt (ltI p hp)
  have N7' : News h₀ L (put2 h6 (I + 1) (.ref xb)) ((I, o5) :: (I + 1, listOf #[.ref xb] 0) :: (xb, instObj 426 db) :: (db, dictOf [ent w (Str.ofString "parent") t1b (.ref r), ent w (Str.ofString "coeffs") t2b (.ref lb)] 2) :: (lb, listOf vb.toArray nb) :: news) := kst_newsOf N7 fun p hp => by
    simp only [List.mem_cons] at hp ⊢
    rcases hp with h | h | h | h | h | h <;> simp [h]
  obtain ⟨o8, F8, N8⟩ := kept_news F7 N7' offI7 hk8 st8.1
  have sub8 : ∀ p ∈ news, p ∈ (I, o8) :: (I + 1, listOf #[.ref xb] 0) :: (xb, instObj 426 db) :: (db, dictOf [ent w (Str.ofString "parent") t1b (.ref r), ent w (Str.ofString "coeffs") t2b (.ref lb)] 2) :: (lb, listOf vb.toArray nb) :: news := fun p hp => .tail _ (.tail _ (.tail _ (.tail _ (.tail _ hp))))
  have I8 : W.InstAt h8 xb (instObj 426 db) 426 (some _) := ⟨(N8 _ (.tail _ (.tail _ (.head _)))).1, rfl, rfl, (N8 _ (.tail _ (.tail _ (.tail _ (.head _))))).1⟩
  have J8 : W.InstAt h8 x1 (instObj 426 d1) 426 (some _) := ⟨(N8 _ (sub8 _ x1m)).1, rfl, rfl, (N8 _ (sub8 _ d1m)).1⟩
  refine' binop_K ?F ?X I8 J8.type ?hC ?hS ?hF ?_
  case F => exact F8
  case X => exact X
  case hC => k_dflt k_is
  case hS => k_dflt k_is
  case hF => k_dflt k_is
  have hlb : ((List.range 256).map (addZ (addZ0 ns1 0) ns2)).length = 256 := by rw [List.length_map, List.length_range]
  refine add_call (dp := dp) (un := un + 1) B F8 X N8 T hk (.tail _ (.tail _ (.head _))) (.tail _ (.tail _ (.tail _ (.head _)))) (.tail _ (.tail _ (.tail _ (.tail _ (.head _))))) ib hlb (sub8 _ x1m) (sub8 _ d1m) (sub8 _ c1m) hi1 hl1 (sub8 _ rm) (sub8 _ drm) (by omega) (by omega) ?_
  intro xc dc lc vc nc t1c t2c h9 tk9 ic F9 N9 ne9 lt9 ld9 lx9
  refine ⟨xc, 0, rfl, (N9 _ (.tail _ (.tail _ (.tail _ (.tail _ (.head _)))))).1, ?_⟩
  have offS9 : ∀ p ∈ (xc, instObj 426 dc) :: (dc, dictOf [ent w (Str.ofString "parent") t1c (.ref r), ent w (Str.ofString "coeffs") t2c (.ref lc)] 2) :: (lc, listOf vc.toArray nc) :: (I, o8) :: news, @Ne Nat p.1 (I + 1) := fun p hp => by
    have l1 := lt9 (I + 1, _) (.tail _ (.head _))
    simp only [List.mem_cons] at hp
    rcases hp with rfl | rfl | rfl | rfl | hp
    · exact Ne.symm (Nat.ne_of_lt (Nat.lt_trans l1 lx9))
    · exact Ne.symm (Nat.ne_of_lt l1)
    · exact Ne.symm (ne9 _ (.tail _ (.head _)))
    · exact Ne.symm hSI
    · exact offS p hp
  have N9' : News h₀ L h9 ((I + 1, listOf #[.ref xb] 0) :: (xc, instObj 426 dc) :: (dc, dictOf [ent w (Str.ofString "parent") t1c (.ref r), ent w (Str.ofString "coeffs") t2c (.ref lc)] 2) :: (lc, listOf vc.toArray nc) :: (I, o8) :: news) := kst_newsOf N9 fun p hp => by
    simp only [List.mem_cons] at hp ⊢
    rcases hp with h | h | h | h | h | h <;> simp [h]
  obtain ⟨F10, N10⟩ := put2_news (r := .ref xc) F9 N9' offS9
  have st10 := iter_at (h' := put2 h9 (I + 1) (.ref xc)) st8 (N8 (I, o8) (.head _)).1 (N10 (I, o8) (.tail _ (.tail _ (.tail _ (.tail _ (.head _)))))).1 (fun o e => by
    rw [(N8 _ (sub8 _ hl)).1] at e; rw [(N10 (l, _) (.tail _ (.tail _ (.tail _ (.tail _ (.tail _ hl)))))).1]; exact e)
  refine sum_end (items := [.ref x1, .ref x2, .ref x1].toArray) rfl hlI st10 (N10 _ (.head _)).1 ?_
  intro h11 tk11 hk11
  have subE : ∀ p ∈ news, p ∈ (I, o8) :: (I + 1, listOf #[.ref xb] 0) :: (xb, instObj 426 db) :: (db, dictOf [ent w (Str.ofString "parent") t1b (.ref r), ent w (Str.ofString "coeffs") t2b (.ref lb)] 2) :: (lb, listOf vb.toArray nb) :: news := sub8
  have offE : ∀ p ∈ (xc, instObj 426 dc) :: (dc, dictOf [ent w (Str.ofString "parent") t1c (.ref r), ent w (Str.ofString "coeffs") t2c (.ref lc)] 2) :: (lc, listOf vc.toArray nc) :: news, @Ne Nat p.1 I := fun p hp => by
    have l1 := lt9 (I, _) (.head _)
    simp only [List.mem_cons] at hp
    rcases hp with rfl | rfl | rfl | hp
    · exact Ne.symm (Nat.ne_of_lt (Nat.lt_trans l1 lx9))
    · exact Ne.symm (Nat.ne_of_lt l1)
    · exact Ne.symm (ne9 _ (.head _))
    · exact Nat.ne_of_lt (ltI p hp)
  have zI := N10 (I, o8) (.tail _ (.tail _ (.tail _ (.tail _ (.head _)))))
  have F12 : Fr h₀ L h11 m := ⟨F10.ns.at' fun o e => hk11 L o zI.2.1.symm e, fun b o e => hk11 b o (fun q => by rw [q, zI.2.2] at e; cases e) (F10.keep b o e), F10.above⟩
  have N12 : News h₀ L h11 ((xc, instObj 426 dc) :: (dc, dictOf [ent w (Str.ofString "parent") t1c (.ref r), ent w (Str.ofString "coeffs") t2c (.ref lc)] 2) :: (lc, listOf vc.toArray nc) :: news) := fun p hp => by
    have q := N10 p (by
      simp only [List.mem_cons] at hp ⊢
      rcases hp with h | h | h | h <;> simp [h])
    exact ⟨hk11 _ _ (offE p hp) q.1, q.2⟩
  exact hret xc dc lc vc nc t1c t2c h11 tk11 ic F12 N12 (fun p hp => ne9 p (sub8 p hp)) (fun p hp => lt9 p (sub8 p hp)) ld9 lx9
end Mine62
end
section
open PySem PySem.W PyProof.Rows PySem.Calls PyProof.V PySem.Spec
namespace Mine62
set_option maxRecDepth 100000 in
set_option maxHeartbeats 8000000 in
theorem nwb_call {w : World} {loose : List Str} {mean : ExcName → Option Value} {mg mb : Str → Option Value} {cn : Str} {cs : Scope} {a : Addr} {ccd : Value} {h₀ : Heap} {L : Addr} {m : Str → Option Value} {s : Shared} {Q E : Value → Shared → Prop}
   {x1 d1 c1 r : Addr} {ta1 tb1 : Tok} {nd1 : Nat} {news : List (Addr × Obj)}
   (B : Below callerA h₀ [] h₀) (F : Fr h₀ L s.heap m) (X : (hd.heap_1 w.params).In h₀) (N : News h₀ L s.heap news) (T : Top view62 loose mean mg mb h₀) (hk : cs.kind = .function)
   (x1m : (x1, instObj 350 d1) ∈ news) (d1m : (d1, dictOf [ent w (Str.ofString "parent") ta1 (.ref r), ent w (Str.ofString "coeffs") tb1 (.ref c1)] nd1) ∈ news)
   (hret : ∀ (h' : Heap) (tk' : Nat), Fr h₀ L h' m → News h₀ L h' news → Q (.bool true) { s with heap := h', toks := tk' }) :
   wpAny (model PySem.Challenge.rw_yi0062_01.row.prog w) (callerA.deeper (envOf cn cs L a ccd)) (call (.ref 459) [.ref x1]) Q E s := by
  revert X
  k_fill
  intro X
  refine wpAny_call ?_
  (k_dflt (refine' code_defS0 ?k1 ?k2 ?k3 ?k4 ?k5 ?kA ?k6 ?k7 ?k8 ?k9 ?kB ?_ ?cK ?c2 ?c3 ?c4 ?c5; (case kA => exact rfl); (case k2 => k_asm); (case k1 => k_asm); (case k3 => k_asm); (case k4 => k_asm); (case k5 => k_asm); (case k6 => k_is); (case k7 => k_is); (case k8 => k_room); (case k9 => first | exact binds_K (by k_in) rfl (by k_is) rfl rfl rfl | exact BindsTo.of_eq rfl | fail "kts_go: no rule for these arguments"); (case kB => exact locs rfl); (case cK => exact hk); (case c2 => exact rfl); (case c3 => exact rfl); (case c4 => exact rfl); (case c5 => decide); k_whole; intro g' L' h' FG' F' N' B' X' T' D'; (try dsimp only); (try k_lift B'); (try k_fold)))
  set_option maxHeartbeats 400000 in
  k_steps
  exact hret _ _ (by assumption) (by assumption)
end Mine62
end
section
open PySem PySem.W PyProof.Rows
namespace Mine62
def lawDef : Option (List Stmt × Scope) := match PySem.Challenge.pw_yi0062_01.main.body.getLast? with | some (.FunctionDef _ _ b _ _ _ sc _ _ _) => some (b, sc) | _ => none
def lawBody : List Stmt := (lawDef.map (·.1)).getD []
def lawScope : Scope := (lawDef.map (·.2)).getD { kind := .function, names := [], isGenerator := false, isCoroutine := false }
def plainStep (u : Int) (c : List Int) (t : Int × Int) : List Int := c.set t.1.toNat (c.getD t.1.toNat 0 + u * t.2)
def plainOf (u v : Int) (ts us : List (Int × Int)) : List Int := us.foldl (plainStep v) (ts.foldl (plainStep u) (List.replicate 256 0))
theorem plains_len (u : Int) (ts : List (Int × Int)) : ∀ c : List Int, (ts.foldl (plainStep u) c).length = c.length := by
  induction ts with
  | nil => intro c; rfl
  | cons k t ih => intro w; rw [List.foldl_cons, ih, plainStep, List.length_set]
section
variable {prog : Program} {w : World} {A : Around} {E : Value → Shared → Prop} {s : Shared} {h₀ : Heap} {L : Addr} {news : List (Addr × Obj)}
theorem my_len256 {D : Addr} {Q : Value → Shared → Prop} {vs : List Value} {ns : List Int} {c : Nat} (N : News h₀ L s.heap news) (hm : (D, listOf vs.toArray c) ∈ news) (hi : IntsAre vs ns) (hf : ns.length = 256) (h : Q (.int 256 (s.toks + 1)) { s with toks := s.toks + 1 + 1 }) :
    wpAny (model prog w) A (call (.builtin "len") [.ref D]) Q E s := by
  have e : vs.toArray.size = 256 := by rw [List.size_toArray, hi.length, hf]
  exact KM.len_K N hm e (by decide) h
theorem my_ne_int {x y : Int} {t u : Tok} {Q : Value → Shared → Prop} (e : x = y) (h : Q (.bool false) s) : wpAny (model prog w) A (compareOp .NotEq (.int x t) (.int y u)) Q E s := by
  subst e
  refine PySem.P.ne_int ?_
  simpa using h
theorem my_ne {a b : Addr} {vs us : List Value} {n k : Nat} {ns : List Int} {Q : Value → Shared → Prop} (N : News h₀ L s.heap news) (ha : (a, listOf vs.toArray n) ∈ news) (hb : (b, listOf us.toArray k) ∈ news) (hi : IntsAre vs ns) (hj : IntsAre us ns) (hu : A.units + 64 < cLine)
    (h : Q (.bool false) s) : wpAny (model prog w) A (compareOp .NotEq (.ref a) (.ref b)) Q E s :=
  ne_intsK (News.isList N ha) hi (News.isList N hb) hj hu (by rw [decide_eq_true rfl]; exact h)
theorem my_eq {a b : Addr} {vs us : List Value} {n k : Nat} {ns : List Int} {Q : Value → Shared → Prop} (N : News h₀ L s.heap news) (ha : (a, listOf vs.toArray n) ∈ news) (hb : (b, listOf us.toArray k) ∈ news) (hi : IntsAre vs ns) (hj : IntsAre us ns) (hu : A.units + 64 < cLine)
    (h : Q (.bool true) s) : wpAny (model prog w) A (compareOp .Eq (.ref a) (.ref b)) Q E s :=
  eq_intsK (News.isList N ha) hi (News.isList N hb) hj hu (by rw [decide_eq_true rfl]; exact h)
end
theorem fr_kstB {h₀ h : Heap} {L : Addr} {m : Str → Option Value} (ps : List (Str × Value)) (F : Fr h₀ L h m) (hk : ∀ p ∈ ps, m p.1 = some p.2) : Fr h₀ L h (kstB m ps) := by
  have e : kstB m ps = m := by
    funext z
    induction ps with
    | nil => rfl
    | cons p r ih =>
      show (if z = p.1 then some p.2 else kstB m r z) = m z
      by_cases hz : z = p.1
      · rw [if_pos hz, hz, hk p (.head _)]
      · rw [if_neg hz]; exact ih fun q hq => hk q (.tail _ hq)
  rw [e]; exact F
end Mine62
end
section
open PySem PySem.W PyProof.Rows PySem.Calls PyProof.V PySem.Spec
namespace Mine62
local macro_rules | `(tactic| walk_at "call builtin:len") => `(tactic| (k_here; k_dflt (show wpAny _ _ (call (Value.builtin "len") [Value.ref _]) _ _ _); k_dflt (refine' my_len ?k1 ?k2 ?k3 ?k4 ?_; (case k1 => k_asm); (case k2 => k_mem); (case k3 => with_reducible assumption); (case k4 => omega); k_whole)))
local macro_rules | `(tactic| walk_at "callWith ref") => `(tactic| (k_here; (with_reducible show wpAny _ _ (callWith _ (Value.ref _) _ _ (backToKw _ (keywordEach (_ :: _) _))) _ _ _); kco_here; k_dflt (refine' own_callWithKW ?k1 ?k2 ?k3 ?k4 ?k5 ?_; (case k1 => k_in); (case k2 => k_inst); (case k3 => rfl); (case k4 => k_is); (case k5 => rfl); k_whole)))
local macro_rules | `(tactic| walk_at "getMethod ref") => `(tactic| (k_here; k_dflt (refine' kmu_own ?k1 ?k2 ?k3 ?k4 ?k5 ?_; (case k1 => k_asm); (case k2 => k_asm); (case k3 => k_inst); (case k4 => k_is); (case k5 => k_is); k_whole)))
local macro_rules | `(tactic| k_mem) => `(tactic| assumption)
local macro_rules | `(tactic| k_all) => `(tactic| with_reducible assumption)
local macro_rules | `(tactic| passes_own) => `(tactic| assumption)
local macro_rules | `(tactic| mul_fits) => `(tactic| assumption)
local macro_rules | `(tactic| walk_at "compareOp NotEq ref ref") => `(tactic| (k_here; (with_reducible show wpAny _ _ (compareOp CmpOp.NotEq (Value.ref _) (Value.ref _)) _ _ _); k_dflt (refine' my_ne ?N ?a ?b ?i ?j ?u ?_; (case N => k_asm); (case a => k_mem); (case b => k_mem); (case i => with_reducible assumption); (case j => with_reducible assumption); (case u => units_room))))
local macro_rules | `(tactic| walk_at "compareOp Eq ref ref") => `(tactic| (k_here; (with_reducible show wpAny _ _ (compareOp CmpOp.Eq (Value.ref _) (Value.ref _)) _ _ _); k_dflt (refine' my_eq ?N ?a ?b ?i ?j ?u ?_; (case N => k_asm); (case a => k_mem); (case b => k_mem); (case i => with_reducible assumption); (case j => with_reducible assumption); (case u => units_room))))
local macro_rules | `(tactic| walk_at "compareOp NotEq int int") => `(tactic| (k_here; (with_reducible show wpAny _ _ (compareOp CmpOp.NotEq (Value.int _ _) (Value.int _ _)) _ _ _); k_dflt (refine' my_ne_int ?e ?_; (case e => with_reducible assumption)); (try dsimp only)))
local macro_rules | `(tactic| walk_at "call builtin:len") => `(tactic| (k_here; k_dflt (show wpAny _ _ (call (Value.builtin "len") [Value.ref _]) _ _ _); k_dflt (refine' my_len256 ?k1 ?k2 ?k3 ?k4 ?_; (case k1 => k_asm); (case k2 => k_mem); (case k3 => with_reducible assumption); (case k4 => with_reducible assumption)); (try dsimp only)))
local macro_rules | `(tactic| walk_at "pyIter ref") => `(tactic| ((with_reducible show wpAny _ _ (pyIter (Value.ref _)) (fun it s₂ => LoopAtV _ _ _ _ _ _ _ _ _ it s₂) _ _); refine Stop.of ?_))
local macro_rules | `(tactic| walk_at "exec For Tuple Name cons nil") => `(tactic| (k_here; (rename Fr _ _ _ _ => lF'); (with_unfolding_all refine' For_turns lF' ?_; k_whole)))
local macro_rules | `(tactic| walk_at "pyIter ref") => `(tactic| ((with_reducible show wpAny _ _ (pyIter (Value.ref _)) (fun it s₂ => TurnsAt _ _ _ _ _ _ _ _ _ it s₂) _ _); refine Stop.of ?_))
local macro_rules | `(tactic| walk_at "FtPost") => `(tactic| refine Stop.of ?_)
local macro_rules | `(tactic| walk_at "FlPost") => `(tactic| refine Stop.of ?_)
local macro_rules | `(tactic| walk_at "call ref") => `(tactic| (k_here; k_dflt (show wpAny _ _ (call (Value.ref 380) [Value.ref _]) _ _ _); refine Stop.of ?_))
theorem led_head {h₀ h : Heap} {L D : Addr} {o : Obj} {tl : List (Addr × Obj)} (_N : News h₀ L h ((D, o) :: tl)) : ∃ D' : Addr, D' = D := ⟨D, rfl⟩
theorem led_ne {D : Addr} {q1 q2 q3 q4 : Addr × Obj} {tl news : List (Addr × Obj)} (htl : tl = q1 :: q2 :: q3 :: q4 :: news) (h : @LT.lt Nat _ q1.1 D ∧ @LT.lt Nat _ q2.1 D ∧ @LT.lt Nat _ q3.1 D ∧ @LT.lt Nat _ q4.1 D ∧ AllLt D news) : ∀ p ∈ tl, p.1 ≠ D := by
  subst htl
  exact allLt_ne (l := q1 :: q2 :: q3 :: q4 :: news) h
set_option maxRecDepth 100000 in
set_option maxHeartbeats 8000000 in
theorem tail_law {w : World} {loose : List Str} {mean : ExcName → Option Value} {mg mb : Str → Option Value} {cn : Str} {cs : Scope} {a : Addr} {ccd : Value} {h₀ : Heap} {L : Addr} {m : Str → Option Value} {s : Shared} {Q : Flow → Shared → Prop} {E : Value → Shared → Prop} {rest : List Stmt} {news : List (Addr × Obj)}
   {x1 d1 c1 : Addr} {vs1 : List Value} {ns1 : List Int} {nd1 nl1 : Nat} {ta1 tb1 : Tok} {x2 d2 c2 : Addr} {vs2 : List Value} {ns2 : List Int} {nd2 nl2 : Nat} {ta2 tb2 : Tok} {r dr lz : Addr} {n2 : Nat} {tq uq tn tn2 tz tf tf2 : Tok} 
   {x3 d3 c3 lo lt lf l2 le : Addr} {vs3 vso vst vsF vsS vse zs : List Value} {ns3 ex : List Int} {tsF tsS : List (Int × Int)} {nd3 nl3 no nt nF nS ne nz : Nat} {ta3 tb3 tu tv : Tok} {u v : Int}
   (hN : News h₀ L s.heap ((c3, listOf vs3.toArray nl3) :: (x3, instObj 426 d3) :: (d3, dictOf [ent w (Str.ofString "parent") ta3 (.ref r), ent w (Str.ofString "coeffs") tb3 (.ref c3)] nd3) :: news)) (hi3 : IntsAre vs3 ns3) (hl3 : ns3.length = 256) (hsep : ∀ p ∈ news, p.1 ≠ c3) (hcx : @Ne Nat c3 x3) (hcd : @Ne Nat c3 d3)
   (om : (lo, listOf vso.toArray no) ∈ news) (hio : IntsAre vso ns1) (tm : (lt, listOf vst.toArray nt) ∈ news) (hit : IntsAre vst ns2)
   (fm : (lf, listOf vsF.toArray nF) ∈ news) (hF : TermsIn news vsF tsF) (sm : (l2, listOf vsS.toArray nS) ∈ news) (hS : TermsIn news vsS tsS) (hpF : ∀ t ∈ tsF, 0 ≤ t.1 ∧ t.1 < 256) (hpS : ∀ t ∈ tsS, 0 ≤ t.1 ∧ t.1 < 256)
   (hbF : ∀ t ∈ tsF, PySem.IntMulOk u t.2) (hbS : ∀ t ∈ tsS, PySem.IntMulOk v t.2)
   (em : (le, listOf vse.toArray ne) ∈ news) (hie : IntsAre vse ex) (hle : ex.length = 256)
   (zm : (lz, listOf zs.toArray nz) ∈ news) {zz : List Int} (hz : IntsAre zs zz) (hzl : zz.length = 128) (hzs : ∀ j : Nat, Builtin.Int.intBits (zz.getD j 0) ≤ 64)
   (hmath : Stop (∀ j : Nat, j < 256 → 0 ≤ (fromNtt zz 3303 ns3).getD j 0 ∧ (fromNtt zz 3303 ns3).getD j 0 ≤ 3328 ∧ (128 * (fromNtt zz 3303 ns3).getD j 0).fmod 3329 = (128 * (plainOf u v tsF tsS).getD j 0 + ex.getD j 0).fmod 3329))
   (hEo : PassesOwn (model PySem.Challenge.rw_yi0062_01.row.prog w) (callerA.deeper (envOf cn cs L a ccd)) (envOf cn cs L a ccd) E) (ecs : cs = lawScope) (er : rest = lawBody.drop 14)
   (B : Below callerA h₀ [] h₀) (F : Fr h₀ L s.heap (kstB m [(Str.ofString "ah", .ref x1), (Str.ofString "bh", .ref x2), (Str.ofString "one", .ref lo), (Str.ofString "two", .ref lt), (Str.ofString "first", .ref lf), (Str.ofString "second", .ref l2), (Str.ofString "extra", .ref le), (Str.ofString "u", .int u tu), (Str.ofString "v", .int v tv), (Str.ofString "got", .ref x3)])) (X : (hd.heap_1 w.params).In h₀) (T : Top view62 loose mean mg mb h₀)
   (x1m : (x1, instObj 426 d1) ∈ news) (d1m : (d1, dictOf [ent w (Str.ofString "parent") ta1 (.ref r), ent w (Str.ofString "coeffs") tb1 (.ref c1)] nd1) ∈ news) (c1m : (c1, listOf vs1.toArray nl1) ∈ news) (hi1 : IntsAre vs1 ns1) (hl1 : ns1.length = 256)
   (x2m : (x2, instObj 426 d2) ∈ news) (d2m : (d2, dictOf [ent w (Str.ofString "parent") ta2 (.ref r), ent w (Str.ofString "coeffs") tb2 (.ref c2)] nd2) ∈ news) (c2m : (c2, listOf vs2.toArray nl2) ∈ news) (hi2 : IntsAre vs2 ns2) (hl2 : ns2.length = 256)
   (rm : (r, instObj 282 dr) ∈ news) (drm : (dr, dictOf [ent w (Str.ofString "q") tq (.int 3329 uq), ent w (Str.ofString "n") tn (.int 256 tn2), ent w (Str.ofString "ntt_zetas") tz (.ref lz), ent w (Str.ofString "ntt_f") tf (.int 3303 tf2)] n2) ∈ news)
   (hret : ∀ (m' : Str → Option Value) (h' : Heap) (tk' : Nat), Fr h₀ L h' m' → Q (.ret (.bool true)) { s with heap := h', toks := tk' }) :
   wpAny (model PySem.Challenge.rw_yi0062_01.row.prog w) (callerA.deeper (envOf cn cs L a ccd)) (execs rest (envOf cn cs L a ccd)) Q E s := by
  revert X
  k_fill
  intro X
  conv at ecs => rhs; whnf
  conv at er => rhs; whnf
  subst ecs
  subst er
  have N := hN
  clear hN
  set_option maxHeartbeats 400000 in
  k_steps
  (rename IntsAre (List.replicate (Int.toNat 256) _).flatten _ => hiPa)
  rw [show (List.replicate (Int.toNat 256) [(0 : Int)]).flatten = List.replicate 256 0 from by decide] at hiPa
  (rename _ ∧ _ ∧ _ ∧ _ ∧ AllLt _ news => ltA)
  refine Stop.out ?_
  (rename Fr _ _ _ _ => F1a)
  (rename News _ _ _ _ => N1a)
  obtain ⟨Dp, hDp⟩ := led_head N1a
  subst hDp
  obtain ⟨tla, htla, N2a⟩ := split_led N1a
  have hnea := led_ne htla ltA
  refine' for_terms (tail := tla) [Str.ofString "place", Str.ofString "number"] (plainStep u) (by rfl) ?hl ?hT F1a N2a (fun p hp => hp) hiPa ?turn ?done
  case hl => rw [htla]; k_mem
  case hT => exact hF.mono fun p hp => by rw [htla]; exact .tail _ (.tail _ (.tail _ (.tail _ hp)))
  case turn =>
    clear F1a N1a N2a
    intro a2 pl nm t2 u2 vs2 cs2 w2 h2 tk2 own2 hmem hts hoff2 hi2 hpre2 F4 N4
    obtain ⟨pre2, hpre2⟩ := hpre2
    have hl2 : cs2.length = 256 := by rw [hpre2, plains_len]; exact List.length_replicate ..
    have hpp := hpF _ hts
    have hmo := hbF _ hts
    dsimp only at hpp hmo
    have hm2 : (a2, tupO pl nm t2 u2) ∈ tla ++ own2 := List.mem_append.mpr (.inl hmem)
    have hq2 := all_app hnea hoff2 (.head _)
    set_option maxHeartbeats 400000 in
    k_steps
    refine Stop.out ?_
    (rename Fr _ _ _ _ => F5)
    (rename News _ _ _ _ => N5)
    dsimp only [FtPost]
    refine ⟨_, _, _, _, _, rfl, F5, N5, .head _, fun p hp => .tail _ (List.mem_append.mpr (Or.inl hp)), fun p hp => .tail _ (List.mem_append.mpr (Or.inr hp)), by assumption, ?_⟩
    intro z h2
    exact (if_neg (st_ne h2 (.tail _ (.head _)))).trans ((if_neg (st_ne h2 (.head _))).trans (frS_off h2))
  case done =>
    clear F1a N1a N2a
    intro vsPa w2 h2 tk2 hi2 F4 N4
    rw [htla] at N4
    set_option maxHeartbeats 400000 in
    k_steps
    refine Stop.out ?_
    (rename Fr _ _ _ _ => F1b)
    (rename News _ _ _ _ => N1b)
    obtain ⟨tlb, htlb, N2b⟩ := split_led N1b
    have hneb := led_ne htlb ltA
    refine' for_terms (tail := tlb) [Str.ofString "place", Str.ofString "number"] (plainStep v) (by rfl) ?hl ?hT F1b N2b (fun p hp => hp) hi2 ?turn ?done
    case hl => rw [htlb]; k_mem
    case hT => exact hS.mono fun p hp => by rw [htlb]; exact .tail _ (.tail _ (.tail _ (.tail _ hp)))
    case turn =>
      clear F1b N1b N2b
      intro a2 pl nm t2 u2 vs2 cs2 w2 h2 tk2 own2 hmem hts hoff2 hi2 hpre2 F4 N4
      obtain ⟨pre2, hpre2⟩ := hpre2
      have hl2 : cs2.length = 256 := by rw [hpre2, plains_len]; rw [plains_len]; exact List.length_replicate ..
      have hpp := hpS _ hts
      have hmo := hbS _ hts
      dsimp only at hpp hmo
      have hm2 : (a2, tupO pl nm t2 u2) ∈ tlb ++ own2 := List.mem_append.mpr (.inl hmem)
      have hq2 := all_app hneb hoff2 (.head _)
      set_option maxHeartbeats 400000 in
      k_steps
      refine Stop.out ?_
      (rename Fr _ _ _ _ => F5)
      (rename News _ _ _ _ => N5)
      dsimp only [FtPost]
      refine ⟨_, _, _, _, _, rfl, F5, N5, .head _, fun p hp => .tail _ (List.mem_append.mpr (Or.inl hp)), fun p hp => .tail _ (List.mem_append.mpr (Or.inr hp)), by assumption, ?_⟩
      intro z h2
      exact (if_neg (st_ne h2 (.tail _ (.head _)))).trans ((if_neg (st_ne h2 (.head _))).trans (frS_off h2))
    case done =>
      clear F1b N1b N2b
      intro vsPb w3 h3 tk3 hi4 F4 N4
      rw [htlb] at N4
      set_option maxHeartbeats 400000 in
      k_steps
      refine Stop.out ?_
      (show wpAny _ _ (call (Value.ref 380) [Value.ref _]) _ _ _)
      (rename Fr _ _ _ _ => F6)
      (rename News _ _ _ _ => N6)
      have hlG : (fromNtt zz 3303 ns3).length = 256 := by unfold fromNtt; rw [fins_length, lay_length, hl3]
      have hlP : (plainOf u v tsF tsS).length = 256 := by unfold plainOf; rw [plains_len, plains_len]; exact List.length_replicate ..
      have hiP : IntsAre vsPb (plainOf u v tsF tsS) := hi4
      clear hi4 hi2
      refine fromNtt_call (x := x3) (dx := d3) (r := r) (dr := dr) (lc := c3) (lz := lz) (vs := vs3) (nc := nl3) (nz := nz) (n1 := nd3) (n2 := n2) (t1 := ta3) (t2 := tb3) (tq := tq) (uq := uq) (tn := tn) (tn2 := tn2) (tz := tz) (tf := tf) (tf2 := tf2) (rest := (Dp, listOf vsPb.toArray 0) :: news) B F6 X N6 T rfl ?hN hi3 hl3 hz hzl hzs ?hd ?hu ?hsep ?e1 ?e2 ?e3 ?e4 ?e5 ?hret
      case hN =>
        intro p hp
        simp only [List.mem_cons] at hp ⊢
        rcases hp with h | h | h | h | h | h | h | h
        · simp [h]
        · simp [h]
        · simp [h]
        · rw [h]; simp [rm]
        · rw [h]; simp [drm]
        · rw [h]; simp [zm]
        · simp [h]
        · simp [h]
      case hd => decide
      case hu => decide
      case hsep =>
        intro p hp
        rcases List.mem_cons.mp hp with h | h
        · rw [h]; exact Ne.symm (Nat.ne_of_lt ltA.2.1)
        · exact hsep p h
      case e1 => exact hcx
      case e2 => exact hcd
      case e3 => exact Ne.symm (hsep _ rm)
      case e4 => exact Ne.symm (hsep _ drm)
      case e5 => exact Ne.symm (hsep _ zm)
      case hret =>
        generalize fromNtt zz 3303 ns3 = G at hmath hlG ⊢
        generalize plainOf u v tsF tsS = P at hmath hlP hiP ⊢
        intro xk dk tk1 tk2 vsk hk tkk hik Fk Nk
        clear F6 N6
        set_option maxHeartbeats 400000 in
        k_steps
        refine Stop.out ?_
        (rename Fr _ _ _ _ => F7)
        (rename News _ _ _ _ => N7)
        (rename IsRange _ _ _ _ _ _ _ _ => R7)
        obtain ⟨tl7, htl7⟩ : ∃ tl7, tl7 = (xk, instObj 350 dk) :: (dk, dictOf [ent w (Str.ofString "parent") tk1 (.ref r), ent w (Str.ofString "coeffs") tk2 (.ref c3)] 2) :: (c3, listOf vsk.toArray nl3) :: news := ⟨_, rfl⟩
        refine' for_list (lc := Dp) (nc := 0) (vs := vsPb) (cs := P) (tail := tl7) [Str.ofString "c"] (fun cs _ => cs) 256 (by rfl) R7 (by decide) (by rfl) (by decide) F7 N7 ?hN hiP ?turn ?done
        case hN =>
          intro p hp
          rw [htl7] at hp
          simp only [List.mem_cons] at hp ⊢
          rcases hp with h | h | h | h | h <;> simp [h]
        case turn =>
          clear F7 N7
          rintro j tj vs8 cs8 u8 h8 tok8 own hj hoff hi8 ⟨pre, hpre⟩ F8 N8
          have hjj := mem_rangeKs hj
          have e8 : cs8 = P := by
            rw [hpre]; clear hpre
            induction pre with
            | nil => rfl
            | cons a r ih => exact ih
          subst e8
          rw [htl7] at N8
          simp only [List.cons_append] at N8
          have em2 := List.mem_append_left own em
          obtain ⟨hc0, hc1, hceq⟩ := Stop.of hmath j.toNat (by omega)
          set_option maxHeartbeats 400000 in
          k_steps
          refine Stop.out ?_
          (rename Fr _ _ _ _ => F9)
          (rename News _ _ _ _ => N9)
          dsimp only [FlPost]
          refine ⟨_, _, _, _, _, tj, rfl, F9, N9, .head _, fun p hp => ?_, fun p hp => ?_, hi8, ?_, fun z h1 h2 => ?_⟩
          · rw [htl7] at hp
            simp only [List.mem_cons, List.mem_append] at hp ⊢
            rcases hp with h | h | h | h <;> simp [h]
          · simp only [List.mem_cons, List.mem_append]
            simp [hp]
          · exact (if_neg (by decide)).trans rfl
          · exact (if_neg (st_ne h2 (.head _))).trans (fr1_off h1 h2)
        case done =>
          clear F7 N7
          rintro vs8 tj u8 h8 tok8 hi8 F8 N8
          rw [htl7] at N8
          set_option maxHeartbeats 400000 in
          k_steps
          exact hret _ _ _ (by assumption)
end Mine62
end
section
open PySem PySem.W PyProof.Rows PySem.Calls PyProof.V PySem.Spec
namespace Mine62
local macro_rules | `(tactic| walk_at "call builtin:len") => `(tactic| (k_here; k_dflt (show wpAny _ _ (call (Value.builtin "len") [Value.ref _]) _ _ _); k_dflt (refine' my_len ?k1 ?k2 ?k3 ?k4 ?_; (case k1 => k_asm); (case k2 => k_mem); (case k3 => with_reducible assumption); (case k4 => omega); k_whole)))
local macro_rules | `(tactic| walk_at "callWith ref") => `(tactic| (k_here; (with_reducible show wpAny _ _ (callWith _ (Value.ref _) _ _ (backToKw _ (keywordEach (_ :: _) _))) _ _ _); kco_here; k_dflt (refine' own_callWithKW ?k1 ?k2 ?k3 ?k4 ?k5 ?_; (case k1 => k_in); (case k2 => k_inst); (case k3 => rfl); (case k4 => k_is); (case k5 => rfl); k_whole)))
local macro_rules | `(tactic| walk_at "getMethod ref") => `(tactic| (k_here; k_dflt (refine' kmu_own ?k1 ?k2 ?k3 ?k4 ?k5 ?_; (case k1 => k_asm); (case k2 => k_asm); (case k3 => k_inst); (case k4 => k_is); (case k5 => k_is); k_whole)))
local macro_rules | `(tactic| k_mem) => `(tactic| assumption)
local macro_rules | `(tactic| k_all) => `(tactic| with_reducible assumption)
local macro_rules | `(tactic| passes_own) => `(tactic| assumption)
local macro_rules | `(tactic| mul_fits) => `(tactic| assumption)
local macro_rules | `(tactic| walk_at "call builtin:pow") => `(tactic| (k_here; k_dflt (show wpAny _ _ (call (Value.builtin _) [Value.int _ _, Value.int _ _, Value.int _ _]) _ _ _); k_dflt (refine pow3 (by omega) ?_); (try dsimp only)))
local macro_rules | `(tactic| walk_at "pyIter ref") => `(tactic| ((with_reducible show wpAny _ _ (pyIter (Value.ref _)) (fun it s₂ => LoopAtV _ _ _ _ _ _ _ _ _ it s₂) _ _); refine Stop.of ?_))
local macro_rules | `(tactic| walk_at "FlPost") => `(tactic| refine Stop.of ?_)

theorem sub_bits (xs ys : List Int) : ∀ i : Nat, Builtin.Int.intBits (((List.range 256).map (subZ xs ys)).getD i 0) ≤ 2097152 := by
  intro i
  have h : ∀ x ∈ (List.range 256).map (subZ xs ys), 0 ≤ x ∧ x < 3329 := by
    intro x hx
    obtain ⟨k, _, rfl⟩ := List.mem_map.mp hx
    exact ⟨Int.fmod_nonneg_of_pos _ (by decide), Int.fmod_lt_of_pos _ (by decide)⟩
  have h2 : 0 ≤ ((List.range 256).map (subZ xs ys)).getD i 0 ∧ ((List.range 256).map (subZ xs ys)).getD i 0 < 3329 := by
    rw [List.getD_eq_getElem?_getD]
    cases e : ((List.range 256).map (subZ xs ys))[i]? with
    | none => decide
    | some x => exact h x (List.mem_of_getElem? e)
  exact Nat.le_trans (intBits_le_64 (by omega) (by omega)) (by decide)
def exStep (s : Int) (c : List Int) (k : Int) : List Int := c.set (2 * k).toNat (s * pm 17 (256 - k))
def exOf (s : Int) : List Int := (rangeKs 0 128).foldl (exStep s) (List.replicate 256 0)
theorem exs_len (s : Int) (ts : List Int) : ∀ c : List Int, (ts.foldl (exStep s) c).length = c.length := by
  induction ts with
  | nil => intro c; rfl
  | cons k t ih => intro w; rw [List.foldl_cons, ih, exStep, List.length_set]
theorem led7 {h₀ h : Heap} {L : Addr} {q1 q2 q3 q4 q5 : Addr × Obj} {news : List (Addr × Obj)} (N : News h₀ L h (q1 :: q2 :: q3 :: q4 :: q5 :: news)) (n1 : @Ne Nat q1.1 q5.1) (n2 : @Ne Nat q2.1 q5.1) (n3 : @Ne Nat q3.1 q5.1) (hs : ∀ p ∈ news, p.1 ≠ q5.1) :
    ∃ tl, tl = q1 :: q2 :: q3 :: news ∧ News h₀ L h (q5 :: tl) ∧ ∀ p ∈ tl, p.1 ≠ q5.1 := by
  refine ⟨_, rfl, fun p hp => N p ?_, fun p hp => ?_⟩
  · simp only [List.mem_cons] at hp ⊢
    rcases hp with h | h | h | h | h <;> simp [h]
  · rcases List.mem_cons.mp hp with h | hp
    · rw [h]; exact n1
    rcases List.mem_cons.mp hp with h | hp
    · rw [h]; exact n2
    rcases List.mem_cons.mp hp with h | hp
    · rw [h]; exact n3
    · exact hs p hp
theorem led7b {h₀ h : Heap} {L : Addr} {q1 q2 q3 q5 : Addr × Obj} {tl news : List (Addr × Obj)} (e : tl = q1 :: q2 :: q3 :: news) (N : News h₀ L h (q5 :: tl)) : News h₀ L h (q3 :: q1 :: q2 :: q5 :: news) := fun p hp => N p (by
  rw [e]
  simp only [List.mem_cons] at hp ⊢
  rcases hp with h | h | h | h | h <;> simp [h])
theorem head3 {h₀ h : Heap} {L : Addr} {q1 q2 q3 : Addr × Obj} {rest X : List (Addr × Obj)} (N : News h₀ L h (q1 :: q2 :: q3 :: rest)) (hs : ∀ p ∈ X, p ∈ rest) : News h₀ L h (q3 :: q1 :: q2 :: X) := fun p hp => N p (by
  rcases List.mem_cons.mp hp with h | hp
  · rw [h]; exact .tail _ (.tail _ (.head _))
  rcases List.mem_cons.mp hp with h | hp
  · rw [h]; exact .head _
  rcases List.mem_cons.mp hp with h | hp
  · rw [h]; exact .tail _ (.head _)
  · exact .tail _ (.tail _ (.tail _ (hs p hp))))
def MathOk (zz : List Int) (tsF tsS : List (Int × Int)) (u v : Int) (g ex : List Int) : Prop :=
  ∀ j : Nat, j < 256 → 0 ≤ (fromNtt zz 3303 g).getD j 0 ∧ (fromNtt zz 3303 g).getD j 0 ≤ 3328 ∧ (128 * (fromNtt zz 3303 g).getD j 0).fmod 3329 = (128 * (plainOf u v tsF tsS).getD j 0 + ex.getD j 0).fmod 3329
theorem sep_of {q : Addr × Obj} {news big : List (Addr × Obj)} {c : Addr} (h : ∀ p ∈ big, p.1 ≠ c) (hs : ∀ p ∈ q :: news, p ∈ big) : ∀ p ∈ q :: news, p.1 ≠ c := fun p hp => h p (hs p hp)
local macro_rules | `(tactic| walk_at "call ref") => `(tactic| (k_here; k_dflt (show wpAny _ _ (call (Value.ref 411) [Value.ref _, Value.ref _]) _ _ _); k_dflt (refine' add_call ?k1 ?k2 ?k3 ?k4 ?k5 ?k6 ?a1 ?a2 ?a3 ?a4 ?a5 ?b1 ?b2 ?b3 ?b4 ?b5 ?r1 ?r2 ?hd ?hu ?_; (case k1 => k_asm); (case k2 => k_asm); (case k3 => k_asm); (case k4 => k_asm); (case k5 => k_asm); (case k6 => exact rfl); (case a1 => k_mem); (case a2 => k_mem); (case a3 => k_mem); (case a4 => with_reducible assumption); (case a5 => first | with_reducible assumption | simp only [List.length_map, List.length_range]); (case b1 => k_mem); (case b2 => k_mem); (case b3 => k_mem); (case b4 => with_reducible assumption); (case b5 => first | with_reducible assumption | simp only [List.length_map, List.length_range]); (case r1 => k_mem); (case r2 => k_mem); (case hd => first | exact Nat.le_of_ble_eq_true rfl | ktr_room); (case hu => first | exact Nat.le_of_ble_eq_true rfl | ktr_units); intro xxp9 ddp9 llp9 vvp9 nnp9 tap9 tbp9 hhp9 tkp9 iip9 FFp9 NNp9 nep9 ltp9 ldp9 lxp9; (try dsimp only [W.CmpBack]); (try dsimp only); (try k_fold))))
local macro_rules | `(tactic| walk_at "call ref") => `(tactic| (k_here; k_dflt (show wpAny _ _ (call (Value.ref 411) [Value.ref _, Value.int _ _]) _ _ _); k_dflt (refine' add_int_call ?k1 ?k2 ?k3 ?k4 ?k5 ?k6 ?a1 ?a2 ?a3 ?a4 ?a5 ?r1 ?r2 ?hd ?hu ?_; (case k1 => k_asm); (case k2 => k_asm); (case k3 => k_asm); (case k4 => k_asm); (case k5 => k_asm); (case k6 => exact rfl); (case a1 => k_mem); (case a2 => k_mem); (case a3 => k_mem); (case a4 => with_reducible assumption); (case a5 => first | with_reducible assumption | simp only [List.length_map, List.length_range]); (case r1 => k_mem); (case r2 => k_mem); (case hd => first | exact Nat.le_of_ble_eq_true rfl | ktr_room); (case hu => first | exact Nat.le_of_ble_eq_true rfl | ktr_units); intro xxq9 ddq9 llq9 vvq9 nnq9 taq9 tbq9 hhq9 tkq9 iiq9 FFq9 NNq9 neq9 ltq9 ldq9 lxq9; (try dsimp only [W.CmpBack]); (try dsimp only); (try k_fold))))
local macro_rules | `(tactic| walk_at "call ref") => `(tactic| (k_here; k_dflt (show wpAny _ _ (call (Value.ref 418) [Value.ref _, Value.ref _]) _ _ _); k_dflt (refine' sub_call ?k1 ?k2 ?k3 ?k4 ?k5 ?k6 ?a1 ?a2 ?a3 ?a4 ?a5 ?b1 ?b2 ?b3 ?b4 ?b5 ?r1 ?r2 ?hd ?hu ?_; (case k1 => k_asm); (case k2 => k_asm); (case k3 => k_asm); (case k4 => k_asm); (case k5 => k_asm); (case k6 => exact rfl); (case a1 => k_mem); (case a2 => k_mem); (case a3 => k_mem); (case a4 => with_reducible assumption); (case a5 => first | with_reducible assumption | simp only [List.length_map, List.length_range]); (case b1 => k_mem); (case b2 => k_mem); (case b3 => k_mem); (case b4 => with_reducible assumption); (case b5 => first | with_reducible assumption | simp only [List.length_map, List.length_range]); (case r1 => k_mem); (case r2 => k_mem); (case hd => first | exact Nat.le_of_ble_eq_true rfl | ktr_room); (case hu => first | exact Nat.le_of_ble_eq_true rfl | ktr_units); intro xxr9 ddr9 llr9 vvr9 nnr9 tar9 tbr9 hhr9 tkr9 iir9 FFr9 NNr9 ner9 ltr9 ldr9 lxr9; (try dsimp only [W.CmpBack]); (try dsimp only); (try k_fold))))
local macro_rules | `(tactic| walk_at "call ref") => `(tactic| (k_here; k_dflt (show wpAny _ _ (call (Value.ref 423) [Value.ref _, Value.int _ _]) _ _ _); k_dflt (refine' mul_int ?k1 ?k2 ?k3 ?k4 ?k5 ?k6 ?a1 ?a2 ?a3 ?a4 ?a5 ?r1 ?r2 ?z1 ?z2 ?hd ?hu ?_; (case k1 => k_asm); (case k2 => k_asm); (case k3 => k_asm); (case k4 => k_asm); (case k5 => k_asm); (case k6 => exact rfl); (case a1 => k_mem); (case a2 => k_mem); (case a3 => k_mem); (case a4 => with_reducible assumption); (case a5 => first | with_reducible assumption | simp only [List.length_map, List.length_range]); (case r1 => k_mem); (case r2 => k_mem); (case z1 => first | with_reducible assumption | exact sub_bits _ _); (case z2 => with_reducible assumption); (case hd => first | exact Nat.le_of_ble_eq_true rfl | ktr_room); (case hu => first | exact Nat.le_of_ble_eq_true rfl | ktr_units); intro xxs9 dds9 lls9 vvs9 nns9 tas9 tbs9 hhs9 tks9 iis9 FFs9 NNs9 nes9 lts9 lds9 lxs9; (try dsimp only [W.CmpBack]); (try dsimp only); (try k_fold))))
local macro_rules | `(tactic| walk_at "call ref") => `(tactic| (k_here; k_dflt (show wpAny _ _ (call (Value.ref 127) [Value.ref _]) _ _ _); k_dflt (refine' neg_call ?k1 ?k2 ?k3 ?k4 ?k5 ?k6 ?a1 ?a2 ?a3 ?a4 ?a5 ?r1 ?r2 ?hd ?hu ?_; (case k1 => k_asm); (case k2 => k_asm); (case k3 => k_asm); (case k4 => k_asm); (case k5 => k_asm); (case k6 => exact rfl); (case a1 => k_mem); (case a2 => k_mem); (case a3 => k_mem); (case a4 => with_reducible assumption); (case a5 => first | with_reducible assumption | simp only [List.length_map, List.length_range]); (case r1 => k_mem); (case r2 => k_mem); (case hd => first | exact Nat.le_of_ble_eq_true rfl | ktr_room); (case hu => first | exact Nat.le_of_ble_eq_true rfl | ktr_units); intro xxt9 ddt9 llt9 vvt9 nnt9 tat9 tbt9 hht9 tkt9 iit9 FFt9 NNt9 net9 ltt9 ldt9 lxt9; (try dsimp only [W.CmpBack]); (try dsimp only); (try k_fold))))
local macro_rules | `(tactic| walk_at "call ref") => `(tactic| (k_here; k_dflt (show wpAny _ _ (call (Value.ref 459) [Value.ref _]) _ _ _); k_dflt (refine' nwb_call ?k1 ?k2 ?k3 ?k4 ?k5 ?k6 ?a1 ?a2 ?_; (case k1 => k_asm); (case k2 => k_asm); (case k3 => k_asm); (case k4 => k_asm); (case k5 => k_asm); (case k6 => exact rfl); (case a1 => k_mem); (case a2 => k_mem); intro hu9 tku9 Fu9 Nu9; (try dsimp only [W.CmpBack]); (try dsimp only); (try k_fold))))
local macro_rules | `(tactic| walk_at "call ref") => `(tactic| (k_here; k_dflt (show wpAny _ _ (call (Value.ref _) [Value.ref _] (List.zip _ _)) _ _ _); k_dflt (refine' ring_call true ?k1 ?k2 ?k3 ?k4 ?k5 ?k6 ?m1 ?m2 ?m3 ?hi ?hl ?hd ?hu ?_; (case k1 => k_asm); (case k2 => k_asm); (case k3 => k_asm); (case k4 => k_asm); (case k5 => k_asm); (case k6 => exact rfl); (case m1 => k_mem); (case m2 => k_mem); (case m3 => k_mem); (case hi => with_reducible assumption); (case hl => first | with_reducible assumption | simp only [List.length_map, List.length_range]); (case hd => first | exact Nat.le_of_ble_eq_true rfl | ktr_room); (case hu => first | exact Nat.le_of_ble_eq_true rfl | ktr_units); intro xr9 dr9 tr9 ur9 hr9 kr9 FR9 NR9 ltr9 lsr9; (rw [if_pos rfl] at NR9); (try dsimp only [W.CmpBack]); (try dsimp only); (try k_fold))))
local macro_rules | `(tactic| walk_at "binaryOp Mult int ref") => `(tactic| (k_here; (with_reducible show wpAny _ _ (binaryOp Operator.Mult (Value.int _ _) (Value.ref _)) _ _ _); k_dflt (refine' rmul_K ?F ?X ?I ?p ?hC ?hS ?hR ?hF ?hU ?_; (case F => k_asm); (case X => k_asm); (case I => k_inst); (case p => rfl); (case hC => k_is); (case hS => k_is); (case hR => k_is); (case hF => k_is); (case hU => k_is); k_whole)))
local macro_rules | `(tactic| walk_at "call builtin:sum") => `(tactic| (k_here; k_dflt (show wpAny _ _ (call (Value.builtin "sum") [Value.ref _]) _ _ _); k_dflt (refine' sum_polys ?k1 ?k2 ?k3 ?k4 ?k5 ?k6 ?hl ?a1 ?a2 ?a3 ?a4 ?a5 ?b1 ?b2 ?b3 ?b4 ?b5 ?r1 ?r2 ?hd ?hu ?_; (case k1 => k_asm); (case k2 => k_asm); (case k3 => k_asm); (case k4 => k_asm); (case k5 => k_asm); (case k6 => exact rfl); (case hl => k_mem); (case a1 => k_mem); (case a2 => k_mem); (case a3 => k_mem); (case a4 => with_reducible assumption); (case a5 => first | with_reducible assumption | simp only [List.length_map, List.length_range]); (case b1 => k_mem); (case b2 => k_mem); (case b3 => k_mem); (case b4 => with_reducible assumption); (case b5 => first | with_reducible assumption | simp only [List.length_map, List.length_range]); (case r1 => k_mem); (case r2 => k_mem); (case hd => first | exact Nat.le_of_ble_eq_true rfl | ktr_room); (case hu => first | exact Nat.le_of_ble_eq_true rfl | ktr_units); intro xxv9 ddv9 llv9 vvv9 nnv9 tav9 tbv9 hhv9 tkv9 iiv9 FFv9 NNv9 nev9 ltv9 ldv9 lxv9; (try dsimp only [W.CmpBack]); (try dsimp only); (try k_fold))))
local macro_rules | `(tactic| walk_at "execs cons") => `(tactic| ((with_reducible show wpAny _ _ (execs (Stmt.If (Expr.UnaryOp UnaryOp.Not _ _) _ _ _ :: _) _) _ _ _); refine Stop.of ?_))
set_option maxRecDepth 100000 in
set_option maxHeartbeats 8000000 in
theorem branch_law {w : World} {loose : List Str} {mean : ExcName → Option Value} {mg mb : Str → Option Value} {cn : Str} {cs : Scope} {a : Addr} {ccd : Value} {h₀ : Heap} {L : Addr} {m : Str → Option Value} {s : Shared} {Q : Flow → Shared → Prop} {E : Value → Shared → Prop} {rest : List Stmt} {news : List (Addr × Obj)}
   {x1 d1 c1 : Addr} {vs1 : List Value} {ns1 : List Int} {nd1 nl1 : Nat} {ta1 tb1 : Tok} {x2 d2 c2 : Addr} {vs2 : List Value} {ns2 : List Int} {nd2 nl2 : Nat} {ta2 tb2 : Tok} {r dr lz : Addr} {n2 : Nat} {tq uq tn tn2 tz tf tf2 : Tok} 
   {lo lt lf l2 le : Addr} {vso vst vsF vsS vse zs : List Value} {tsF tsS : List (Int × Int)} {no nt nF nS ne nz : Nat} {tw ts : Tok} {wh sv : Int}
   (hN : News h₀ L s.heap ((le, listOf vse.toArray ne) :: news)) (hie : IntsAre vse (List.replicate 256 0)) (hse : ∀ p ∈ news, p.1 ≠ le)
   (om : (lo, listOf vso.toArray no) ∈ news) (hio : IntsAre vso ns1) (tm : (lt, listOf vst.toArray nt) ∈ news) (hit : IntsAre vst ns2)
   (fm : (lf, listOf vsF.toArray nF) ∈ news) (hF : TermsIn news vsF tsF) (sm : (l2, listOf vsS.toArray nS) ∈ news) (hS : TermsIn news vsS tsS) (hpF : ∀ t ∈ tsF, 0 ≤ t.1 ∧ t.1 < 256) (hpS : ∀ t ∈ tsS, 0 ≤ t.1 ∧ t.1 < 256)
   (hbF : Stop (∀ u : Int, Builtin.Int.intBits u ≤ 2097152 → ∀ t ∈ tsF, PySem.IntMulOk u t.2)) (hbS : Stop (∀ u : Int, Builtin.Int.intBits u ≤ 2097152 → ∀ t ∈ tsS, PySem.IntMulOk u t.2))
   (hb1 : ∀ i : Nat, Builtin.Int.intBits (ns1.getD i 0) ≤ 2097152) (hb2 : ∀ i : Nat, Builtin.Int.intBits (ns2.getD i 0) ≤ 2097152) (hbs : Builtin.Int.intBits sv ≤ 2097152) (hbn : Builtin.Int.intBits (-sv) ≤ 2097152)
   (zm : (lz, listOf zs.toArray nz) ∈ news) {zz : List Int} (hz : IntsAre zs zz) (hzl : zz.length = 128) (hzs : ∀ j : Nat, Builtin.Int.intBits (zz.getD j 0) ≤ 64)
   (M0 : MathOk zz tsF tsS 1 1 ((List.range 256).map (addZ ns1 ns2)) (List.replicate 256 0))
   (M1 : MathOk zz tsF tsS 1 (-1) ((List.range 256).map (subZ ns1 ns2)) (List.replicate 256 0))
   (M2 : MathOk zz tsF tsS 0 sv ((List.range 256).map (mulZ ns2 sv)) (List.replicate 256 0))
   (M3 : MathOk zz tsF tsS sv 1 ((List.range 256).map (addZ ((List.range 256).map (mulZ ns1 sv)) ns2)) (List.replicate 256 0))
   (M4 : MathOk zz tsF tsS 2 1 ((List.range 256).map (addZ ((List.range 256).map (addZ (addZ0 ns1 0) ns2)) ns1)) (List.replicate 256 0))
   (M5 : MathOk zz tsF tsS sv (-sv) ((List.range 256).map (mulZ ((List.range 256).map (subZ ns1 ns2)) sv)) (List.replicate 256 0))
   (M6 : MathOk zz tsF tsS (-1) 0 ((List.range 256).map (negZ ns1)) (List.replicate 256 0))
   (M7 : MathOk zz tsF tsS 1 0 (addZ0 ns1 sv) (exOf sv))
   (hw0 : 0 ≤ wh) (hw8 : wh < 8)
   (hEo : PassesOwn (model PySem.Challenge.rw_yi0062_01.row.prog w) (callerA.deeper (envOf cn cs L a ccd)) (envOf cn cs L a ccd) E) (ecs : cs = lawScope) (er : rest = lawBody.drop 13)
   (B : Below callerA h₀ [] h₀) (F : Fr h₀ L s.heap (kstB m [(Str.ofString "ring", .ref r), (Str.ofString "which", .int wh tw), (Str.ofString "s", .int sv ts), (Str.ofString "first", .ref lf), (Str.ofString "second", .ref l2), (Str.ofString "one", .ref lo), (Str.ofString "two", .ref lt), (Str.ofString "ah", .ref x1), (Str.ofString "bh", .ref x2), (Str.ofString "extra", .ref le)])) (X : (hd.heap_1 w.params).In h₀) (T : Top view62 loose mean mg mb h₀)
   (x1m : (x1, instObj 426 d1) ∈ news) (d1m : (d1, dictOf [ent w (Str.ofString "parent") ta1 (.ref r), ent w (Str.ofString "coeffs") tb1 (.ref c1)] nd1) ∈ news) (c1m : (c1, listOf vs1.toArray nl1) ∈ news) (hi1 : IntsAre vs1 ns1) (hl1 : ns1.length = 256)
   (x2m : (x2, instObj 426 d2) ∈ news) (d2m : (d2, dictOf [ent w (Str.ofString "parent") ta2 (.ref r), ent w (Str.ofString "coeffs") tb2 (.ref c2)] nd2) ∈ news) (c2m : (c2, listOf vs2.toArray nl2) ∈ news) (hi2 : IntsAre vs2 ns2) (hl2 : ns2.length = 256)
   (rm : (r, instObj 282 dr) ∈ news) (drm : (dr, dictOf [ent w (Str.ofString "q") tq (.int 3329 uq), ent w (Str.ofString "n") tn (.int 256 tn2), ent w (Str.ofString "ntt_zetas") tz (.ref lz), ent w (Str.ofString "ntt_f") tf (.int 3303 tf2)] n2) ∈ news)
   (hret : ∀ (m' : Str → Option Value) (h' : Heap) (tk' : Nat), Fr h₀ L h' m' → Q (.ret (.bool true)) { s with heap := h', toks := tk' }) :
   wpAny (model PySem.Challenge.rw_yi0062_01.row.prog w) (callerA.deeper (envOf cn cs L a ccd)) (execs rest (envOf cn cs L a ccd)) Q E s := by
  revert X
  k_fill
  intro X
  have ecs0 := ecs
  conv at ecs => rhs; whnf
  conv at er => rhs; whnf
  subst ecs
  subst er
  have N := hN
  clear hN
  rcases (by omega : wh = 0 ∨ wh = 1 ∨ wh = 2 ∨ wh = 3 ∨ wh = 4 ∨ wh = 5 ∨ wh = 6 ∨ wh = 7) with rfl | rfl | rfl | rfl | rfl | rfl | rfl | rfl
  · set_option maxHeartbeats 400000 in
    k_steps
    refine Stop.out ?_
    (rename Fr _ _ _ _ => FZ)
    (rename News _ _ _ _ => NZ)
    (rename ∀ p : Addr × Obj, p ∈ _ → p.1 ≠ _ => neG)
    (rename IntsAre _ ((List.range 256).map (addZ ns1 ns2)) => iG)
    refine' tail_law (news := (le, listOf vse.toArray ne) :: news) (ns3 := (List.range 256).map (addZ ns1 ns2)) (u := 1) (v := 1) ?tN iG ?tl ?tsep7 ?tx7 ?td7 (.tail _ om) hio (.tail _ tm) hit (.tail _ fm) (hF.mono fun p hp => .tail _ hp) (.tail _ sm) (hS.mono fun p hp => .tail _ hp) hpF hpS (Stop.of hbF _ (by decide)) (Stop.of hbS _ (by decide)) (.head _) hie (List.length_replicate ..) (.tail _ zm) hz hzl hzs (Stop.out M0) hEo ecs0 ?te B ?tF X T (.tail _ x1m) (.tail _ d1m) (.tail _ c1m) hi1 hl1 (.tail _ x2m) (.tail _ d2m) (.tail _ c2m) hi2 hl2 (.tail _ rm) (.tail _ drm) hret
    case tN => exact head3 NZ (fun p hp => (by simp only [List.mem_cons] at hp ⊢; rcases hp with h | h <;> simp [h]))
    case te => exact rfl
    case tF => exact fr_kstB _ FZ (by kst_all)
    case tl => simp only [List.length_map, List.length_range]
    case tsep7 => exact fun p hp => neG p (by simp only [List.mem_cons] at hp ⊢; rcases hp with h | h <;> simp [h])
    case tx7 => exact Nat.ne_of_lt (by omega)
    case td7 => exact Nat.ne_of_lt (by omega)
  · set_option maxHeartbeats 400000 in
    k_steps
    refine Stop.out ?_
    (rename Fr _ _ _ _ => FZ)
    (rename News _ _ _ _ => NZ)
    (rename ∀ p : Addr × Obj, p ∈ _ → p.1 ≠ _ => neG)
    (rename IntsAre _ ((List.range 256).map (subZ ns1 ns2)) => iG)
    refine' tail_law (news := (le, listOf vse.toArray ne) :: news) (ns3 := (List.range 256).map (subZ ns1 ns2)) (u := 1) (v := -1) ?tN iG ?tl ?tsep7 ?tx7 ?td7 (.tail _ om) hio (.tail _ tm) hit (.tail _ fm) (hF.mono fun p hp => .tail _ hp) (.tail _ sm) (hS.mono fun p hp => .tail _ hp) hpF hpS (Stop.of hbF _ (by decide)) (Stop.of hbS _ (by decide)) (.head _) hie (List.length_replicate ..) (.tail _ zm) hz hzl hzs (Stop.out M1) hEo ecs0 ?te B ?tF X T (.tail _ x1m) (.tail _ d1m) (.tail _ c1m) hi1 hl1 (.tail _ x2m) (.tail _ d2m) (.tail _ c2m) hi2 hl2 (.tail _ rm) (.tail _ drm) hret
    case tN => exact head3 NZ (fun p hp => (by simp only [List.mem_cons] at hp ⊢; rcases hp with h | h <;> simp [h]))
    case te => exact rfl
    case tF => exact fr_kstB _ FZ (by kst_all)
    case tl => simp only [List.length_map, List.length_range]
    case tsep7 => exact fun p hp => neG p (by simp only [List.mem_cons] at hp ⊢; rcases hp with h | h <;> simp [h])
    case tx7 => exact Nat.ne_of_lt (by omega)
    case td7 => exact Nat.ne_of_lt (by omega)
  · set_option maxHeartbeats 400000 in
    k_steps
    refine Stop.out ?_
    (rename Fr _ _ _ _ => FZ)
    (rename News _ _ _ _ => NZ)
    (rename ∀ p : Addr × Obj, p ∈ _ → p.1 ≠ _ => neG)
    (rename IntsAre _ ((List.range 256).map (mulZ ns2 sv)) => iG)
    refine' tail_law (news := (le, listOf vse.toArray ne) :: news) (ns3 := (List.range 256).map (mulZ ns2 sv)) (u := 0) (v := sv) ?tN iG ?tl ?tsep7 ?tx7 ?td7 (.tail _ om) hio (.tail _ tm) hit (.tail _ fm) (hF.mono fun p hp => .tail _ hp) (.tail _ sm) (hS.mono fun p hp => .tail _ hp) hpF hpS (Stop.of hbF _ (by decide)) (Stop.of hbS _ hbs) (.head _) hie (List.length_replicate ..) (.tail _ zm) hz hzl hzs (Stop.out M2) hEo ecs0 ?te B ?tF X T (.tail _ x1m) (.tail _ d1m) (.tail _ c1m) hi1 hl1 (.tail _ x2m) (.tail _ d2m) (.tail _ c2m) hi2 hl2 (.tail _ rm) (.tail _ drm) hret
    case tN => exact head3 NZ (fun p hp => (by simp only [List.mem_cons] at hp ⊢; rcases hp with h | h <;> simp [h]))
    case te => exact rfl
    case tF => exact fr_kstB _ FZ (by kst_all)
    case tl => simp only [List.length_map, List.length_range]
    case tsep7 => exact fun p hp => neG p (by simp only [List.mem_cons] at hp ⊢; rcases hp with h | h <;> simp [h])
    case tx7 => exact Nat.ne_of_lt (by omega)
    case td7 => exact Nat.ne_of_lt (by omega)
  · set_option maxHeartbeats 400000 in
    k_steps
    refine Stop.out ?_
    (rename Fr _ _ _ _ => FZ)
    (rename News _ _ _ _ => NZ)
    (rename ∀ p : Addr × Obj, p ∈ _ → p.1 ≠ _ => neG)
    (rename IntsAre _ ((List.range 256).map (addZ ((List.range 256).map (mulZ ns1 sv)) ns2)) => iG)
    refine' tail_law (news := (le, listOf vse.toArray ne) :: news) (ns3 := (List.range 256).map (addZ ((List.range 256).map (mulZ ns1 sv)) ns2)) (u := sv) (v := 1) ?tN iG ?tl ?tsep7 ?tx7 ?td7 (.tail _ om) hio (.tail _ tm) hit (.tail _ fm) (hF.mono fun p hp => .tail _ hp) (.tail _ sm) (hS.mono fun p hp => .tail _ hp) hpF hpS (Stop.of hbF _ hbs) (Stop.of hbS _ (by decide)) (.head _) hie (List.length_replicate ..) (.tail _ zm) hz hzl hzs (Stop.out M3) hEo ecs0 ?te B ?tF X T (.tail _ x1m) (.tail _ d1m) (.tail _ c1m) hi1 hl1 (.tail _ x2m) (.tail _ d2m) (.tail _ c2m) hi2 hl2 (.tail _ rm) (.tail _ drm) hret
    case tN => exact head3 NZ (fun p hp => (by simp only [List.mem_cons] at hp ⊢; rcases hp with h | h <;> simp [h]))
    case te => exact rfl
    case tF => exact fr_kstB _ FZ (by kst_all)
    case tl => simp only [List.length_map, List.length_range]
    case tsep7 => exact fun p hp => neG p (by simp only [List.mem_cons] at hp ⊢; rcases hp with h | h <;> simp [h])
    case tx7 => exact Nat.ne_of_lt (by omega)
    case td7 => exact Nat.ne_of_lt (by omega)
  · set_option maxHeartbeats 400000 in
    k_steps
    refine Stop.out ?_
    (rename Fr _ _ _ _ => FZ)
    (rename News _ _ _ _ => NZ)
    (rename ∀ p : Addr × Obj, p ∈ _ → p.1 ≠ _ => neG)
    (rename IntsAre _ ((List.range 256).map (addZ ((List.range 256).map (addZ (addZ0 ns1 0) ns2)) ns1)) => iG)
    refine' tail_law (news := (le, listOf vse.toArray ne) :: news) (ns3 := (List.range 256).map (addZ ((List.range 256).map (addZ (addZ0 ns1 0) ns2)) ns1)) (u := 2) (v := 1) ?tN iG ?tl ?tsep7 ?tx7 ?td7 (.tail _ om) hio (.tail _ tm) hit (.tail _ fm) (hF.mono fun p hp => .tail _ hp) (.tail _ sm) (hS.mono fun p hp => .tail _ hp) hpF hpS (Stop.of hbF _ (by decide)) (Stop.of hbS _ (by decide)) (.head _) hie (List.length_replicate ..) (.tail _ zm) hz hzl hzs (Stop.out M4) hEo ecs0 ?te B ?tF X T (.tail _ x1m) (.tail _ d1m) (.tail _ c1m) hi1 hl1 (.tail _ x2m) (.tail _ d2m) (.tail _ c2m) hi2 hl2 (.tail _ rm) (.tail _ drm) hret
    case tN => exact head3 NZ (fun p hp => (by simp only [List.mem_cons] at hp ⊢; rcases hp with h | h <;> simp [h]))
    case te => exact rfl
    case tF => exact fr_kstB _ FZ (by kst_all)
    case tl => simp only [List.length_map, List.length_range]
    case tsep7 => exact fun p hp => neG p (by simp only [List.mem_cons] at hp ⊢; rcases hp with h | h <;> simp [h])
    case tx7 => exact Nat.ne_of_lt (by omega)
    case td7 => exact Nat.ne_of_lt (by omega)
  · set_option maxHeartbeats 400000 in
    k_steps
    refine Stop.out ?_
    (rename Fr _ _ _ _ => FZ)
    (rename News _ _ _ _ => NZ)
    (rename ∀ p : Addr × Obj, p ∈ _ → p.1 ≠ _ => neG)
    (rename IntsAre _ ((List.range 256).map (mulZ ((List.range 256).map (subZ ns1 ns2)) sv)) => iG)
    refine' tail_law (news := (le, listOf vse.toArray ne) :: news) (ns3 := (List.range 256).map (mulZ ((List.range 256).map (subZ ns1 ns2)) sv)) (u := sv) (v := -sv) ?tN iG ?tl ?tsep7 ?tx7 ?td7 (.tail _ om) hio (.tail _ tm) hit (.tail _ fm) (hF.mono fun p hp => .tail _ hp) (.tail _ sm) (hS.mono fun p hp => .tail _ hp) hpF hpS (Stop.of hbF _ hbs) (Stop.of hbS _ hbn) (.head _) hie (List.length_replicate ..) (.tail _ zm) hz hzl hzs (Stop.out M5) hEo ecs0 ?te B ?tF X T (.tail _ x1m) (.tail _ d1m) (.tail _ c1m) hi1 hl1 (.tail _ x2m) (.tail _ d2m) (.tail _ c2m) hi2 hl2 (.tail _ rm) (.tail _ drm) hret
    case tN => exact head3 NZ (fun p hp => (by simp only [List.mem_cons] at hp ⊢; rcases hp with h | h <;> simp [h]))
    case te => exact rfl
    case tF => exact fr_kstB _ FZ (by kst_all)
    case tl => simp only [List.length_map, List.length_range]
    case tsep7 => exact fun p hp => neG p (by simp only [List.mem_cons] at hp ⊢; rcases hp with h | h <;> simp [h])
    case tx7 => exact Nat.ne_of_lt (by omega)
    case td7 => exact Nat.ne_of_lt (by omega)
  · set_option maxHeartbeats 400000 in
    k_steps
    refine Stop.out ?_
    (rename Fr _ _ _ _ => FZ)
    (rename News _ _ _ _ => NZ)
    (rename _ ∧ _ ∧ _ ∧ _ ∧ _ ∧ AllLt _ news => l6)
    (rename ∀ p : Addr × Obj, p ∈ _ → @LT.lt Nat _ p.1 _ => lt6)
    have e6 := lt6 _ (.head _)
    (rename IntsAre _ ((List.range 256).map (negZ ns1)) => iG)
    refine' tail_law (news := (le, listOf vse.toArray ne) :: news) (ns3 := (List.range 256).map (negZ ns1)) (u := -1) (v := 0) ?tN iG ?tl ?tsep7 ?tx7 ?td7 (.tail _ om) hio (.tail _ tm) hit (.tail _ fm) (hF.mono fun p hp => .tail _ hp) (.tail _ sm) (hS.mono fun p hp => .tail _ hp) hpF hpS (Stop.of hbF _ (by decide)) (Stop.of hbS _ (by decide)) (.head _) hie (List.length_replicate ..) (.tail _ zm) hz hzl hzs (Stop.out M6) hEo ecs0 ?te B ?tF X T (.tail _ x1m) (.tail _ d1m) (.tail _ c1m) hi1 hl1 (.tail _ x2m) (.tail _ d2m) (.tail _ c2m) hi2 hl2 (.tail _ rm) (.tail _ drm) hret
    case tN => exact head3 NZ (fun p hp => (by simp only [List.mem_cons] at hp ⊢; rcases hp with h | h <;> simp [h]))
    case te => exact rfl
    case tF => exact fr_kstB _ FZ (by kst_all)
    case tl => simp only [List.length_map, List.length_range]
    case tsep7 =>
      intro p hp
      rcases List.mem_cons.mp hp with h | hp
      · rw [h]; exact Nat.ne_of_lt l6.2.2.2.2.1
      · exact allLt_ne l6.2.2.2.2.2 p hp
    case tx7 =>
      refine Nat.ne_of_lt (Nat.lt_trans e6 ?_)
      assumption
    case td7 => exact Nat.ne_of_lt e6
  · set_option maxHeartbeats 400000 in
    k_steps
    refine Stop.out ?_
    (rename Fr _ _ _ _ => FZ)
    (rename News _ _ _ _ => NZ)
    (rename IsRange _ _ _ _ _ _ _ _ => RZ)
    (rename IntsAre _ (addZ0 ns1 sv) => iG)
    (rename ∀ p : Addr × Obj, p ∈ _ → p.1 ≠ _ => neG)
    (rename ∀ p : Addr × Obj, p ∈ _ → @LT.lt Nat _ p.1 _ => ltG)
    (rename @LT.lt Nat _ _ _ => lxG)
    have eL : @LT.lt Nat _ le _ := ltG (le, _) (.tail _ (.head _))
    have eN := neG (le, _) (.tail _ (.head _))
    obtain ⟨tl, htl, NY, hnet⟩ := led7 NZ (Ne.symm (Nat.ne_of_lt (Nat.lt_trans eL lxG))) (Ne.symm (Nat.ne_of_lt eL)) (Ne.symm eN) hse
    refine' for_list (lc := le) (nc := ne) (vs := vse) (cs := List.replicate 256 0) (tail := tl) [] (exStep sv) 128 (by rfl) RZ (by decide) (by rfl) (by decide) FZ NY ?hN hie ?turn ?done
    case hN => exact fun p hp => hp
    case turn =>
      rintro j tj vs8 cs8 u8 h8 tok8 own hj hoff hi8 ⟨pre, hpre⟩ F8 N8
      have hjj := mem_rangeKs hj
      have hl8 : cs8.length = 256 := by rw [hpre, exs_len]; exact List.length_replicate ..
      have hq := all_app hnet hoff (.head _)
      have hpm := pm_bits 17 (256 - j)
      have hj0 : 0 ≤ 2 * j := by omega
      have hj1 : 2 * j < 256 := by omega
      clear M0 M1 M2 M3 M4 M5 M6 M7 hbF hbS hb1 hb2 hbs hbn hpF hpS hret hzs hzl hz hie RZ neG ltG lxG eL eN
      set_option maxHeartbeats 400000 in
      k_steps
      refine Stop.out ?_
      (rename Fr _ _ _ _ => F9)
      (rename News _ _ _ _ => N9)
      dsimp only [FlPost]
      exact ⟨_, _, _, _, _, tj, rfl, F9, N9, .head _, fun p hp => .tail _ (List.mem_append.mpr (Or.inl hp)), fun p hp => .tail _ (List.mem_append.mpr (Or.inr hp)), by assumption, rfl, fun z h1 h2 => fr1_off h1 h2⟩
    case done =>
      rintro vs9 tj u9 h9 tok9 hi9 F9 N9
      have hi9 : IntsAre vs9 (exOf sv) := hi9
      set_option maxHeartbeats 400000 in
      k_steps
      refine Stop.out ?_
      (rename Fr _ _ _ _ => FX)
      (rename News _ _ _ _ => NX)
      refine' tail_law (news := (le, listOf vs9.toArray ne) :: news) (ns3 := addZ0 ns1 sv) (u := 1) (v := 0) (ex := exOf sv) ?tN iG ?tl ?tsep7 ?tx7 ?td7 (.tail _ om) hio (.tail _ tm) hit (.tail _ fm) (hF.mono fun p hp => .tail _ hp) (.tail _ sm) (hS.mono fun p hp => .tail _ hp) hpF hpS (Stop.of hbF _ (by decide)) (Stop.of hbS _ (by decide)) (.head _) hi9 (by show (exOf sv).length = 256; unfold exOf; rw [exs_len]; exact List.length_replicate ..) (.tail _ zm) hz hzl hzs (Stop.out M7) hEo ecs0 ?te B ?tF X T (.tail _ x1m) (.tail _ d1m) (.tail _ c1m) hi1 hl1 (.tail _ x2m) (.tail _ d2m) (.tail _ c2m) hi2 hl2 (.tail _ rm) (.tail _ drm) hret
      case tN => exact led7b htl NX
      case te => exact rfl
      case tF => exact fr_kstB _ FX (by kst_all)
      case tl => (unfold addZ0; rw [List.length_set]; exact hl1)
      case tsep7 =>
        intro p hp
        rcases List.mem_cons.mp hp with h | hp
        · rw [h]; exact eN
        · exact neG p (.tail _ (.tail _ hp))
      case tx7 => exact Nat.ne_of_lt (by omega)
      case td7 => exact Nat.ne_of_lt (by omega)
end Mine62
end
section
open PySem PySem.W PyProof.Rows
namespace Mine62
open Builtin.Int (intBits)
theorem getD_bits {c : List Int} {B : Nat} (h : ∀ x ∈ c, Builtin.Int.intBits x ≤ B) (i : Nat) : Builtin.Int.intBits (c.getD i 0) ≤ B := by
  rw [List.getD_eq_getElem?_getD]
  cases e : c[i]? with
  | none => exact Nat.zero_le _
  | some x => exact h x (List.mem_of_getElem? e)
theorem pairs_bits (r : Int) : ∀ (ts : List (Int × Int)) (c : List Int) (B : Nat), (∀ t ∈ ts, Builtin.Int.intBits t.2 ≤ 1048576) → 1048640 ≤ B → (∀ x ∈ c, Builtin.Int.intBits x ≤ B) → ∀ x ∈ ts.foldl (pairStep r) c, Builtin.Int.intBits x ≤ B + ts.length
  | [], c, B, _, _, hc, x, hx => hc x hx
  | t :: ts, c, B, ht, hB, hc, x, hx => by
    have h1 := pairs_bits r ts (pairStep r c t) (B + 1) (fun t' h => ht t' (.tail _ h)) (by omega) (fun y hy => by
      rcases List.mem_or_eq_of_mem_set hy with h | h
      · exact Nat.le_succ_of_le (hc y h)
      · rw [h]
        have a1 := getD_bits hc (t.1.fmod 2).toNat
        have a2 := PySem.intBits_mul_le (ht t (.head _)) (pm_bits r (t.1.fdiv 2))
        have a3 := PySem.intBits_add_le a1 (Nat.le_trans a2 hB)
        omega) x hx
    rw [List.length_cons]
    omega
theorem vals_bits {ts : List (Int × Int)} (rs : List Int) (ht : ∀ t ∈ ts, Builtin.Int.intBits t.2 ≤ 1048576) (hl : ts.length ≤ 3) : ∀ i : Nat, Builtin.Int.intBits ((vals ts rs).getD i 0) ≤ 2097152 := by
  intro i
  refine getD_bits ?_ i
  have key : ∀ (rs : List Int) (w : List Int), (∀ x ∈ w, Builtin.Int.intBits x ≤ 2097152) → ∀ x ∈ rs.foldl (valStep ts) w, Builtin.Int.intBits x ≤ 2097152 := by
    intro rs
    induction rs with
    | nil => intro w h; exact h
    | cons r q ih =>
      intro w h
      refine ih _ fun x hx => ?_
      rcases List.mem_append.mp hx with hx | hx
      · exact h x hx
      · have := pairs_bits r ts [0, 0] 1048640 ht (Nat.le_refl _) (fun y hy => by
          have : y = 0 := by simpa using hy
          rw [this]; decide) x hx
        omega
  exact key rs [] fun _ h => nomatch h
theorem terms_bits {sc : List Int} (HB : ∀ k : Int, 0 ≤ k → k < 100 → Builtin.Int.intBits (draw sc k) ≤ 1048576) {st : Int} {n : Nat} (h0 : 0 ≤ st) (h1 : st ≤ 20) (hn : n ≤ 3) : ∀ t ∈ terms sc st n, Builtin.Int.intBits t.2 ≤ 1048576 := by
  intro t ht
  obtain ⟨k, hk, rfl⟩ := List.mem_map.mp ht
  have := List.mem_range.mp hk
  exact HB _ (by omega) (by omega)
theorem terms_len (sc : List Int) (st : Int) (n : Nat) : (terms sc st n).length = n := by unfold terms; rw [List.length_map, List.length_range]
theorem zetas_len : zetas.length = 128 := by unfold zetas; rw [List.length_map, List.length_range]
theorem zetas_bits (j : Nat) : Builtin.Int.intBits (zetas.getD j 0) ≤ 64 := by
  refine getD_bits (fun x hx => ?_) j
  obtain ⟨k, _, rfl⟩ := List.mem_map.mp hx
  exact pm_bits _ _
end Mine62
end
section
open PySem PySem.W PyProof.Rows PySem.Calls PyProof.V PySem.Spec
namespace Mine62
local macro_rules | `(tactic| walk_at "call builtin:len") => `(tactic| (k_here; k_dflt (show wpAny _ _ (call (Value.builtin "len") [Value.ref _]) _ _ _); k_dflt (refine' my_len ?k1 ?k2 ?k3 ?k4 ?_; (case k1 => k_asm); (case k2 => k_mem); (case k3 => with_reducible assumption); (case k4 => omega); k_whole)))
local macro_rules | `(tactic| walk_at "callWith ref") => `(tactic| (k_here; (with_reducible show wpAny _ _ (callWith _ (Value.ref _) _ _ (backToKw _ (keywordEach (_ :: _) _))) _ _ _); kco_here; k_dflt (refine' own_callWithKW ?k1 ?k2 ?k3 ?k4 ?k5 ?_; (case k1 => k_in); (case k2 => k_inst); (case k3 => rfl); (case k4 => k_is); (case k5 => rfl); k_whole)))
local macro_rules | `(tactic| walk_at "getMethod ref") => `(tactic| (k_here; k_dflt (refine' kmu_own ?k1 ?k2 ?k3 ?k4 ?k5 ?_; (case k1 => k_asm); (case k2 => k_asm); (case k3 => k_inst); (case k4 => k_is); (case k5 => k_is); k_whole)))
local macro_rules | `(tactic| k_mem) => `(tactic| assumption)
local macro_rules | `(tactic| k_all) => `(tactic| with_reducible assumption)
local macro_rules | `(tactic| passes_own) => `(tactic| assumption)
local macro_rules | `(tactic| mul_fits) => `(tactic| assumption)

theorem terms_place (sc : List Int) (st : Int) (n : Nat) : ∀ t ∈ terms sc st n, 0 ≤ t.1 ∧ t.1 < 256 := by
  intro t ht
  obtain ⟨k, _, rfl⟩ := List.mem_map.mp ht
  exact ⟨Int.fmod_nonneg_of_pos _ (by decide), Int.fmod_lt_of_pos _ (by decide)⟩
def AllMath : Prop := ∀ (tsF tsS : List (Int × Int)) (sv : Int), (∀ t ∈ tsF, 0 ≤ t.1 ∧ t.1 < 256) → (∀ t ∈ tsS, 0 ≤ t.1 ∧ t.1 < 256) → ∀ ns1 ns2 : List Int, ns1 = vals tsF roots62 → ns2 = vals tsS roots62 →
   MathOk zetas tsF tsS 1 1 ((List.range 256).map (addZ ns1 ns2)) (List.replicate 256 0) ∧
   MathOk zetas tsF tsS 1 (-1) ((List.range 256).map (subZ ns1 ns2)) (List.replicate 256 0) ∧
   MathOk zetas tsF tsS 0 sv ((List.range 256).map (mulZ ns2 sv)) (List.replicate 256 0) ∧
   MathOk zetas tsF tsS sv 1 ((List.range 256).map (addZ ((List.range 256).map (mulZ ns1 sv)) ns2)) (List.replicate 256 0) ∧
   MathOk zetas tsF tsS 2 1 ((List.range 256).map (addZ ((List.range 256).map (addZ (addZ0 ns1 0) ns2)) ns1)) (List.replicate 256 0) ∧
   MathOk zetas tsF tsS sv (-sv) ((List.range 256).map (mulZ ((List.range 256).map (subZ ns1 ns2)) sv)) (List.replicate 256 0) ∧
   MathOk zetas tsF tsS (-1) 0 ((List.range 256).map (negZ ns1)) (List.replicate 256 0) ∧
   MathOk zetas tsF tsS 1 0 (addZ0 ns1 sv) (exOf sv)
theorem roots62_len : roots62.length = 128 := by unfold roots62; rw [List.length_map]; exact row7_len
theorem vals_len256 (ts : List (Int × Int)) : (vals ts roots62).length = 256 := by unfold vals; rw [vals_len, roots62_len]; rfl
local macro_rules | `(tactic| walk_at "call ref") => `(tactic| (k_here; k_dflt (show wpAny _ _ (call (Value.ref 435) [Value.ref _, Value.int _ _]) _ _ _); k_dflt (refine' draw_call ?k1 ?k2 ?k3 ?k4 ?k5 ?k6 ?m1 ?m2 ?m3 ?m4 ?m5 ?hd ?hu ?_; (case k1 => k_asm); (case k2 => k_asm); (case k3 => k_asm); (case k4 => k_asm); (case k5 => k_asm); (case k6 => exact rfl); (case m1 => with_reducible assumption); (case m2 => with_reducible assumption); (case m3 => with_reducible assumption); (case m4 => decide); (case m5 => decide); (case hd => first | exact Nat.le_of_ble_eq_true rfl | ktr_room); (case hu => first | exact Nat.le_of_ble_eq_true rfl | ktr_units); intro td9 hd9 kd9 Fd9 Nd9; (try dsimp only); (try k_fold))))
local macro_rules | `(tactic| walk_at "call ref") => `(tactic| (k_here; k_dflt (show wpAny _ _ (call (Value.ref 282) []) _ _ _); k_dflt (refine' ring_new ?k1 ?k2 ?k3 ?k4 ?k5 ?k6  ?hd ?hu ?_; (case k1 => k_asm); (case k2 => k_asm); (case k3 => k_asm); (case k4 => k_asm); (case k5 => k_asm); (case k6 => exact rfl);  (case hd => first | exact Nat.le_of_ble_eq_true rfl | ktr_room); (case hu => first | exact Nat.le_of_ble_eq_true rfl | ktr_units); intro rr9 dr9 lz9 zs9 nz9 nn9 tq9 uq9 tn9 vn9 tz9 tf9 uf9 hh9 kk9 iz9 FF9 NN9; (try dsimp only); (try k_fold))))
local macro_rules | `(tactic| walk_at "call ref") => `(tactic| (k_here; k_dflt (show wpAny _ _ (call (Value.ref 440) []) _ _ _); k_dflt (refine' roots_call ?k1 ?k2 ?k3 ?k4 ?k5 ?k6  ?hd ?hu ?_; (case k1 => k_asm); (case k2 => k_asm); (case k3 => k_asm); (case k4 => k_asm); (case k5 => k_asm); (case k6 => exact rfl);  (case hd => first | exact Nat.le_of_ble_eq_true rfl | ktr_room); (case hu => first | exact Nat.le_of_ble_eq_true rfl | ktr_units); intro lr9 vr9 nr9 hr9 kr9 ir9 Fr9 Nr9; (try dsimp only); (try k_fold))))
local macro_rules | `(tactic| walk_at "call ref") => `(tactic| (k_here; k_dflt (show wpAny _ _ (call (Value.ref 452) [Value.ref _, Value.int _ _, Value.int _ _]) _ _ _); refine Stop.of ?_))
local macro_rules | `(tactic| walk_at "call ref") => `(tactic| (k_here; k_dflt (show wpAny _ _ (call (Value.ref 447) [Value.ref _, Value.ref _]) _ _ _); refine Stop.of ?_))
local macro_rules | `(tactic| walk_at "call ref") => `(tactic| (k_here; k_dflt (show wpAny _ _ (call (Value.ref _) [Value.ref _] (List.zip _ _)) _ _ _); k_dflt (refine' ring_call true ?k1 ?k2 ?k3 ?k4 ?k5 ?k6 ?m1 ?m2 ?m3 ?hi ?hl ?hd ?hu ?_; (case k1 => k_asm); (case k2 => k_asm); (case k3 => k_asm); (case k4 => k_asm); (case k5 => k_asm); (case k6 => exact rfl); (case m1 => k_mem); (case m2 => k_mem); (case m3 => k_mem); (case hi => with_reducible assumption); (case hl => with_reducible assumption); (case hd => first | exact Nat.le_of_ble_eq_true rfl | ktr_room); (case hu => first | exact Nat.le_of_ble_eq_true rfl | ktr_units); intro xr9 dr9 tr9 ur9 hr9 kr9 FR9 NR9 ltr9 lsr9; (rw [if_pos rfl] at NR9); (try dsimp only); (try k_fold))))
local macro_rules | `(tactic| walk_at "execs cons") => `(tactic| ((with_reducible show wpAny _ _ (execs (Stmt.If (Expr.Compare _ _ _ _) _ _ _ :: _) _) _ _ _); refine Stop.of ?_))
set_option maxRecDepth 100000 in
set_option maxHeartbeats 8000000 in
theorem law_walk {w : World} {loose : List Str} {mean : ExcName → Option Value} {mg mb : Str → Option Value} {cn : Str} {cs : Scope} {a : Addr} {ccd : Value} {h₀ : Heap} {L : Addr} {m : Str → Option Value} {s : Shared} {Q : Flow → Shared → Prop} {E : Value → Shared → Prop} {rest : List Stmt} {ls : Addr} {sv0 : List Value} {sc : List Int}
   (hls : h₀.IsList ls sv0.toArray) (his : IntsAre sv0 sc) (hsl : sc.length ≤ 63) (HB : Stop (∀ k : Int, 0 ≤ k → k < 100 → Builtin.Int.intBits (draw sc k) ≤ 1048576)) (HM : Stop AllMath)
   (hEo : PassesOwn (model PySem.Challenge.rw_yi0062_01.row.prog w) (callerA.deeper (envOf cn cs L a ccd)) (envOf cn cs L a ccd) E) (ecs : cs = lawScope) (er : rest = lawBody)
   (B : Below callerA h₀ [] h₀) (F : Fr h₀ L s.heap (kstB m [(Str.ofString "script", .ref ls)])) (X : (hd.heap_1 w.params).In h₀) (T : Top view62 loose mean mg mb h₀) (N : News h₀ L s.heap [])
   (hret : ∀ (m' : Str → Option Value) (h' : Heap) (tk' : Nat), Fr h₀ L h' m' → Q (.ret (.bool true)) { s with heap := h', toks := tk' }) :
   wpAny (model PySem.Challenge.rw_yi0062_01.row.prog w) (callerA.deeper (envOf cn cs L a ccd)) (execs rest (envOf cn cs L a ccd)) Q E s := by
  revert X
  k_fill
  intro X
  have ecs0 := ecs
  conv at ecs => rhs; whnf
  conv at er => rhs; whnf
  subst ecs
  subst er
  have b2 := Int.fmod_nonneg_of_pos (draw sc 2) (b := 3) (by decide)
  have b2' := Int.fmod_lt_of_pos (draw sc 2) (b := 3) (by decide)
  have b3 := Int.fmod_nonneg_of_pos (draw sc 3) (b := 3) (by decide)
  have b3' := Int.fmod_lt_of_pos (draw sc 3) (b := 3) (by decide)
  set_option maxHeartbeats 400000 in
  k_steps
  refine Stop.out ?_
  (show wpAny _ _ (call (Value.ref 452) [Value.ref _, Value.int _ _, Value.int _ _]) _ _ _)
  (rename Fr _ _ _ _ => F1)
  (rename News _ _ _ _ => N1)
  (rename IntsAre _ roots62 => irT)
  (rename IntsAre _ zetas => izT)
  refine terms_call B F1 X N1 T rfl hls his hsl (by omega) (by omega) (by omega) (by omega) (Nat.le_of_ble_eq_true rfl) (Nat.le_of_ble_eq_true rfl) ?_
  intro lf vsF nF tlF h1 k1 F2 N2 hTF
  simp only [List.cons_append, List.nil_append] at N2
  obtain ⟨TF, eTF, hTF⟩ : ∃ T, Stop (T = terms sc 4 (1 + (draw sc 2).fmod 3).toNat) ∧ TermsIn tlF vsF T := ⟨_, Stop.out rfl, hTF⟩
  clear F1 N1
  set_option maxHeartbeats 400000 in
  k_steps
  refine Stop.out ?_
  (show wpAny _ _ (call (Value.ref 452) [Value.ref _, Value.int _ _, Value.int _ _]) _ _ _)
  (rename Fr _ _ _ _ => F1)
  (rename News _ _ _ _ => N1)
  refine terms_call B F1 X N1 T rfl hls his hsl (by omega) (by omega) (by omega) (by omega) (Nat.le_of_ble_eq_true rfl) (Nat.le_of_ble_eq_true rfl) ?_
  intro l2 vsS nS tlS h3 k3 F4 N4 hTS
  simp only [List.cons_append, List.nil_append] at N4
  obtain ⟨TS, eTS, hTS⟩ : ∃ T, Stop (T = terms sc (4 + 2 * (1 + (draw sc 2).fmod 3)) (1 + (draw sc 3).fmod 3).toNat) ∧ TermsIn tlS vsS T := ⟨_, Stop.out rfl, hTS⟩
  have hpF : ∀ t ∈ TF, 0 ≤ t.1 ∧ t.1 < 256 := by rw [Stop.of eTF]; exact terms_place _ _ _
  have hpS : ∀ t ∈ TS, 0 ≤ t.1 ∧ t.1 < 256 := by rw [Stop.of eTS]; exact terms_place _ _ _
  clear F1 N1
  set_option maxHeartbeats 400000 in
  k_steps
  refine Stop.out ?_
  (show wpAny _ _ (call (Value.ref 447) [Value.ref _, Value.ref _]) _ _ _)
  (rename Fr _ _ _ _ => F1)
  (rename News _ _ _ _ => N1)
  refine' values_call B F1 X N1 T rfl ?v1m ?v1r (hTF.mono (by intro p hp; simp [hp])) irT (by rw [roots62_len]; exact Nat.le_refl _) hpF (Nat.le_of_ble_eq_true rfl) (Nat.le_of_ble_eq_true rfl) ?v1g
  case v1m => k_mem
  case v1r => k_mem
  case v1g =>
  intro lo vso no h5 k5 hio F6 N6 lt6
  obtain ⟨one, e1, hio⟩ : ∃ T, Stop (T = vals TF roots62) ∧ IntsAre vso T := ⟨_, Stop.out rfl, hio⟩
  have hl1 : one.length = 256 := by rw [Stop.of e1]; exact vals_len256 _
  clear F1 N1
  set_option maxHeartbeats 400000 in
  k_steps
  refine Stop.out ?_
  (show wpAny _ _ (call (Value.ref 447) [Value.ref _, Value.ref _]) _ _ _)
  (rename Fr _ _ _ _ => F1)
  (rename News _ _ _ _ => N1)
  refine' values_call B F1 X N1 T rfl ?w1m ?w1r (hTS.mono (by intro p hp; simp [hp])) irT (by rw [roots62_len]; exact Nat.le_refl _) hpS (Nat.le_of_ble_eq_true rfl) (Nat.le_of_ble_eq_true rfl) ?w1g
  case w1m => k_mem
  case w1r => k_mem
  case w1g =>
  intro lt vst nt h7 k7 hit F8 N8 lt8
  obtain ⟨two, e2, hit⟩ : ∃ T, Stop (T = vals TS roots62) ∧ IntsAre vst T := ⟨_, Stop.out rfl, hit⟩
  have hl2 : two.length = 256 := by rw [Stop.of e2]; exact vals_len256 _
  clear F1 N1
  set_option maxHeartbeats 400000 in
  k_steps
  refine Stop.out ?_
  (rename Fr _ _ _ _ => F9)
  (rename News _ _ _ _ => N9)
  (rename IntsAre (List.replicate (Int.toNat 256) _).flatten _ => ieT)
  rw [show (List.replicate (Int.toNat 256) [(0 : Int)]).flatten = List.replicate 256 0 from by decide] at ieT
  (rename _ ∧ _ ∧ _ ∧ _ ∧ _ ∧ _ ∧ _ ∧ _ ∧ _ ∧ _ ∧ _ ∧ _ ∧ _ ∧ _ ∧ _ ∧ AllLt _ (tlF ++ tlS) => lE)
  obtain ⟨m0, m1, m2, m3, m4, m5, m6, m7⟩ := Stop.of HM TF TS (draw sc 1) hpF hpS one two (Stop.of e1) (Stop.of e2)
  have tb1 : ∀ t ∈ TF, Builtin.Int.intBits t.2 ≤ 1048576 := by rw [Stop.of eTF]; exact terms_bits (Stop.of HB) (by omega) (by omega) (by omega)
  have tb2 : ∀ t ∈ TS, Builtin.Int.intBits t.2 ≤ 1048576 := by rw [Stop.of eTS]; exact terms_bits (Stop.of HB) (by omega) (by omega) (by omega)
  have tl1 : TF.length ≤ 3 := by rw [Stop.of eTF, terms_len]; omega
  have tl2 : TS.length ≤ 3 := by rw [Stop.of eTS, terms_len]; omega
  have vb1 : ∀ i : Nat, Builtin.Int.intBits (one.getD i 0) ≤ 2097152 := by rw [Stop.of e1]; exact vals_bits _ tb1 tl1
  have vb2 : ∀ i : Nat, Builtin.Int.intBits (two.getD i 0) ≤ 2097152 := by rw [Stop.of e2]; exact vals_bits _ tb2 tl2
  have sb : Builtin.Int.intBits (draw sc 1) ≤ 1048576 := Stop.of HB 1 (by decide) (by decide)
  have bF : Stop (∀ u : Int, Builtin.Int.intBits u ≤ 2097152 → ∀ t ∈ TF, PySem.IntMulOk u t.2) := Stop.out fun u hu t ht => PyProof.Rows.mulOk_of_bits hu (tb1 t ht) (by decide)
  have bS : Stop (∀ u : Int, Builtin.Int.intBits u ≤ 2097152 → ∀ t ∈ TS, PySem.IntMulOk u t.2) := Stop.out fun u hu t ht => PyProof.Rows.mulOk_of_bits hu (tb2 t ht) (by decide)
  have hbs : Builtin.Int.intBits (draw sc 1) ≤ 2097152 := Nat.le_trans sb (by decide)
  have hbn : Builtin.Int.intBits (-(draw sc 1)) ≤ 2097152 := PySem.intBits_neg_le hbs
  refine' branch_law (wh := (draw sc 0).fmod 8) (sv := draw sc 1) (tsF := TF) (tsS := TS) (ns1 := one) (ns2 := two) (zz := zetas) N9 ieT ?gse ?gom hio ?gtm hit ?gfm ?ghF ?gsm ?ghS hpF hpS bF bS vb1 vb2 hbs hbn ?gzm izT zetas_len zetas_bits m0 m1 m2 m3 m4 m5 m6 m7 (Int.fmod_nonneg_of_pos _ (by decide)) (Int.fmod_lt_of_pos _ (by decide)) hEo ecs0 ?ger B ?gF X T ?gp1 ?gp2 ?gp3 hio hl1 ?gq1 ?gq2 ?gq3 hit hl2 ?grm ?gdrm hret
  case gF => exact fr_kstB _ F9 (by kst_all)
  case ger => exact rfl
  case gse => exact allLt_ne lE
  case gom => k_mem
  case gtm => k_mem
  case gfm => k_mem
  case gsm => k_mem
  case gp1 => k_mem
  case gp2 => k_mem
  case gp3 => k_mem
  case gq1 => k_mem
  case gq2 => k_mem
  case gq3 => k_mem
  case grm => k_mem
  case gdrm => k_mem
  case gzm => k_mem
  case ghF => exact hTF.mono (by intro p hp; simp [hp])
  case ghS => exact hTS.mono (by intro p hp; simp [hp])
end Mine62
end
section
open PySem PySem.W PyProof.Rows
namespace Mine62
/-- equal modulo 3329 -/
def Cg (a b : Int) : Prop := ∃ k : Int, a = b + 3329 * k
theorem Cg.refl (a : Int) : Cg a a := ⟨0, by omega⟩
theorem Cg.of_eq {a b : Int} (h : a = b) : Cg a b := ⟨0, by omega⟩
theorem Cg.symm {a b : Int} : Cg a b → Cg b a := fun ⟨k, h⟩ => ⟨-k, by omega⟩
theorem Cg.trans {a b c : Int} : Cg a b → Cg b c → Cg a c := fun ⟨k, h⟩ ⟨l, g⟩ => ⟨k + l, by omega⟩
theorem Cg.add {a b c d : Int} : Cg a b → Cg c d → Cg (a + c) (b + d) := fun ⟨k, h⟩ ⟨l, g⟩ => ⟨k + l, by omega⟩
theorem Cg.sub {a b c d : Int} : Cg a b → Cg c d → Cg (a - c) (b - d) := fun ⟨k, h⟩ ⟨l, g⟩ => ⟨k - l, by omega⟩
theorem Cg.neg {a b : Int} : Cg a b → Cg (-a) (-b) := fun ⟨k, h⟩ => ⟨-k, by omega⟩
theorem Cg.mul {a b c d : Int} : Cg a b → Cg c d → Cg (a * c) (b * d) := fun ⟨k, h⟩ ⟨l, g⟩ => ⟨b * l + k * d + 3329 * k * l, by subst h; subst g; grind⟩
theorem Cg.pow {a b : Int} (h : Cg a b) : ∀ n : Nat, Cg (a ^ n) (b ^ n)
  | 0 => Cg.of_eq (by rw [Int.pow_zero, Int.pow_zero])
  | n + 1 => by rw [Int.pow_succ, Int.pow_succ]; exact (Cg.pow h n).mul h
theorem Cg.of_mod {a b : Int} (h : (a - b) % 3329 = 0) : Cg a b := ⟨(a - b) / 3329, by omega⟩
theorem cg_fmod (a : Int) : Cg (a.fmod 3329) a := by
  rw [Int.fmod_eq_emod_of_nonneg _ (by decide)]
  exact ⟨-(a / 3329), by omega⟩
theorem cg_emod (a : Int) : Cg (a % 3329) a := ⟨-(a / 3329), by omega⟩
theorem Cg.fmod {a b : Int} (h : Cg a b) : a.fmod 3329 = b.fmod 3329 := by
  obtain ⟨k, rfl⟩ := h
  rw [Int.fmod_eq_emod_of_nonneg _ (by decide), Int.fmod_eq_emod_of_nonneg _ (by decide)]
  omega
theorem sq_pow (a : Int) : ∀ k : Nat, a ^ (2 * k) = (a * a) ^ k
  | 0 => by rw [Nat.mul_zero, Int.pow_zero, Int.pow_zero]
  | k + 1 => by
    rw [show 2 * (k + 1) = 2 * k + 1 + 1 from rfl, Int.pow_succ, Int.pow_succ, sq_pow a k, Int.pow_succ, Int.mul_assoc]
-- the power with a modulus
theorem shiftRight_bit (e n : Nat) : e >>> n = 2 * (e >>> (n + 1)) + (if e.testBit n then 1 else 0) := by
  have h1 : e >>> (n + 1) = (e >>> n) / 2 := by rw [Nat.shiftRight_succ]
  rw [h1]
  have h2 : e.testBit n = ((e >>> n) % 2 == 1) := by rw [Nat.testBit, Nat.and_comm, Nat.and_one_is_mod]; cases Nat.mod_two_eq_zero_or_one (e >>> n) with | inl h => rw [h]; rfl | inr h => rw [h]; rfl
  rw [h2]
  rcases Nat.mod_two_eq_zero_or_one (e >>> n) with h | h <;> simp [h] <;> omega
theorem powMod_fold (b e m : Nat) : ∀ n : Nat, ∀ p : Nat, p = b ^ (e >>> n) % m → (List.range n).reverse.foldl (fun p i => if e.testBit i then p * p % m * b % m else p * p % m) p = b ^ e % m := by
  intro n
  induction n with
  | zero => intro p hp; simpa using hp
  | succ n ih =>
    intro p hp
    rw [List.range_succ, List.reverse_append, List.reverse_singleton, List.singleton_append, List.foldl_cons]
    refine ih _ ?_
    have e0 := shiftRight_bit e n
    have sq : p * p % m = b ^ (2 * (e >>> (n + 1))) % m := by
      rw [hp, ← Nat.mul_mod, ← Nat.pow_add]; congr 2; omega
    split
    · rename_i ht
      rw [if_pos ht] at e0
      rw [sq, e0, Nat.pow_succ, Nat.mod_mul_mod]
    · rename_i ht
      rw [if_neg ht] at e0
      rw [sq, show e >>> n = 2 * (e >>> (n + 1)) by omega]
theorem intBits_top (e : Nat) : e >>> (Builtin.Int.intBits (e : Int)) = 0 := by
  unfold Builtin.Int.intBits
  by_cases h : e = 0
  · subst h; rfl
  · have : ((e : Int) == 0) = false := by simpa using h
    rw [this, Nat.shiftRight_eq_div_pow]
    refine Nat.div_eq_of_lt ?_
    have := Nat.lt_log2_self (n := e)
    simpa using this
theorem powMod_eq (b e m : Nat) : Builtin.powMod b e m = b ^ e % m := by
  unfold Builtin.powMod
  refine powMod_fold b e m _ _ ?_
  rw [intBits_top, Nat.pow_zero]
theorem pm_cg (a n : Int) : Cg (pm a n) (a ^ n.toNat) := by
  unfold pm
  rw [powMod_eq]
  have h1 : (((a % 3329).toNat ^ n.toNat % 3329 : Nat) : Int) = (a % 3329) ^ n.toNat % 3329 := by
    rw [Int.natCast_emod, Int.natCast_pow, Int.toNat_of_nonneg (Int.emod_nonneg _ (by decide))]; rfl
  rw [h1]
  exact (cg_emod _).trans ((cg_emod a).pow _)
end Mine62
end
section
open PySem PySem.W PyProof.Rows
namespace Mine62
theorem getD_set (l : List Int) (i j : Nat) (a : Int) : (l.set i a).getD j 0 = if i = j ∧ i < l.length then a else l.getD j 0 := by
  simp only [List.getD_eq_getElem?_getD, List.getElem?_set]
  by_cases h : i = j
  · subst h
    by_cases h2 : i < l.length
    · simp [h2]
    · simp [h2]
  · simp [h]
theorem bf_get {l z : Int} {cs : List Int} {j : Int} {a b : Nat} (ha : j.toNat = a) (hb : (j + l).toNat = b) (hab : a < b) (hlen : b < cs.length) (pos : Nat) :
    (bf l z cs j).getD pos 0 = if pos = b then z * (cs.getD b 0 - cs.getD a 0) else if pos = a then cs.getD a 0 + cs.getD b 0 else cs.getD pos 0 := by
  unfold bf
  rw [ha, hb]
  have hne : a ≠ b := Nat.ne_of_lt hab
  have hal : a < cs.length := by omega
  by_cases h1 : pos = b
  · subst h1
    simp [getD_set, hlen, hal, hne, Ne.symm hne]
  · by_cases h2 : pos = a
    · subst h2
      simp [getD_set, hlen, hal, hne, Ne.symm hne]
    · have h1' : ¬ b = pos := fun h => h1 h.symm
      have h2' : ¬ a = pos := fun h => h2 h.symm
      simp [getD_set, h1, h2, h1', h2']
theorem rangeKs_succ (s : Int) (k : Nat) : rangeKs s (k + 1) = rangeKs s k ++ [s + k] := by
  unfold rangeKs
  rw [List.range_succ, List.map_append]
  rfl
theorem run_get (z : Int) (cs : List Int) (s lN : Nat) (hl : 0 < lN) (hlen : s + 2 * lN ≤ cs.length) : ∀ k : Nat, k ≤ lN → ∀ pos : Nat,
    ((rangeKs (s : Int) k).foldl (bf (lN : Int) z) cs).getD pos 0 = if s ≤ pos ∧ pos < s + k then cs.getD pos 0 + cs.getD (pos + lN) 0 else if s + lN ≤ pos ∧ pos < s + lN + k then z * (cs.getD pos 0 - cs.getD (pos - lN) 0) else cs.getD pos 0 := by
  intro k
  induction k with
  | zero =>
    intro _ pos
    rw [if_neg (by omega), if_neg (by omega)]
    rfl
  | succ k ih =>
    intro hk pos
    have ih := ih (by omega)
    rw [rangeKs_succ, List.foldl_append, List.foldl_cons, List.foldl_nil]
    rw [bf_get (a := s + k) (b := s + k + lN) (by omega) (by omega) (by omega) (by rw [bfs_length]; omega)]
    rw [ih pos, ih (s + k), ih (s + k + lN)]
    rw [if_neg (show ¬(s ≤ s + k ∧ s + k < s + k) by omega), if_neg (show ¬(s + lN ≤ s + k ∧ s + k < s + lN + k) by omega), if_neg (show ¬(s ≤ s + k + lN ∧ s + k + lN < s + k) by omega), if_neg (show ¬(s + lN ≤ s + k + lN ∧ s + k + lN < s + lN + k) by omega)]
    by_cases h1 : pos = s + k + lN
    · subst h1
      rw [if_pos rfl, if_neg (by omega), if_pos (by omega), show s + k + lN - lN = s + k by omega]
    · rw [if_neg h1]
      by_cases h2 : pos = s + k
      · subst h2
        rw [if_pos rfl, if_pos (by omega)]
      · rw [if_neg h2]
        by_cases h3 : s ≤ pos ∧ pos < s + k
        · rw [if_pos h3, if_pos (by omega)]
        · rw [if_neg h3, if_neg (show ¬(s ≤ pos ∧ pos < s + (k + 1)) by omega)]
          by_cases h4 : s + lN ≤ pos ∧ pos < s + lN + k
          · rw [if_pos h4, if_pos (by omega)]
          · rw [if_neg h4, if_neg (by omega)]
def lN (e : Nat) : Nat := 2 ^ (e + 1)
theorem ll_eq (e : Nat) : ll e = (lN e : Int) := by unfold ll lN; rw [Int.natCast_pow]; rfl
theorem lN_pos (e : Nat) : 0 < lN e := Nat.two_pow_pos _
theorem lN_succ (e : Nat) : lN (e + 1) = 2 * lN e := by unfold lN; rw [Nat.pow_succ]; omega
theorem lN_qq {e : Nat} (h : e ≤ 6) : 2 * lN e * qq e = 256 := by
  rcases (by omega : e = 0 ∨ e = 1 ∨ e = 2 ∨ e = 3 ∨ e = 4 ∨ e = 5 ∨ e = 6) with rfl | rfl | rfl | rfl | rfl | rfl | rfl <;> decide
/-- a layer, entry by entry -/
def stepF (zz : List Int) (e : Nat) (cs : List Int) (pos : Nat) : Int :=
  if pos % (2 * lN e) < lN e then cs.getD pos 0 + cs.getD (pos + lN e) 0 else zz.getD (kE e - ((pos / (2 * lN e) : Nat) : Int)).toNat 0 * (cs.getD pos 0 - cs.getD (pos - lN e) 0)
theorem blk_get (zz : List Int) (e : Nat) (cs : List Int) (b : Nat) (hlen : 2 * lN e * (b + 1) ≤ cs.length) (pos : Nat) :
    (blk zz e cs b).getD pos 0 = if pos / (2 * lN e) = b then stepF zz e cs pos else cs.getD pos 0 := by
  unfold blk
  have hp := lN_pos e
  have e1 : st e b = ((2 * lN e * b : Nat) : Int) := by unfold st; rw [ll_eq]; push_cast; rfl
  have e2 : (ll e).toNat = lN e := by rw [ll_eq]; rfl
  have hlen' : 2 * lN e * b + 2 * lN e ≤ cs.length := by rw [Nat.mul_succ] at hlen; exact hlen
  rw [e1, e2, ll_eq, run_get _ cs (2 * lN e * b) (lN e) hp hlen' (lN e) (Nat.le_refl _) pos]
  have hdm := Nat.div_add_mod pos (2 * lN e)
  have hmod := Nat.mod_lt pos (show 0 < 2 * lN e by omega)
  by_cases hb : pos / (2 * lN e) = b
  · rw [if_pos hb]
    unfold stepF
    rw [hb] at hdm ⊢
    by_cases hm : pos % (2 * lN e) < lN e
    · rw [if_pos hm, if_pos (by omega)]
    · rw [if_neg hm, if_neg (by omega), if_pos (by omega)]
  · rw [if_neg hb]
    have hcase : pos < 2 * lN e * b ∨ 2 * lN e * b + 2 * lN e ≤ pos := by
      rcases Nat.lt_or_ge (pos / (2 * lN e)) b with h | h
      · left
        have := Nat.mul_le_mul_left (2 * lN e) (show pos / (2 * lN e) + 1 ≤ b from h)
        rw [Nat.mul_succ] at this
        omega
      · right
        have := Nat.mul_le_mul_left (2 * lN e) (show b + 1 ≤ pos / (2 * lN e) by omega)
        rw [Nat.mul_succ] at this
        omega
    rw [if_neg (by omega), if_neg (by omega)]
theorem stepF_congr (zz : List Int) (e : Nat) {cs cs' : List Int} {pos : Nat} (h : ∀ q : Nat, q / (2 * lN e) = pos / (2 * lN e) → cs.getD q 0 = cs'.getD q 0) : stepF zz e cs pos = stepF zz e cs' pos := by
  unfold stepF
  have hp := lN_pos e
  have hdm := Nat.div_add_mod pos (2 * lN e)
  have hmod := Nat.mod_lt pos (show 0 < 2 * lN e by omega)
  have a1 : ∀ r, r < 2 * lN e → (2 * lN e * (pos / (2 * lN e)) + r) / (2 * lN e) = pos / (2 * lN e) := fun r hr => by
    rw [Nat.add_comm, Nat.add_mul_div_left _ _ (by omega), Nat.div_eq_of_lt hr, Nat.zero_add]
  by_cases hm : pos % (2 * lN e) < lN e
  · rw [if_pos hm, if_pos hm, h pos rfl]
    have := h (2 * lN e * (pos / (2 * lN e)) + (pos % (2 * lN e) + lN e)) (a1 _ (by omega))
    rw [show 2 * lN e * (pos / (2 * lN e)) + (pos % (2 * lN e) + lN e) = pos + lN e by omega] at this
    rw [this]
  · rw [if_neg hm, if_neg hm, h pos rfl]
    have := h (2 * lN e * (pos / (2 * lN e)) + (pos % (2 * lN e) - lN e)) (a1 _ (by omega))
    rw [show 2 * lN e * (pos / (2 * lN e)) + (pos % (2 * lN e) - lN e) = pos - lN e by omega] at this
    rw [this]
theorem blks_get (zz : List Int) (e : Nat) (cs : List Int) : ∀ n : Nat, 2 * lN e * n ≤ cs.length → ∀ pos : Nat, (blks zz e n cs).getD pos 0 = if pos / (2 * lN e) < n then stepF zz e cs pos else cs.getD pos 0 := by
  intro n
  induction n with
  | zero => intro _ pos; rw [if_neg (Nat.not_lt_zero _)]; rfl
  | succ n ih =>
    intro hn pos
    have ih := ih (by rw [Nat.mul_succ] at hn; omega)
    rw [blks_succ, blk_get zz e _ n (by rw [blks_length]; exact hn)]
    by_cases h1 : pos / (2 * lN e) = n
    · rw [if_pos h1, if_pos (by omega)]
      refine stepF_congr zz e fun q hq => ?_
      rw [ih q, if_neg (by omega)]
    · rw [if_neg h1, ih pos]
      by_cases h2 : pos / (2 * lN e) < n
      · rw [if_pos h2, if_pos (by omega)]
      · rw [if_neg h2, if_neg (by omega)]
theorem lay_get (zz : List Int) (cs : List Int) (hl : cs.length = 256) {e : Nat} (he : e ≤ 6) {pos : Nat} (hpos : pos < 256) : (lay zz cs (e + 1)).getD pos 0 = stepF zz e (lay zz cs e) pos := by
  have hq := lN_qq he
  rw [lay, blks_get zz e _ (qq e) (by rw [lay_length, hl, hq]; exact Nat.le_refl _), if_pos]
  exact (Nat.div_lt_iff_lt_mul (by have := lN_pos e; omega)).mpr (by rw [Nat.mul_comm, hq]; exact hpos)
theorem fin_get (f : Int) (cs : List Int) (hl : cs.length = 256) : ∀ n : Nat, n ≤ 256 → ∀ pos : Nat, ((rangeKs 0 n).foldl (fin f) cs).getD pos 0 = if pos < n then (cs.getD pos 0 * f).fmod 3329 else cs.getD pos 0 := by
  intro n
  induction n with
  | zero => intro _ pos; rw [if_neg (by omega)]; rfl
  | succ n ih =>
    intro hn pos
    have ih := ih (by omega)
    rw [rangeKs_succ, List.foldl_append, List.foldl_cons, List.foldl_nil, fin, getD_set, fins_length, hl]
    have e1 : (0 + (n : Int)).toNat = n := by omega
    rw [e1, ih n, if_neg (Nat.lt_irrefl _), ih pos]
    by_cases h1 : n = pos
    · subst h1
      rw [if_pos ⟨rfl, by omega⟩, if_pos (by omega)]
    · rw [if_neg (by omega)]
      by_cases h2 : pos < n
      · rw [if_pos h2, if_pos (by omega)]
      · rw [if_neg h2, if_neg (by omega)]
theorem fromNtt_get (zz : List Int) (f : Int) (cs : List Int) (hl : cs.length = 256) {pos : Nat} (hpos : pos < 256) : (fromNtt zz f cs).getD pos 0 = ((lay zz cs 7).getD pos 0 * f).fmod 3329 := by
  unfold fromNtt
  rw [fin_get f _ (by rw [lay_length]; exact hl) 256 (Nat.le_refl _), if_pos hpos]
end Mine62
end
section
open PySem PySem.W PyProof.Rows
namespace Mine62
def Rt (e i : Nat) : Int := pm 17 ((rowE (7 - e)).getD i 0)
def Tm (e pl pos : Nat) : Int := if pl % lN e = pos % lN e then 2 ^ e * Rt e (pos / lN e) ^ (pl / lN e) else 0
def Dm (e pos : Nat) : Int := if pos < lN e ∧ pos % 2 = 0 then pm 17 (256 - ((pos / 2 : Nat) : Int)) else 0
theorem tabA : ∀ e : Nat, e < 7 → ∀ b : Nat, b < qq e → (Rt e (2 * b + 1) + Rt e (2 * b)) % 3329 = 0 ∧ (zetas.getD (kE e - (b : Int)).toNat 0 * Rt e (2 * b) + 1) % 3329 = 0 ∧ (Rt (e + 1) b - Rt e (2 * b) * Rt e (2 * b)) % 3329 = 0 := by decide +kernel
theorem tabD : ∀ e : Nat, e < 7 → ∀ m : Nat, m < 2 ^ e → (pm 17 (256 - ((m + 2 ^ e : Nat) : Int)) + zetas.getD (kE e).toNat 0 * pm 17 (256 - (m : Int))) % 3329 = 0 := by decide +kernel
theorem dm {l x a b : Nat} (hb : b < l) (h : x = l * a + b) : x / l = a ∧ x % l = b := by
  subst h
  constructor
  · rw [Nat.add_comm, Nat.add_mul_div_left _ _ (by omega), Nat.div_eq_of_lt hb, Nat.zero_add]
  · rw [Nat.mul_add_mod, Nat.mod_eq_of_lt hb]
theorem neg_even (A : Int) (k : Nat) : (-A) ^ (2 * k) = (A * A) ^ k := by rw [sq_pow, Int.neg_mul_neg]
theorem neg_odd (A : Int) (k : Nat) : (-A) ^ (2 * k + 1) = (A * A) ^ k * (-A) := by rw [Int.pow_succ, neg_even]
theorem pos_odd (A : Int) (k : Nat) : A ^ (2 * k + 1) = (A * A) ^ k * A := by rw [Int.pow_succ, sq_pow]
/-- what the tables say of a block -/
theorem tab_facts {e q : Nat} (he : e < 7) (hq : q < qq e) : Cg (Rt e (2 * q + 1)) (-(Rt e (2 * q))) ∧ Cg (zetas.getD (kE e - (q : Int)).toNat 0 * Rt e (2 * q)) (-1) ∧ Cg (Rt (e + 1) q) (Rt e (2 * q) * Rt e (2 * q)) := by
  obtain ⟨h1, h2, h3⟩ := tabA e he q hq
  exact ⟨Cg.of_mod (by rw [Int.sub_neg]; exact h1), Cg.of_mod (by rw [Int.sub_neg]; exact h2), Cg.of_mod h3⟩
theorem half_pl {l pl : Nat} (hl : 0 < l) : (∃ k, pl / l = 2 * k ∧ pl / (2 * l) = k ∧ pl % (2 * l) = pl % l) ∨ (∃ k, pl / l = 2 * k + 1 ∧ pl / (2 * l) = k ∧ pl % (2 * l) = pl % l + l) := by
  have h1 := Nat.div_add_mod pl l
  have h2 := Nat.mod_lt pl hl
  rcases Nat.mod_two_eq_zero_or_one (pl / l) with h | h
  · left
    have e1 : pl / l = 2 * (pl / l / 2) := by omega
    have e3 : l * (pl / l) = 2 * l * (pl / l / 2) := by rw [Nat.mul_comm 2 l, Nat.mul_assoc]; exact congrArg _ e1
    have e2 := dm (l := 2 * l) (x := pl) (a := pl / l / 2) (b := pl % l) (by omega) (by omega)
    exact ⟨_, e1, e2.1, e2.2⟩
  · right
    have e1 : pl / l = 2 * (pl / l / 2) + 1 := by omega
    have e3 : l * (pl / l) = 2 * l * (pl / l / 2) + l := by rw [Nat.mul_comm 2 l, Nat.mul_assoc, ← Nat.mul_succ]; exact congrArg _ e1
    have e2 := dm (l := 2 * l) (x := pl) (a := pl / l / 2) (b := pl % l + l) (by omega) (by omega)
    exact ⟨_, e1, e2.1, e2.2⟩
theorem T_add {e : Nat} (he : e < 7) {pos : Nat} (hpos : pos < 256) (hr : pos % (2 * lN e) < lN e) (pl : Nat) : Cg (Tm e pl pos + Tm e pl (pos + lN e)) (Tm (e + 1) pl pos) := by
  have hl := lN_pos e
  have hq : pos / (2 * lN e) < qq e := (Nat.div_lt_iff_lt_mul (by omega)).mpr (by rw [Nat.mul_comm, lN_qq (by omega)]; exact hpos)
  obtain ⟨hB, _, hR⟩ := tab_facts he hq
  have hdm := Nat.div_add_mod pos (2 * lN e)
  have e3 : 2 * lN e * (pos / (2 * lN e)) = lN e * (2 * (pos / (2 * lN e))) := by rw [Nat.mul_comm 2, Nat.mul_assoc]
  have a1 := dm (l := lN e) (x := pos) (a := 2 * (pos / (2 * lN e))) (b := pos % (2 * lN e)) hr (by omega)
  have a2 := dm (l := lN e) (x := pos + lN e) (a := 2 * (pos / (2 * lN e)) + 1) (b := pos % (2 * lN e)) hr (by rw [Nat.mul_succ]; omega)
  unfold Tm
  rw [lN_succ, a1.1, a1.2, a2.1, a2.2]
  rcases half_pl (pl := pl) hl with ⟨k, h1, h2, h3⟩ | ⟨k, h1, h2, h3⟩
  · rw [h1, h2, h3]
    by_cases hm : pl % lN e = pos % (2 * lN e)
    · rw [if_pos hm, if_pos hm, if_pos hm]
      have b1 := (hB.pow (2 * k)).trans (Cg.of_eq (neg_even _ k))
      have b2 := (hR.pow k).symm
      refine ((Cg.of_eq (congrArg (2 ^ e * ·) (sq_pow _ k))).add ((Cg.refl (2 ^ e)).mul b1)).trans ?_
      refine Cg.trans (Cg.of_eq ?_) ((Cg.refl (2 ^ (e + 1))).mul b2)
      rw [Int.pow_succ]
      generalize (2 : Int) ^ e = w
      generalize (Rt e (2 * (pos / (2 * lN e))) * Rt e (2 * (pos / (2 * lN e)))) ^ k = y
      grind
    · rw [if_neg hm, if_neg hm, if_neg hm]
      exact Cg.refl _
  · rw [h1, h2, h3]
    rw [if_neg (show ¬(pl % lN e + lN e = pos % (2 * lN e)) by omega)]
    by_cases hm : pl % lN e = pos % (2 * lN e)
    · rw [if_pos hm, if_pos hm]
      have b1 := (hB.pow (2 * k + 1)).trans (Cg.of_eq (neg_odd _ k))
      refine ((Cg.of_eq (congrArg (2 ^ e * ·) (pos_odd _ k))).add ((Cg.refl (2 ^ e)).mul b1)).trans (Cg.of_eq ?_)
      generalize (2 : Int) ^ e = w
      generalize (Rt e (2 * (pos / (2 * lN e))) * Rt e (2 * (pos / (2 * lN e)))) ^ k = y
      grind
    · rw [if_neg hm, if_neg hm]
      exact Cg.refl _
theorem T_sub {e : Nat} (he : e < 7) {pos : Nat} (hpos : pos < 256) (hr : ¬ pos % (2 * lN e) < lN e) (pl : Nat) :
    Cg (zetas.getD (kE e - ((pos / (2 * lN e) : Nat) : Int)).toNat 0 * (Tm e pl pos - Tm e pl (pos - lN e))) (Tm (e + 1) pl pos) := by
  have hl := lN_pos e
  have hq : pos / (2 * lN e) < qq e := (Nat.div_lt_iff_lt_mul (by omega)).mpr (by rw [Nat.mul_comm, lN_qq (by omega)]; exact hpos)
  obtain ⟨hB, hz, hR⟩ := tab_facts he hq
  have hdm := Nat.div_add_mod pos (2 * lN e)
  have hmod := Nat.mod_lt pos (show 0 < 2 * lN e by omega)
  have e3 : 2 * lN e * (pos / (2 * lN e)) = lN e * (2 * (pos / (2 * lN e))) := by rw [Nat.mul_comm 2, Nat.mul_assoc]
  have a1 := dm (l := lN e) (x := pos) (a := 2 * (pos / (2 * lN e)) + 1) (b := pos % (2 * lN e) - lN e) (by omega) (by rw [Nat.mul_succ]; omega)
  have a2 := dm (l := lN e) (x := pos - lN e) (a := 2 * (pos / (2 * lN e))) (b := pos % (2 * lN e) - lN e) (by omega) (by omega)
  generalize zetas.getD (kE e - ((pos / (2 * lN e) : Nat) : Int)).toNat 0 = z at hz ⊢
  unfold Tm
  rw [lN_succ, a1.1, a1.2, a2.1, a2.2]
  rcases half_pl (pl := pl) hl with ⟨k, h1, h2, h3⟩ | ⟨k, h1, h2, h3⟩
  · rw [h1, h2, h3]
    have := Nat.mod_lt pl hl
    rw [if_neg (show ¬(pl % lN e = pos % (2 * lN e)) by omega)]
    by_cases hm : pl % lN e = pos % (2 * lN e) - lN e
    · rw [if_pos hm, if_pos hm]
      have b1 := (hB.pow (2 * k)).trans (Cg.of_eq (neg_even _ k))
      refine ((Cg.refl z).mul (((Cg.refl (2 ^ e)).mul b1).sub (Cg.of_eq (congrArg (2 ^ e * ·) (sq_pow _ k))))).trans (Cg.of_eq ?_)
      generalize (2 : Int) ^ e = w
      generalize (Rt e (2 * (pos / (2 * lN e))) * Rt e (2 * (pos / (2 * lN e)))) ^ k = y
      grind
    · rw [if_neg hm, if_neg hm]
      exact Cg.of_eq (by omega)
  · rw [h1, h2, h3]
    by_cases hm : pl % lN e = pos % (2 * lN e) - lN e
    · rw [if_pos hm, if_pos hm, if_pos (show pl % lN e + lN e = pos % (2 * lN e) by omega)]
      have b1 := (hB.pow (2 * k + 1)).trans (Cg.of_eq (neg_odd _ k))
      have b2 := (hR.pow k).symm
      refine ((Cg.refl z).mul (((Cg.refl (2 ^ e)).mul b1).sub (Cg.of_eq (congrArg (2 ^ e * ·) (pos_odd _ k))))).trans ?_
      refine Cg.trans ?_ ((Cg.refl (2 ^ (e + 1))).mul b2)
      rw [Int.pow_succ]
      generalize (2 : Int) ^ e = w
      generalize (Rt e (2 * (pos / (2 * lN e))) * Rt e (2 * (pos / (2 * lN e)))) ^ k = y
      generalize Rt e (2 * (pos / (2 * lN e))) = A at hz ⊢
      have hz2 := hz.mul (Cg.refl (-(2 * w * y)))
      refine (Cg.of_eq ?_).trans (hz2.trans (Cg.of_eq ?_))
      · grind
      · grind
    · rw [if_neg hm, if_neg hm, if_neg (show ¬(pl % lN e + lN e = pos % (2 * lN e)) by omega)]
      exact Cg.of_eq (by omega)
end Mine62
end
section
open PySem PySem.W PyProof.Rows
namespace Mine62
theorem lN_even (e : Nat) : lN e = 2 * 2 ^ e := by unfold lN; rw [Nat.pow_succ, Nat.mul_comm]
theorem D_add {e pos : Nat} (hr : pos % (2 * lN e) < lN e) : Cg (Dm e pos + Dm e (pos + lN e)) (Dm (e + 1) pos) := by
  have hl := lN_pos e
  have hdm := Nat.div_add_mod pos (2 * lN e)
  refine Cg.of_eq ?_
  unfold Dm
  rw [lN_succ, if_neg (show ¬(pos + lN e < lN e ∧ _) by omega)]
  by_cases h : pos < lN e
  · have e1 : (pos < lN e ∧ pos % 2 = 0) ↔ (pos < 2 * lN e ∧ pos % 2 = 0) := by omega
    simp only [e1]
    omega
  · have h2 : ¬ pos < 2 * lN e := by
      intro h3
      rw [Nat.mod_eq_of_lt h3] at hr
      exact h hr
    rw [if_neg (by omega), if_neg (by omega)]
    omega
theorem D_sub {e pos : Nat} (he : e < 7) (hr : ¬ pos % (2 * lN e) < lN e) : Cg (zetas.getD (kE e - ((pos / (2 * lN e) : Nat) : Int)).toNat 0 * (Dm e pos - Dm e (pos - lN e))) (Dm (e + 1) pos) := by
  have hl := lN_pos e
  have hdm := Nat.div_add_mod pos (2 * lN e)
  have hge : lN e ≤ pos := Nat.le_trans (Nat.not_lt.mp hr) (Nat.mod_le _ _)
  have hev := lN_even e
  unfold Dm
  rw [lN_succ, if_neg (show ¬(pos < lN e ∧ _) by omega)]
  by_cases h : pos < 2 * lN e
  · rw [Nat.div_eq_of_lt h]
    by_cases h2 : pos % 2 = 0
    · rw [if_pos (by omega), if_pos (by omega)]
      have t := tabD e he ((pos - lN e) / 2) (by omega)
      rw [show (pos - lN e) / 2 + 2 ^ e = pos / 2 by omega] at t
      rw [show kE e - ((0 : Nat) : Int) = kE e by omega]
      generalize zetas.getD (kE e).toNat 0 = z at t ⊢
      generalize pm 17 (256 - ((pos / 2 : Nat) : Int)) = x at t ⊢
      generalize pm 17 (256 - (((pos - lN e) / 2 : Nat) : Int)) = y at t ⊢
      have t2 := (Cg.of_mod (a := x + z * y) (b := 0) (by rw [Int.sub_zero]; exact t))
      obtain ⟨k, hk⟩ := t2
      exact ⟨-k, by grind⟩
    · rw [if_neg (by omega), if_neg (by omega)]
      exact Cg.of_eq (by grind)
  · rw [if_neg (by omega), if_neg (by omega)]
    exact Cg.of_eq (by grind)
def Sm (e : Nat) : List (Int × Int) → Nat → Int
  | [], _ => 0
  | t :: ts, pos => t.2 * Tm e t.1.toNat pos + Sm e ts pos
theorem Sm_cons (e : Nat) (t : Int × Int) (ts : List (Int × Int)) (pos : Nat) : Sm e (t :: ts) pos = t.2 * Tm e t.1.toNat pos + Sm e ts pos := rfl
theorem S_add {e : Nat} (he : e < 7) {pos : Nat} (hpos : pos < 256) (hr : pos % (2 * lN e) < lN e) : ∀ ts : List (Int × Int), Cg (Sm e ts pos + Sm e ts (pos + lN e)) (Sm (e + 1) ts pos)
  | [] => Cg.refl _
  | t :: ts => by
    refine Cg.trans (Cg.of_eq ?_) (((Cg.refl t.2).mul (T_add he hpos hr t.1.toNat)).add (S_add he hpos hr ts))
    simp only [Sm_cons]
    grind
theorem S_sub {e : Nat} (he : e < 7) {pos : Nat} (hpos : pos < 256) (hr : ¬ pos % (2 * lN e) < lN e) : ∀ ts : List (Int × Int), Cg (zetas.getD (kE e - ((pos / (2 * lN e) : Nat) : Int)).toNat 0 * (Sm e ts pos - Sm e ts (pos - lN e))) (Sm (e + 1) ts pos)
  | [] => Cg.of_eq (by unfold Sm; grind)
  | t :: ts => by
    refine Cg.trans (Cg.of_eq ?_) (((Cg.refl t.2).mul (T_sub he hpos hr t.1.toNat)).add (S_sub he hpos hr ts))
    generalize zetas.getD (kE e - ((pos / (2 * lN e) : Nat) : Int)).toNat 0 = z
    simp only [Sm_cons]
    grind
theorem lay_cg {g : List Int} (hg : g.length = 256) (tsF tsS : List (Int × Int)) (u v s : Int) (h0 : ∀ pos : Nat, pos < 256 → Cg (g.getD pos 0) (u * Sm 0 tsF pos + v * Sm 0 tsS pos + s * Dm 0 pos)) :
    ∀ e : Nat, e ≤ 7 → ∀ pos : Nat, pos < 256 → Cg ((lay zetas g e).getD pos 0) (u * Sm e tsF pos + v * Sm e tsS pos + s * Dm e pos) := by
  intro e
  induction e with
  | zero => intro _; exact h0
  | succ e ih =>
    intro he pos hpos
    have ih := ih (by omega)
    have he' : e < 7 := by omega
    have hl := lN_pos e
    rw [lay_get zetas g hg (by omega) hpos]
    unfold stepF
    have hdm := Nat.div_add_mod pos (2 * lN e)
    by_cases hr : pos % (2 * lN e) < lN e
    · rw [if_pos hr]
      have hq : pos / (2 * lN e) < qq e := (Nat.div_lt_iff_lt_mul (by omega)).mpr (by rw [Nat.mul_comm, lN_qq (by omega)]; exact hpos)
      have hq2 := Nat.mul_le_mul_left (2 * lN e) (show pos / (2 * lN e) + 1 ≤ qq e from hq)
      rw [lN_qq (by omega), Nat.mul_succ] at hq2
      refine ((ih pos hpos).add (ih (pos + lN e) (by omega))).trans ?_
      refine Cg.trans (Cg.of_eq ?_) ((((Cg.refl u).mul (S_add he' hpos hr tsF)).add ((Cg.refl v).mul (S_add he' hpos hr tsS))).add ((Cg.refl s).mul (D_add hr)))
      grind
    · rw [if_neg hr]
      refine ((Cg.refl _).mul ((ih pos hpos).sub (ih (pos - lN e) (by omega)))).trans ?_
      refine Cg.trans (Cg.of_eq ?_) ((((Cg.refl u).mul (S_sub he' hpos hr tsF)).add ((Cg.refl v).mul (S_sub he' hpos hr tsS))).add ((Cg.refl s).mul (D_sub he' hr)))
      generalize zetas.getD (kE e - ((pos / (2 * lN e) : Nat) : Int)).toNat 0 = z
      grind
def Pm : List (Int × Int) → Nat → Int
  | [], _ => 0
  | t :: ts, j => (if t.1.toNat = j then t.2 else 0) + Pm ts j
theorem Pm_cons (t : Int × Int) (ts : List (Int × Int)) (j : Nat) : Pm (t :: ts) j = (if t.1.toNat = j then t.2 else 0) + Pm ts j := rfl
theorem S_end {j : Nat} (hj : j < 256) : ∀ ts : List (Int × Int), (∀ t ∈ ts, 0 ≤ t.1 ∧ t.1 < 256) → Sm 7 ts j = 128 * Pm ts j
  | [], _ => rfl
  | t :: ts, h => by
    have h1 := h t (.head _)
    have ih := S_end hj ts fun t' h' => h t' (.tail _ h')
    have e7 : lN 7 = 256 := by decide
    rw [Sm_cons, Pm_cons]
    unfold Tm
    rw [ih, e7, Nat.mod_eq_of_lt hj, Nat.mod_eq_of_lt (show t.1.toNat < 256 by omega), Nat.div_eq_of_lt (show t.1.toNat < 256 by omega), Int.pow_zero]
    split <;> omega
theorem plain_get (u : Int) {j : Nat} (hj : j < 256) : ∀ (ts : List (Int × Int)) (c : List Int), c.length = 256 → (∀ t ∈ ts, 0 ≤ t.1 ∧ t.1 < 256) → (ts.foldl (plainStep u) c).getD j 0 = c.getD j 0 + u * Pm ts j
  | [], c, _, _ => by unfold Pm; simp
  | t :: ts, c, hc, h => by
    have h1 := h t (.head _)
    rw [List.foldl_cons, plain_get u hj ts (plainStep u c t) (by rw [plainStep, List.length_set]; exact hc) fun t' h' => h t' (.tail _ h')]
    rw [Pm_cons]
    unfold plainStep
    rw [getD_set, hc]
    by_cases e : t.1.toNat = j
    · subst e
      rw [if_pos ⟨rfl, by omega⟩, if_pos rfl]
      grind
    · rw [if_neg (fun q => e q.1), if_neg e]
      grind
theorem rep_getD (j : Nat) : (List.replicate 256 (0 : Int)).getD j 0 = 0 := by
  rw [List.getD_eq_getElem?_getD, List.getElem?_replicate]
  split <;> rfl
theorem math_ok {tsF tsS : List (Int × Int)} {u v s : Int} {g ex : List Int} (hg : g.length = 256) (hF : ∀ t ∈ tsF, 0 ≤ t.1 ∧ t.1 < 256) (hS : ∀ t ∈ tsS, 0 ≤ t.1 ∧ t.1 < 256)
    (h0 : ∀ pos : Nat, pos < 256 → Cg (g.getD pos 0) (u * Sm 0 tsF pos + v * Sm 0 tsS pos + s * Dm 0 pos)) (hex : ∀ j : Nat, j < 256 → ex.getD j 0 = s * Dm 7 j) : MathOk zetas tsF tsS u v g ex := by
  intro j hj
  rw [fromNtt_get zetas 3303 g hg hj]
  have hn := Int.fmod_nonneg_of_pos ((lay zetas g 7).getD j 0 * 3303) (show (0 : Int) < 3329 by decide)
  have hlt := Int.fmod_lt_of_pos ((lay zetas g 7).getD j 0 * 3303) (show (0 : Int) < 3329 by decide)
  refine ⟨hn, by omega, Cg.fmod ?_⟩
  have k1 := lay_cg hg tsF tsS u v s h0 7 (Nat.le_refl _) j hj
  rw [S_end hj tsF hF, S_end hj tsS hS] at k1
  refine ((Cg.refl 128).mul (cg_fmod _)).trans ?_
  have e1 : (plainOf u v tsF tsS).getD j 0 = u * Pm tsF j + v * Pm tsS j := by
    unfold plainOf
    rw [plain_get v hj tsS _ (by rw [plains_len]; exact List.length_replicate ..) hS, plain_get u hj tsF _ (List.length_replicate ..) hF, rep_getD]
    omega
  rw [e1, hex j hj]
  refine Cg.trans ?_ (k1.trans (Cg.of_eq ?_))
  · exact ⟨127 * (lay zetas g 7).getD j 0, by omega⟩
  · grind
theorem ex_get (s : Int) : ∀ n : Nat, n ≤ 128 → ∀ pos : Nat, ((rangeKs 0 n).foldl (exStep s) (List.replicate 256 0)).getD pos 0 = if pos < 2 * n ∧ pos % 2 = 0 then s * pm 17 (256 - ((pos / 2 : Nat) : Int)) else 0 := by
  intro n
  induction n with
  | zero => intro _ pos; rw [if_neg (by omega)]; exact rep_getD pos
  | succ n ih =>
    intro hn pos
    have ih := ih (by omega)
    rw [rangeKs_succ, List.foldl_append, List.foldl_cons, List.foldl_nil, exStep, getD_set, exs_len, List.length_replicate, ih pos]
    have e1 : (2 * (0 + (n : Int))).toNat = 2 * n := by omega
    rw [e1]
    by_cases h1 : 2 * n = pos
    · subst h1
      rw [if_pos ⟨rfl, by omega⟩, if_pos (by omega), show 2 * n / 2 = n by omega, Int.zero_add]
    · rw [if_neg (by omega)]
      by_cases h2 : pos < 2 * n ∧ pos % 2 = 0
      · rw [if_pos h2, if_pos (by omega)]
      · rw [if_neg h2, if_neg (by omega)]
theorem exOf_get (s : Int) {j : Nat} (hj : j < 256) : (exOf s).getD j 0 = s * Dm 7 j := by
  unfold exOf
  rw [ex_get s 128 (Nat.le_refl _) j]
  have e7 : lN 7 = 256 := by decide
  unfold Dm
  rw [e7]
  by_cases h : j % 2 = 0
  · rw [if_pos (by omega), if_pos (by omega)]
  · rw [if_neg (by omega), if_neg (by omega), Int.mul_zero]
def Qm : List (Int × Int) → Int → Nat → Int
  | [], _, _ => 0
  | t :: ts, r, b => (if t.1.toNat % 2 = b then t.2 * r ^ (t.1.toNat / 2) else 0) + Qm ts r b
theorem Qm_cons (t : Int × Int) (ts : List (Int × Int)) (r : Int) (b : Nat) : Qm (t :: ts) r b = (if t.1.toNat % 2 = b then t.2 * r ^ (t.1.toNat / 2) else 0) + Qm ts r b := rfl
theorem pair_cg (r : Int) {b : Nat} (hb : b < 2) : ∀ (ts : List (Int × Int)) (c : List Int), c.length = 2 → (∀ t ∈ ts, 0 ≤ t.1 ∧ t.1 < 256) → Cg ((ts.foldl (pairStep r) c).getD b 0) (c.getD b 0 + Qm ts r b)
  | [], c, _, _ => Cg.of_eq (by unfold Qm; simp)
  | t :: ts, c, hc, h => by
    have h1 := h t (.head _)
    rw [List.foldl_cons]
    refine (pair_cg r hb ts (pairStep r c t) (by rw [pairStep, List.length_set]; exact hc) fun t' h' => h t' (.tail _ h')).trans ?_
    have e1 : (t.1.fmod 2).toNat = t.1.toNat % 2 := by rw [Int.fmod_eq_emod_of_nonneg _ (by decide)]; omega
    have e2 : (t.1.fdiv 2).toNat = t.1.toNat / 2 := by rw [Int.fdiv_eq_ediv_of_nonneg _ (by decide)]; omega
    have e3 := pm_cg r (t.1.fdiv 2)
    rw [e2] at e3
    rw [Qm_cons]
    unfold pairStep
    rw [getD_set, hc, e1]
    by_cases e : t.1.toNat % 2 = b
    · rw [if_pos ⟨e, by omega⟩, if_pos e, e]
      have := ((Cg.refl (c.getD b 0)).add ((Cg.refl t.2).mul e3)).add (Cg.refl (Qm ts r b))
      exact this.trans (Cg.of_eq (by omega))
    · rw [if_neg (fun q => e q.1), if_neg e]
      exact Cg.of_eq (by omega)
theorem vals_get (ts : List (Int × Int)) : ∀ (rs w : List Int) (pos : Nat), pos < w.length + 2 * rs.length → (rs.foldl (valStep ts) w).getD pos 0 = if pos < w.length then w.getD pos 0 else (pairOf ts (rs.getD ((pos - w.length) / 2) 0)).getD ((pos - w.length) % 2) 0
  | [], w, pos, h => by rw [if_pos (by simpa using h)]; rfl
  | r :: rs, w, pos, h => by
    rw [List.length_cons] at h
    have hl : (valStep ts w r).length = w.length + 2 := by unfold valStep; rw [List.length_append, pairOf_len]
    rw [List.foldl_cons, vals_get ts rs (valStep ts w r) pos (by omega), hl]
    by_cases h1 : pos < w.length
    · rw [if_pos (by omega), if_pos h1]
      unfold valStep
      rw [List.getD_eq_getElem?_getD, List.getD_eq_getElem?_getD, List.getElem?_append_left h1]
    · rw [if_neg h1]
      by_cases h2 : pos < w.length + 2
      · rw [if_pos h2, show (pos - w.length) / 2 = 0 by omega, show (pos - w.length) % 2 = pos - w.length by omega]
        unfold valStep
        rw [List.getD_eq_getElem?_getD, List.getElem?_append_right (by omega)]
        rfl
      · rw [if_neg h2, show (pos - w.length) / 2 = (pos - (w.length + 2)) / 2 + 1 by omega, show (pos - w.length) % 2 = (pos - (w.length + 2)) % 2 by omega]
        rfl
theorem S_zero (pos : Nat) : ∀ ts : List (Int × Int), Sm 0 ts pos = Qm ts (Rt 0 (pos / 2)) (pos % 2)
  | [] => rfl
  | t :: ts => by
    have e0 : lN 0 = 2 := rfl
    rw [Sm_cons, Qm_cons]
    unfold Tm
    rw [S_zero pos ts, e0, Int.pow_zero]
    split
    · grind
    · omega
theorem roots_get {i : Nat} (hi : i < 128) : roots62.getD i 0 = Rt 0 i := by
  unfold roots62 Rt
  have : (rowE 7)[i]? = some ((rowE 7).getD i 0) := by
    rw [List.getD_eq_getElem?_getD]
    have hl : i < (rowE 7).length := by rw [row7_len]; exact hi
    rw [List.getElem?_eq_getElem hl]
    rfl
  rw [List.getD_eq_getElem?_getD, List.getElem?_map, this]
  rfl
theorem vals_cg {ts : List (Int × Int)} (h : ∀ t ∈ ts, 0 ≤ t.1 ∧ t.1 < 256) {pos : Nat} (hpos : pos < 256) : Cg ((vals ts roots62).getD pos 0) (Sm 0 ts pos) := by
  unfold vals
  have hl : roots62.length = 128 := roots62_len
  rw [vals_get ts roots62 [] pos (by rw [hl]; simpa using hpos), if_neg (by simp), List.length_nil, Nat.sub_zero, roots_get (by omega), S_zero]
  have := pair_cg (Rt 0 (pos / 2)) (b := pos % 2) (by omega) ts [0, 0] rfl h
  refine this.trans (Cg.of_eq ?_)
  rcases Nat.mod_two_eq_zero_or_one pos with e | e <;> rw [e] <;> simp
theorem map_get (f : Nat → Int) {pos : Nat} (hpos : pos < 256) : ((List.range 256).map f).getD pos 0 = f pos := by
  rw [List.getD_eq_getElem?_getD, List.getElem?_map, List.getElem?_range hpos]
  rfl
theorem map_len (f : Nat → Int) : ((List.range 256).map f).length = 256 := by rw [List.length_map, List.length_range]
end Mine62
end
section
open PySem PySem.W PyProof.Rows
namespace Mine62
theorem D_zero (pos : Nat) : Dm 0 pos = if pos = 0 then 1 else 0 := by
  have e0 : lN 0 = 2 := rfl
  unfold Dm
  rw [e0]
  by_cases h : pos = 0
  · subst h
    decide +kernel
  · rw [if_neg (by omega), if_neg h]
theorem addZ0_get (ns : List Int) (hl : ns.length = 256) (k : Int) (pos : Nat) : Cg ((addZ0 ns k).getD pos 0) (ns.getD pos 0 + k * Dm 0 pos) := by
  unfold addZ0
  rw [getD_set, hl, D_zero]
  by_cases h : pos = 0
  · subst h
    rw [if_pos ⟨rfl, by decide⟩, if_pos rfl, Int.mul_one]
    exact cg_fmod _
  · rw [if_neg (fun q => h q.1.symm), if_neg h]
    exact Cg.of_eq (by omega)
theorem zero_ex (j : Nat) (_ : j < 256) : (List.replicate 256 (0 : Int)).getD j 0 = 0 * Dm 7 j := by rw [rep_getD, Int.zero_mul]
theorem all_math : AllMath := by
  intro tsF tsS sv hF hS ns1 ns2 e1 e2
  have c1 : ∀ pos : Nat, pos < 256 → Cg (ns1.getD pos 0) (Sm 0 tsF pos) := fun pos hp => by rw [e1]; exact vals_cg hF hp
  have c2 : ∀ pos : Nat, pos < 256 → Cg (ns2.getD pos 0) (Sm 0 tsS pos) := fun pos hp => by rw [e2]; exact vals_cg hS hp
  have l1 : ns1.length = 256 := by rw [e1]; exact vals_len256 _
  clear e1 e2
  refine ⟨?_, ?_, ?_, ?_, ?_, ?_, ?_, ?_⟩
  · refine math_ok (s := 0) (map_len _) hF hS (fun pos hp => ?_) zero_ex
    rw [map_get _ hp]
    exact (cg_fmod _).trans (((c1 pos hp).add (c2 pos hp)).trans (Cg.of_eq (by omega)))
  · refine math_ok (s := 0) (map_len _) hF hS (fun pos hp => ?_) zero_ex
    rw [map_get _ hp]
    exact (cg_fmod _).trans (((c1 pos hp).sub (c2 pos hp)).trans (Cg.of_eq (by omega)))
  · refine math_ok (s := 0) (map_len _) hF hS (fun pos hp => ?_) zero_ex
    rw [map_get _ hp]
    exact (cg_fmod _).trans (((c2 pos hp).mul (Cg.refl sv)).trans (Cg.of_eq (by grind)))
  · refine math_ok (s := 0) (map_len _) hF hS (fun pos hp => ?_) zero_ex
    rw [map_get _ hp]
    refine (cg_fmod _).trans ?_
    rw [map_get _ hp]
    exact (((cg_fmod _).trans ((c1 pos hp).mul (Cg.refl sv))).add (c2 pos hp)).trans (Cg.of_eq (by grind))
  · refine math_ok (s := 0) (map_len _) hF hS (fun pos hp => ?_) zero_ex
    rw [map_get _ hp]
    refine (cg_fmod _).trans ?_
    rw [map_get _ hp]
    exact (((cg_fmod _).trans (((addZ0_get ns1 l1 0 pos).trans ((c1 pos hp).add (Cg.refl _))).add (c2 pos hp))).add (c1 pos hp)).trans (Cg.of_eq (by grind))
  · refine math_ok (s := 0) (map_len _) hF hS (fun pos hp => ?_) zero_ex
    rw [map_get _ hp]
    refine (cg_fmod _).trans ?_
    rw [map_get _ hp]
    exact (((cg_fmod _).trans ((c1 pos hp).sub (c2 pos hp))).mul (Cg.refl sv)).trans (Cg.of_eq (by grind))
  · refine math_ok (s := 0) (map_len _) hF hS (fun pos hp => ?_) zero_ex
    rw [map_get _ hp]
    exact (cg_fmod _).trans ((c1 pos hp).neg.trans (Cg.of_eq (by grind)))
  · refine math_ok (s := sv) (by unfold addZ0; rw [List.length_set]; exact l1) hF hS (fun pos hp => ?_) (fun j hj => exOf_get sv hj)
    exact (addZ0_get ns1 l1 sv pos).trans (((c1 pos hp).add (Cg.refl _)).trans (Cg.of_eq (by grind)))
end Mine62
end
section
open PySem PySem.W PyProof.Rows PySem.Calls PyProof.V PySem.Spec
namespace Mine62
theorem draws_bits {sc : List Int} (h : PyData.layable0 (.list (sc.map .int)) = true) : ∀ k : Int, 0 ≤ k → k < 100 → Builtin.Int.intBits (draw sc k) ≤ 1048576 := by
  intro k h0 h1
  unfold draw
  split
  · refine getD_bits (fun x hx => ?_) _
    exact PySem.intBits_le_of_item hx h
  · have h2 : k * k ≤ 100 * 100 := Int.mul_le_mul (by omega) (by omega) h0 (by omega)
    have h3 : 0 ≤ k * k := Int.mul_nonneg h0 h0
    have h4 : 23 * k * k = 23 * (k * k) := by rw [Int.mul_assoc]
    rw [h4]
    exact Nat.le_trans (intBits_le_64 (by omega) (by omega)) (by decide)
end Mine62
local macro_rules | `(tactic| k_qdec) => `(tactic| decide +kernel)
set_option maxRecDepth 100000 in
set_option maxHeartbeats 8000000 in
theorem PySem.Challenge.cw_yi0062_01_holds : PySem.Challenge.rw_yi0062_01.Holds := by
  refine Mine62.hd ?_
  k_go0
  all_goals try k_fold
  (rename Fr _ _ _ _ => F1)
  (rename News _ _ _ _ => N1)
  (rename Below _ _ _ _ => B1)
  (rename Top _ _ _ _ _ _ => T1)
  (rename IntsAre _ _ => I1)
  (rename Heap.IsList _ _ _ => L1)
  (rename Frag.In _ _ => X1)
  (rename ¬ (_ : Int) < _ => hlen)
  (rename PyData.layable0 _ = true => hlay)
  refine Mine62.law_walk L1 I1 (by omega) (Mine62.Stop.out (Mine62.draws_bits hlay)) (Mine62.Stop.out Mine62.all_math) ?hE rfl rfl B1 (Mine62.fr_kstB _ F1 (by kst_all)) X1 T1 N1 ?hret
  case hE => passes_own
  case hret =>
    intro m' h' tk' F'
    k_steps
end
