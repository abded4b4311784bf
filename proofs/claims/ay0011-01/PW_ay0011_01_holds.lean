import PyProof.Rows.All
import Wide.All
import OpenK.AllK
import Wide.FinOn
import PySem.Challenge.RW_ay0011_01
open PySem PySem.W PyProof.Rows PySem.Spec PySem.Calls
set_option Elab.async false
set_option compiler.extract_closed false
set_option maxRecDepth 100000
set_option linter.all false
namespace Mine
set_option maxHeartbeats 8000000
/-- the objects that stand before the text's first line, as a tree -/
noncomputable def bootT (P : Params) : BT := .node (boot_o_0 P)
  (.node (boot_o_1 P) (.node (boot_o_3 P) (.node (boot_o_7 P) .nil .nil) .nil) (.node (boot_o_5 P) (.node (boot_o_9 P) .nil .nil) .nil))
  (.node (boot_o_2 P) (.node (boot_o_4 P) (.node (boot_o_8 P) .nil .nil) .nil) (.node (boot_o_6 P) (.node (boot_o_10 P) .nil .nil) .nil))
/-- the top's run over the tree -/
noncomputable def topRunT (tb : String → Option Builtin) (p : Program) (w : World) (n₀ : Nat) (ann : Option Value) (n : Nat) : SharedT → Thread → Option SharedT :=
  @Nat.rec (fun _ => SharedT → Thread → Option SharedT) (fun _ _ => none) (fun _ ih s t => match through t with
    | true => some s
    | false => match stepOk n₀ ann t with
      | false => none
      | true => match stepT (denote tb) p w s t with
        | some x => ih x.1 x.2
        | none => none) n
theorem topRunT_tw (p : Program) (w : World) (n₀ : Nat) (ann : Option Value) (n : Nat) (s : SharedT) (t : Thread) : topRunT treeTable p w n₀ ann n s t =
  @Nat.rec (fun _ => SharedT → Thread → Option SharedT) (fun _ _ => none) (fun _ ih s t => match through t with
    | true => some s
    | false => match PySem.W.Fast.tw6613529449190102663 n₀ ann t with
      | false => none
      | true => match PySem.W.Fast.tw10156331382660048174 (PySem.W.Fast.tw11892475500146522536 PySem.W.Fast.tw14364793385576792824) p w s t with
        | some x => ih x.1 x.2
        | none => none) n s t := by
  rw [← PySem.W.Fast.te6613529449190102663, ← PySem.W.Fast.te10156331382660048174, ← PySem.W.Fast.te11892475500146522536, ← PySem.W.Fast.te14364793385576792824]
  rfl
theorem topRunT_of {tb : String → Option Builtin} {p : Program} {w : World} {n₀ : Nat} {ann : Option Value} : ∀ {n : Nat} {s s' : SharedT} {t : Thread}, topRunT tb p w n₀ ann n s t = some s' → topRun tb p w n₀ ann n s.abs t = some s'.abs
  | 0, _, _, _, h => by cases h
  | n + 1, s, s', t, h => by
    have h2 : (match through t with
      | true => some s
      | false => match stepOk n₀ ann t with
        | false => none
        | true => match stepT (denote tb) p w s t with
          | some x => topRunT tb p w n₀ ann n x.1 x.2
          | none => none) = some s' := h
    unfold topRun
    cases ht : through t with
    | true =>
      rw [ht] at h2
      cases h2
      rfl
    | false =>
      rw [ht] at h2
      cases hk : stepOk n₀ ann t with
      | false => rw [hk] at h2; cases h2
      | true =>
        rw [hk] at h2
        dsimp only at h2 ⊢
        cases hs : stepT (denote tb) p w s t with
        | none => rw [hs] at h2; cases h2
        | some x =>
          rw [hs] at h2
          obtain ⟨s₁, t₁⟩ := x
          rw [stepT_spec hs]
          exact topRunT_of h2
theorem bootT_abs (P : Params) : boot_heap P = absHeap (bootT P) 11 {} := by kernel_rfl

/-- the top's run in one: what the looks see behind it -/
theorem leftOnce {p q : Program} {loose : List Str} {Xt : Shared → Bool} {α : Type} {Yf : Shared → α} {Ya : World → α} {N M : Nat} {ann : Option Value}
    (e : opening p = plainProg p.main.scope.names) (hN : Nat.ble 600 N = true) (f : ∀ s, fenceModules? p s = some s) (le : Nat.ble M N = true)
    (size : ∀ w : World, ((boot_heap w.params).isNs mainGlobals, (boot_heap w.params).nsMap mainGlobals "__annotations__") = (true, ann))
    (run : ∀ (w : World) (os : OsState), (topRunT treeTable p w 11 ann M ⟨bootT w.params, 11, {}, #[], boot_drawn, boot_toks, os⟩ (topStub p)).map
      (fun s => (staticsOk (importedModules p.main.body) (boot_heap w.params) s.abs.heap && namesBound p s.abs.heap && gensDone s.abs && laidKept (boot_heap w.params) s.abs.heap,
        openSeen q loose (importedModules p.main.body) Xt true s.abs, Yf s.abs)) = some (true, openGood q loose, Ya w)) : LeftO p q loose Xt Yf Ya N := fun w => by
  obtain ⟨⟨h, gs, d, k, os⟩, e1, e2⟩ := Option.map_eq_some_iff.mp (boot_open e hN f w)
  obtain ⟨rfl, rfl, rfl, rfl⟩ : h = boot_heap w.params ∧ gs = #[] ∧ d = boot_drawn ∧ k = boot_toks := by simpa using e2
  obtain ⟨z1, z3⟩ : _ ∧ _ := by simpa only [Prod.mk.injEq] using size w
  obtain ⟨s₁, r1, l⟩ := Option.map_eq_some_iff.mp (run w os)
  obtain ⟨l1, l2, l3⟩ : _ ∧ _ ∧ _ := by simpa only [Prod.mk.injEq] using l
  have r := topRun_mono (N - M) _ _ _ _ (topRunT_of r1)
  rw [show M + (N - M) = N by have := Nat.le_of_ble_eq_true le; omega] at r
  have z2 : (boot_heap w.params).objs.size = 11 := by rw [bootT_abs, absHeap_size]
  have hs : (SharedT.abs ⟨bootT w.params, 11, {}, #[], boot_drawn, boot_toks, os⟩ : Shared) = ⟨boot_heap w.params, #[], boot_drawn, boot_toks, os⟩ := by
    unfold SharedT.abs
    rw [← bootT_abs]
  rw [hs] at r
  have t : topFrom treeTable p w N ⟨boot_heap w.params, #[], boot_drawn, boot_toks, os⟩ = some s₁.abs := by
    unfold topFrom
    dsimp only
    rw [z1, z2, z3, r]
    show (match staticsOk (importedModules p.main.body) (boot_heap w.params) s₁.abs.heap && namesBound p s₁.abs.heap && gensDone s₁.abs && laidKept (boot_heap w.params) s₁.abs.heap with | true => _ | false => _) = _
    rw [l1]
  unfold openEnds
  rw [e1]
  show (topFrom treeTable p w N _).map _ = _
  rw [t]
  exact congrArg some (Prod.ext l2 l3)
/-- the text without its four lines that name it -/
noncomputable def viewQ : Program := view PySem.Challenge.pw_ay0011_01 [0, 2, 3, 4, 5, 6, 7, 8, 9, 11, 12, 14, 15, 17, 18, 19]
theorem a1 : opening PySem.Challenge.pw_ay0011_01 = plainProg PySem.Challenge.pw_ay0011_01.main.scope.names := by kernel_rfl
theorem a2 : ∀ s, fenceModules? PySem.Challenge.pw_ay0011_01 s = some s := fun s => by kernel_rfl
theorem a3 : ∀ w : World, ((boot_heap w.params).isNs mainGlobals, (boot_heap w.params).nsMap mainGlobals "__annotations__") = (true, some (.ref 6)) := fun w => by kernel_rfl
theorem lb {a b : Bool} (x : a = true) (y : b = true) : (a && b) = true := by rw [x, y]; rfl
theorem nr {f : Look → List Stmt → Bool} {lk lk' : Look} {b : List Stmt} (e : lk = lk') (h : f lk' b = true) : f lk b = true := by rw [e]; exact h
/-- the law's row is well said: each look by a check of its own -/
theorem lawSaid : PySem.Challenge.rw_ay0011_01.wellSaid = true := by
  rw [PySem.W.Fast.te9446332074065402090]
  unfold PySem.W.Fast.tw9446332074065402090
  iterate 18 (refine lb ?_ ?_)
  · unfold PySem.W.Fast.tw17960256430627541270
    iterate 2 (refine lb ?_ ?_)
    · unfold PySem.W.Fast.tw2436336058641802641
      iterate 13 (refine lb ?_ ?_)
      · unfold PySem.W.Fast.tw12908688711261696721
        iterate 5 (refine lb ?_ ?_)
        iterate 4 (as_aux_lemma => kernel_rfl)
        · refine nr (f := PySem.W.Fast.tw8326940854005059898) (lk' := { strict := false, foot := none, bare := [] }) (by as_aux_lemma => kernel_rfl) ?_
          as_aux_lemma => kernel_rfl
        as_aux_lemma => kernel_rfl
      all_goals (as_aux_lemma => kernel_rfl)
    all_goals (as_aux_lemma => kernel_rfl)
  all_goals (as_aux_lemma => kernel_rfl)
-- the head's two looks by one check each: the kit's own head is 68 MB compiled
local macro_rules | `(tactic| o_law) => `(tactic| refine holds_law lawSaid fun said => ?_)
theorem headOf (H : Hook) {d : DefRec} {kwd : List (Str × Expr)} (hl : LeftO PySem.Challenge.rw_ay0011_01.row.prog viewQ [Str.ofString "MatrixGeneric"] (fun s => xlAt viewQ [] s && recOk [] s) H.obs H.val 5664)
    (hdef : defOf viewQ PySem.Challenge.rw_ay0011_01.row.name = some (d, kwd)) (hp : PySem.Challenge.rw_ay0011_01.row.prog.theDef PySem.Challenge.rw_ay0011_01.row.name = some (d.params, d.body, d.scope)) (hk : kwWritten? d.params.kwonlyargs d.params.kw_defaults = some kwd)
    (k1 : PySem.Challenge.rw_ay0011_01.row.wellSaid = true) (hw : PySem.Challenge.rw_ay0011_01.row.toRowW.promised)
    (hc : WalkO viewQ [Str.ofString "MatrixGeneric"] (XL viewQ []) H.says PySem.Challenge.rw_ay0011_01.row.toRowW d kwd fun f vs => PySem.call f vs) : PySem.Challenge.rw_ay0011_01.row.Holds :=
  holds_open hl H.of H.keeps (fun s e => xl_of s (Bool.and_eq_true_iff.mp e).1) XL.keeps hdef hp hk (fun s e => recFacts_of (Bool.and_eq_true_iff.mp e).2) (by rfl) k1 (by decide +kernel) ⟨rfl, rfl, rfl, rfl, rfl, by decide +kernel⟩ hw hc
local macro_rules | `(tactic| o_head ($f $k $a $e)) => `(tactic| (
  refine headOf (kmHook $k $a $e [142, 178, 225]) ?hl (by rfl) (by rfl) (by rfl) (by assumption) ?hw ?hc
  (case hl => exact leftOnce (M := 5664) (p := PySem.Challenge.pw_ay0011_01) a1 (by decide) a2 (by decide) a3 (fun w os => by (rw [topRunT_tw]; kernel_rfl)))))
open_top hd for PySem.Challenge.rw_ay0011_01
end Mine
local macro_rules
  | `(tactic| obtain ⟨$[$ps],*⟩ := $e:term) => do
    let n := ps.size
    let leaf (i : Nat) : Lean.Syntax := ps[i]!.raw[0][0][0]
    let sk : Lean.TSyntax `tactic ← `(tactic| skip)
    let cl : Lean.TSyntax `tactic ← if e.raw.isIdent then `(tactic| try clear $(⟨e.raw⟩):ident) else pure sk
    let mut acc : Lean.TSyntax `tactic ← `(tactic| rcases $e:term with ⟨$[$ps],*⟩)
    let mut eqs := false
    for i in [0:n] do if (leaf i)[0].getId == `rfl then eqs := true
    for km in [0:min n 8 * 7] do
      let k := km / 7
      let m := km % 7 + 1
      if k + m < 2 || k + m > min n 11 then continue
      let mut pats : Array (Lean.TSyntax `rintroPat) := #[]
      let mut t : Lean.TSyntax `tactic := sk
      for i in [0:k + m] do
        let rest : Array Lean.Syntax := if i + 1 == k + m && k + m < n then (ps.extract i n).map (·.raw) else if (leaf i).getKind == `Lean.Parser.Tactic.rcasesPat.tuple then (leaf i)[1].getSepArgs else #[]
        let x := Lean.mkIdent (Lean.Name.mkSimple s!"hx9{i}")
        let p : Lean.Syntax := if rest.isEmpty then leaf i else Lean.mkNode `Lean.Parser.Tactic.rcasesPat.one #[x]
        pats := pats.push ⟨Lean.mkNode `Lean.Parser.Tactic.rintroPat.one #[p]⟩
        if !rest.isEmpty then
          let rs : Array (Lean.TSyntax `Lean.Parser.Tactic.rcasesPatLo) := rest.map (⟨·⟩)
          t ← `(tactic| ($t:tactic; obtain ⟨$[$rs],*⟩ := $x:ident))
      let u := t
      acc ← `(tactic| first | ((with_reducible refine $(Lean.mkIdent (`Mine ++ Lean.Name.mkSimple s!"xE{k}_{m}")) $e ?_); $cl:tactic; rintro $pats*; $u:tactic) | $acc:tactic)
    if eqs then `(tactic| ((with_reducible refine $(Lean.mkIdent `Mine.foldGoal) ?_); intro hneg; $acc:tactic; refine hneg ?_; clear hneg)) else return acc
section
local macro_rules | `(tactic| omega) => `(tactic| lia)
namespace Mine
theorem xE0_2 {p90 p91 : Prop} {g91 : Prop} (h : p90 ∧ p91) (k : p90 → p91 → g91) : g91 := k h.1 h.2
theorem xE0_3 {p90 p91 p92 : Prop} {g91 : Prop} (h : p90 ∧ p91 ∧ p92) (k : p90 → p91 → p92 → g91) : g91 := k h.1 h.2.1 h.2.2
theorem xE0_4 {p90 p91 p92 p93 : Prop} {g91 : Prop} (h : p90 ∧ p91 ∧ p92 ∧ p93) (k : p90 → p91 → p92 → p93 → g91) : g91 := k h.1 h.2.1 h.2.2.1 h.2.2.2
theorem xE0_5 {p90 p91 p92 p93 p94 : Prop} {g91 : Prop} (h : p90 ∧ p91 ∧ p92 ∧ p93 ∧ p94) (k : p90 → p91 → p92 → p93 → p94 → g91) : g91 := k h.1 h.2.1 h.2.2.1 h.2.2.2.1 h.2.2.2.2
theorem xE0_6 {p90 p91 p92 p93 p94 p95 : Prop} {g91 : Prop} (h : p90 ∧ p91 ∧ p92 ∧ p93 ∧ p94 ∧ p95) (k : p90 → p91 → p92 → p93 → p94 → p95 → g91) : g91 := k h.1 h.2.1 h.2.2.1 h.2.2.2.1 h.2.2.2.2.1 h.2.2.2.2.2
theorem xE0_7 {p90 p91 p92 p93 p94 p95 p96 : Prop} {g91 : Prop} (h : p90 ∧ p91 ∧ p92 ∧ p93 ∧ p94 ∧ p95 ∧ p96) (k : p90 → p91 → p92 → p93 → p94 → p95 → p96 → g91) : g91 := k h.1 h.2.1 h.2.2.1 h.2.2.2.1 h.2.2.2.2.1 h.2.2.2.2.2.1 h.2.2.2.2.2.2
theorem xE1_1 {a90 : Type} {p90 : a90 → Prop} {g91 : Prop} (h : ∃ x0, p90 x0) (k : ∀ x0, p90 x0 → g91) : g91 := Exists.elim h k
theorem xE1_2 {a90 : Type} {p90 p91 : a90 → Prop} {g91 : Prop} (h : ∃ x0, p90 x0 ∧ p91 x0) (k : ∀ x0, p90 x0 → p91 x0 → g91) : g91 := Exists.elim h fun x0 h => xE0_2 h (k x0)
theorem xE1_3 {a90 : Type} {p90 p91 p92 : a90 → Prop} {g91 : Prop} (h : ∃ x0, p90 x0 ∧ p91 x0 ∧ p92 x0) (k : ∀ x0, p90 x0 → p91 x0 → p92 x0 → g91) : g91 := Exists.elim h fun x0 h => xE0_3 h (k x0)
theorem xE1_4 {a90 : Type} {p90 p91 p92 p93 : a90 → Prop} {g91 : Prop} (h : ∃ x0, p90 x0 ∧ p91 x0 ∧ p92 x0 ∧ p93 x0) (k : ∀ x0, p90 x0 → p91 x0 → p92 x0 → p93 x0 → g91) : g91 := Exists.elim h fun x0 h => xE0_4 h (k x0)
theorem xE1_5 {a90 : Type} {p90 p91 p92 p93 p94 : a90 → Prop} {g91 : Prop} (h : ∃ x0, p90 x0 ∧ p91 x0 ∧ p92 x0 ∧ p93 x0 ∧ p94 x0) (k : ∀ x0, p90 x0 → p91 x0 → p92 x0 → p93 x0 → p94 x0 → g91) : g91 := Exists.elim h fun x0 h => xE0_5 h (k x0)
theorem xE1_6 {a90 : Type} {p90 p91 p92 p93 p94 p95 : a90 → Prop} {g91 : Prop} (h : ∃ x0, p90 x0 ∧ p91 x0 ∧ p92 x0 ∧ p93 x0 ∧ p94 x0 ∧ p95 x0) (k : ∀ x0, p90 x0 → p91 x0 → p92 x0 → p93 x0 → p94 x0 → p95 x0 → g91) : g91 := Exists.elim h fun x0 h => xE0_6 h (k x0)
theorem xE1_7 {a90 : Type} {p90 p91 p92 p93 p94 p95 p96 : a90 → Prop} {g91 : Prop} (h : ∃ x0, p90 x0 ∧ p91 x0 ∧ p92 x0 ∧ p93 x0 ∧ p94 x0 ∧ p95 x0 ∧ p96 x0) (k : ∀ x0, p90 x0 → p91 x0 → p92 x0 → p93 x0 → p94 x0 → p95 x0 → p96 x0 → g91) : g91 := Exists.elim h fun x0 h => xE0_7 h (k x0)
theorem xE2_1 {a90 a91 : Type} {p90 : a90 → a91 → Prop} {g91 : Prop} (h : ∃ x0 x1, p90 x0 x1) (k : ∀ x0 x1, p90 x0 x1 → g91) : g91 := Exists.elim h fun x0 h => xE1_1 h (k x0)
theorem xE2_2 {a90 a91 : Type} {p90 p91 : a90 → a91 → Prop} {g91 : Prop} (h : ∃ x0 x1, p90 x0 x1 ∧ p91 x0 x1) (k : ∀ x0 x1, p90 x0 x1 → p91 x0 x1 → g91) : g91 := Exists.elim h fun x0 h => xE1_2 h (k x0)
theorem xE2_3 {a90 a91 : Type} {p90 p91 p92 : a90 → a91 → Prop} {g91 : Prop} (h : ∃ x0 x1, p90 x0 x1 ∧ p91 x0 x1 ∧ p92 x0 x1) (k : ∀ x0 x1, p90 x0 x1 → p91 x0 x1 → p92 x0 x1 → g91) : g91 := Exists.elim h fun x0 h => xE1_3 h (k x0)
theorem xE2_4 {a90 a91 : Type} {p90 p91 p92 p93 : a90 → a91 → Prop} {g91 : Prop} (h : ∃ x0 x1, p90 x0 x1 ∧ p91 x0 x1 ∧ p92 x0 x1 ∧ p93 x0 x1) (k : ∀ x0 x1, p90 x0 x1 → p91 x0 x1 → p92 x0 x1 → p93 x0 x1 → g91) : g91 := Exists.elim h fun x0 h => xE1_4 h (k x0)
theorem xE2_5 {a90 a91 : Type} {p90 p91 p92 p93 p94 : a90 → a91 → Prop} {g91 : Prop} (h : ∃ x0 x1, p90 x0 x1 ∧ p91 x0 x1 ∧ p92 x0 x1 ∧ p93 x0 x1 ∧ p94 x0 x1) (k : ∀ x0 x1, p90 x0 x1 → p91 x0 x1 → p92 x0 x1 → p93 x0 x1 → p94 x0 x1 → g91) : g91 := Exists.elim h fun x0 h => xE1_5 h (k x0)
theorem xE2_6 {a90 a91 : Type} {p90 p91 p92 p93 p94 p95 : a90 → a91 → Prop} {g91 : Prop} (h : ∃ x0 x1, p90 x0 x1 ∧ p91 x0 x1 ∧ p92 x0 x1 ∧ p93 x0 x1 ∧ p94 x0 x1 ∧ p95 x0 x1) (k : ∀ x0 x1, p90 x0 x1 → p91 x0 x1 → p92 x0 x1 → p93 x0 x1 → p94 x0 x1 → p95 x0 x1 → g91) : g91 := Exists.elim h fun x0 h => xE1_6 h (k x0)
theorem xE2_7 {a90 a91 : Type} {p90 p91 p92 p93 p94 p95 p96 : a90 → a91 → Prop} {g91 : Prop} (h : ∃ x0 x1, p90 x0 x1 ∧ p91 x0 x1 ∧ p92 x0 x1 ∧ p93 x0 x1 ∧ p94 x0 x1 ∧ p95 x0 x1 ∧ p96 x0 x1) (k : ∀ x0 x1, p90 x0 x1 → p91 x0 x1 → p92 x0 x1 → p93 x0 x1 → p94 x0 x1 → p95 x0 x1 → p96 x0 x1 → g91) : g91 := Exists.elim h fun x0 h => xE1_7 h (k x0)
theorem xE3_1 {a90 a91 a92 : Type} {p90 : a90 → a91 → a92 → Prop} {g91 : Prop} (h : ∃ x0 x1 x2, p90 x0 x1 x2) (k : ∀ x0 x1 x2, p90 x0 x1 x2 → g91) : g91 := Exists.elim h fun x0 h => xE2_1 h (k x0)
theorem xE3_2 {a90 a91 a92 : Type} {p90 p91 : a90 → a91 → a92 → Prop} {g91 : Prop} (h : ∃ x0 x1 x2, p90 x0 x1 x2 ∧ p91 x0 x1 x2) (k : ∀ x0 x1 x2, p90 x0 x1 x2 → p91 x0 x1 x2 → g91) : g91 := Exists.elim h fun x0 h => xE2_2 h (k x0)
theorem xE3_3 {a90 a91 a92 : Type} {p90 p91 p92 : a90 → a91 → a92 → Prop} {g91 : Prop} (h : ∃ x0 x1 x2, p90 x0 x1 x2 ∧ p91 x0 x1 x2 ∧ p92 x0 x1 x2) (k : ∀ x0 x1 x2, p90 x0 x1 x2 → p91 x0 x1 x2 → p92 x0 x1 x2 → g91) : g91 := Exists.elim h fun x0 h => xE2_3 h (k x0)
theorem xE3_4 {a90 a91 a92 : Type} {p90 p91 p92 p93 : a90 → a91 → a92 → Prop} {g91 : Prop} (h : ∃ x0 x1 x2, p90 x0 x1 x2 ∧ p91 x0 x1 x2 ∧ p92 x0 x1 x2 ∧ p93 x0 x1 x2) (k : ∀ x0 x1 x2, p90 x0 x1 x2 → p91 x0 x1 x2 → p92 x0 x1 x2 → p93 x0 x1 x2 → g91) : g91 := Exists.elim h fun x0 h => xE2_4 h (k x0)
theorem xE3_5 {a90 a91 a92 : Type} {p90 p91 p92 p93 p94 : a90 → a91 → a92 → Prop} {g91 : Prop} (h : ∃ x0 x1 x2, p90 x0 x1 x2 ∧ p91 x0 x1 x2 ∧ p92 x0 x1 x2 ∧ p93 x0 x1 x2 ∧ p94 x0 x1 x2) (k : ∀ x0 x1 x2, p90 x0 x1 x2 → p91 x0 x1 x2 → p92 x0 x1 x2 → p93 x0 x1 x2 → p94 x0 x1 x2 → g91) : g91 := Exists.elim h fun x0 h => xE2_5 h (k x0)
theorem xE3_6 {a90 a91 a92 : Type} {p90 p91 p92 p93 p94 p95 : a90 → a91 → a92 → Prop} {g91 : Prop} (h : ∃ x0 x1 x2, p90 x0 x1 x2 ∧ p91 x0 x1 x2 ∧ p92 x0 x1 x2 ∧ p93 x0 x1 x2 ∧ p94 x0 x1 x2 ∧ p95 x0 x1 x2) (k : ∀ x0 x1 x2, p90 x0 x1 x2 → p91 x0 x1 x2 → p92 x0 x1 x2 → p93 x0 x1 x2 → p94 x0 x1 x2 → p95 x0 x1 x2 → g91) : g91 := Exists.elim h fun x0 h => xE2_6 h (k x0)
theorem xE3_7 {a90 a91 a92 : Type} {p90 p91 p92 p93 p94 p95 p96 : a90 → a91 → a92 → Prop} {g91 : Prop} (h : ∃ x0 x1 x2, p90 x0 x1 x2 ∧ p91 x0 x1 x2 ∧ p92 x0 x1 x2 ∧ p93 x0 x1 x2 ∧ p94 x0 x1 x2 ∧ p95 x0 x1 x2 ∧ p96 x0 x1 x2) (k : ∀ x0 x1 x2, p90 x0 x1 x2 → p91 x0 x1 x2 → p92 x0 x1 x2 → p93 x0 x1 x2 → p94 x0 x1 x2 → p95 x0 x1 x2 → p96 x0 x1 x2 → g91) : g91 := Exists.elim h fun x0 h => xE2_7 h (k x0)
theorem xE4_1 {a90 a91 a92 a93 : Type} {p90 : a90 → a91 → a92 → a93 → Prop} {g91 : Prop} (h : ∃ x0 x1 x2 x3, p90 x0 x1 x2 x3) (k : ∀ x0 x1 x2 x3, p90 x0 x1 x2 x3 → g91) : g91 := Exists.elim h fun x0 h => xE3_1 h (k x0)
theorem xE4_2 {a90 a91 a92 a93 : Type} {p90 p91 : a90 → a91 → a92 → a93 → Prop} {g91 : Prop} (h : ∃ x0 x1 x2 x3, p90 x0 x1 x2 x3 ∧ p91 x0 x1 x2 x3) (k : ∀ x0 x1 x2 x3, p90 x0 x1 x2 x3 → p91 x0 x1 x2 x3 → g91) : g91 := Exists.elim h fun x0 h => xE3_2 h (k x0)
theorem xE4_3 {a90 a91 a92 a93 : Type} {p90 p91 p92 : a90 → a91 → a92 → a93 → Prop} {g91 : Prop} (h : ∃ x0 x1 x2 x3, p90 x0 x1 x2 x3 ∧ p91 x0 x1 x2 x3 ∧ p92 x0 x1 x2 x3) (k : ∀ x0 x1 x2 x3, p90 x0 x1 x2 x3 → p91 x0 x1 x2 x3 → p92 x0 x1 x2 x3 → g91) : g91 := Exists.elim h fun x0 h => xE3_3 h (k x0)
theorem xE4_4 {a90 a91 a92 a93 : Type} {p90 p91 p92 p93 : a90 → a91 → a92 → a93 → Prop} {g91 : Prop} (h : ∃ x0 x1 x2 x3, p90 x0 x1 x2 x3 ∧ p91 x0 x1 x2 x3 ∧ p92 x0 x1 x2 x3 ∧ p93 x0 x1 x2 x3) (k : ∀ x0 x1 x2 x3, p90 x0 x1 x2 x3 → p91 x0 x1 x2 x3 → p92 x0 x1 x2 x3 → p93 x0 x1 x2 x3 → g91) : g91 := Exists.elim h fun x0 h => xE3_4 h (k x0)
theorem xE4_5 {a90 a91 a92 a93 : Type} {p90 p91 p92 p93 p94 : a90 → a91 → a92 → a93 → Prop} {g91 : Prop} (h : ∃ x0 x1 x2 x3, p90 x0 x1 x2 x3 ∧ p91 x0 x1 x2 x3 ∧ p92 x0 x1 x2 x3 ∧ p93 x0 x1 x2 x3 ∧ p94 x0 x1 x2 x3) (k : ∀ x0 x1 x2 x3, p90 x0 x1 x2 x3 → p91 x0 x1 x2 x3 → p92 x0 x1 x2 x3 → p93 x0 x1 x2 x3 → p94 x0 x1 x2 x3 → g91) : g91 := Exists.elim h fun x0 h => xE3_5 h (k x0)
theorem xE4_6 {a90 a91 a92 a93 : Type} {p90 p91 p92 p93 p94 p95 : a90 → a91 → a92 → a93 → Prop} {g91 : Prop} (h : ∃ x0 x1 x2 x3, p90 x0 x1 x2 x3 ∧ p91 x0 x1 x2 x3 ∧ p92 x0 x1 x2 x3 ∧ p93 x0 x1 x2 x3 ∧ p94 x0 x1 x2 x3 ∧ p95 x0 x1 x2 x3) (k : ∀ x0 x1 x2 x3, p90 x0 x1 x2 x3 → p91 x0 x1 x2 x3 → p92 x0 x1 x2 x3 → p93 x0 x1 x2 x3 → p94 x0 x1 x2 x3 → p95 x0 x1 x2 x3 → g91) : g91 := Exists.elim h fun x0 h => xE3_6 h (k x0)
theorem xE4_7 {a90 a91 a92 a93 : Type} {p90 p91 p92 p93 p94 p95 p96 : a90 → a91 → a92 → a93 → Prop} {g91 : Prop} (h : ∃ x0 x1 x2 x3, p90 x0 x1 x2 x3 ∧ p91 x0 x1 x2 x3 ∧ p92 x0 x1 x2 x3 ∧ p93 x0 x1 x2 x3 ∧ p94 x0 x1 x2 x3 ∧ p95 x0 x1 x2 x3 ∧ p96 x0 x1 x2 x3) (k : ∀ x0 x1 x2 x3, p90 x0 x1 x2 x3 → p91 x0 x1 x2 x3 → p92 x0 x1 x2 x3 → p93 x0 x1 x2 x3 → p94 x0 x1 x2 x3 → p95 x0 x1 x2 x3 → p96 x0 x1 x2 x3 → g91) : g91 := Exists.elim h fun x0 h => xE3_7 h (k x0)
theorem xE5_1 {a90 a91 a92 a93 a94 : Type} {p90 : a90 → a91 → a92 → a93 → a94 → Prop} {g91 : Prop} (h : ∃ x0 x1 x2 x3 x4, p90 x0 x1 x2 x3 x4) (k : ∀ x0 x1 x2 x3 x4, p90 x0 x1 x2 x3 x4 → g91) : g91 := Exists.elim h fun x0 h => xE4_1 h (k x0)
theorem xE5_3 {a90 a91 a92 a93 a94 : Type} {p90 p91 p92 : a90 → a91 → a92 → a93 → a94 → Prop} {g91 : Prop} (h : ∃ x0 x1 x2 x3 x4, p90 x0 x1 x2 x3 x4 ∧ p91 x0 x1 x2 x3 x4 ∧ p92 x0 x1 x2 x3 x4) (k : ∀ x0 x1 x2 x3 x4, p90 x0 x1 x2 x3 x4 → p91 x0 x1 x2 x3 x4 → p92 x0 x1 x2 x3 x4 → g91) : g91 := Exists.elim h fun x0 h => xE4_3 h (k x0)
theorem xE5_4 {a90 a91 a92 a93 a94 : Type} {p90 p91 p92 p93 : a90 → a91 → a92 → a93 → a94 → Prop} {g91 : Prop} (h : ∃ x0 x1 x2 x3 x4, p90 x0 x1 x2 x3 x4 ∧ p91 x0 x1 x2 x3 x4 ∧ p92 x0 x1 x2 x3 x4 ∧ p93 x0 x1 x2 x3 x4) (k : ∀ x0 x1 x2 x3 x4, p90 x0 x1 x2 x3 x4 → p91 x0 x1 x2 x3 x4 → p92 x0 x1 x2 x3 x4 → p93 x0 x1 x2 x3 x4 → g91) : g91 := Exists.elim h fun x0 h => xE4_4 h (k x0)
theorem xE5_5 {a90 a91 a92 a93 a94 : Type} {p90 p91 p92 p93 p94 : a90 → a91 → a92 → a93 → a94 → Prop} {g91 : Prop} (h : ∃ x0 x1 x2 x3 x4, p90 x0 x1 x2 x3 x4 ∧ p91 x0 x1 x2 x3 x4 ∧ p92 x0 x1 x2 x3 x4 ∧ p93 x0 x1 x2 x3 x4 ∧ p94 x0 x1 x2 x3 x4) (k : ∀ x0 x1 x2 x3 x4, p90 x0 x1 x2 x3 x4 → p91 x0 x1 x2 x3 x4 → p92 x0 x1 x2 x3 x4 → p93 x0 x1 x2 x3 x4 → p94 x0 x1 x2 x3 x4 → g91) : g91 := Exists.elim h fun x0 h => xE4_5 h (k x0)
theorem xE5_6 {a90 a91 a92 a93 a94 : Type} {p90 p91 p92 p93 p94 p95 : a90 → a91 → a92 → a93 → a94 → Prop} {g91 : Prop} (h : ∃ x0 x1 x2 x3 x4, p90 x0 x1 x2 x3 x4 ∧ p91 x0 x1 x2 x3 x4 ∧ p92 x0 x1 x2 x3 x4 ∧ p93 x0 x1 x2 x3 x4 ∧ p94 x0 x1 x2 x3 x4 ∧ p95 x0 x1 x2 x3 x4) (k : ∀ x0 x1 x2 x3 x4, p90 x0 x1 x2 x3 x4 → p91 x0 x1 x2 x3 x4 → p92 x0 x1 x2 x3 x4 → p93 x0 x1 x2 x3 x4 → p94 x0 x1 x2 x3 x4 → p95 x0 x1 x2 x3 x4 → g91) : g91 := Exists.elim h fun x0 h => xE4_6 h (k x0)
theorem xE6_1 {a90 a91 a92 a93 a94 a95 : Type} {p90 : a90 → a91 → a92 → a93 → a94 → a95 → Prop} {g91 : Prop} (h : ∃ x0 x1 x2 x3 x4 x5, p90 x0 x1 x2 x3 x4 x5) (k : ∀ x0 x1 x2 x3 x4 x5, p90 x0 x1 x2 x3 x4 x5 → g91) : g91 := Exists.elim h fun x0 h => xE5_1 h (k x0)
theorem xE6_4 {a90 a91 a92 a93 a94 a95 : Type} {p90 p91 p92 p93 : a90 → a91 → a92 → a93 → a94 → a95 → Prop} {g91 : Prop} (h : ∃ x0 x1 x2 x3 x4 x5, p90 x0 x1 x2 x3 x4 x5 ∧ p91 x0 x1 x2 x3 x4 x5 ∧ p92 x0 x1 x2 x3 x4 x5 ∧ p93 x0 x1 x2 x3 x4 x5) (k : ∀ x0 x1 x2 x3 x4 x5, p90 x0 x1 x2 x3 x4 x5 → p91 x0 x1 x2 x3 x4 x5 → p92 x0 x1 x2 x3 x4 x5 → p93 x0 x1 x2 x3 x4 x5 → g91) : g91 := Exists.elim h fun x0 h => xE5_4 h (k x0)
theorem xE6_5 {a90 a91 a92 a93 a94 a95 : Type} {p90 p91 p92 p93 p94 : a90 → a91 → a92 → a93 → a94 → a95 → Prop} {g91 : Prop} (h : ∃ x0 x1 x2 x3 x4 x5, p90 x0 x1 x2 x3 x4 x5 ∧ p91 x0 x1 x2 x3 x4 x5 ∧ p92 x0 x1 x2 x3 x4 x5 ∧ p93 x0 x1 x2 x3 x4 x5 ∧ p94 x0 x1 x2 x3 x4 x5) (k : ∀ x0 x1 x2 x3 x4 x5, p90 x0 x1 x2 x3 x4 x5 → p91 x0 x1 x2 x3 x4 x5 → p92 x0 x1 x2 x3 x4 x5 → p93 x0 x1 x2 x3 x4 x5 → p94 x0 x1 x2 x3 x4 x5 → g91) : g91 := Exists.elim h fun x0 h => xE5_5 h (k x0)
theorem xE7_1 {a90 a91 a92 a93 a94 a95 a96 : Type} {p90 : a90 → a91 → a92 → a93 → a94 → a95 → a96 → Prop} {g91 : Prop} (h : ∃ x0 x1 x2 x3 x4 x5 x6, p90 x0 x1 x2 x3 x4 x5 x6) (k : ∀ x0 x1 x2 x3 x4 x5 x6, p90 x0 x1 x2 x3 x4 x5 x6 → g91) : g91 := Exists.elim h fun x0 h => xE6_1 h (k x0)
theorem xE7_4 {a90 a91 a92 a93 a94 a95 a96 : Type} {p90 p91 p92 p93 : a90 → a91 → a92 → a93 → a94 → a95 → a96 → Prop} {g91 : Prop} (h : ∃ x0 x1 x2 x3 x4 x5 x6, p90 x0 x1 x2 x3 x4 x5 x6 ∧ p91 x0 x1 x2 x3 x4 x5 x6 ∧ p92 x0 x1 x2 x3 x4 x5 x6 ∧ p93 x0 x1 x2 x3 x4 x5 x6) (k : ∀ x0 x1 x2 x3 x4 x5 x6, p90 x0 x1 x2 x3 x4 x5 x6 → p91 x0 x1 x2 x3 x4 x5 x6 → p92 x0 x1 x2 x3 x4 x5 x6 → p93 x0 x1 x2 x3 x4 x5 x6 → g91) : g91 := Exists.elim h fun x0 h => xE6_4 h (k x0)
theorem foldGoal {g91 : Prop} (h : (g91 → False) → False) : g91 := Classical.byContradiction h
theorem uPeel {n91 n92 n93 n94 : Nat} (h : n91 + (n92 + n93) < n94) : n91 + n92 + n93 < n94 := by rwa [Nat.add_assoc]
theorem uLt {n91 n92 n93 n94 : Nat} (h : n91 + n94 < n93) (hb : n92 ≤ n94) : n91 + n92 < n93 := Nat.lt_of_le_of_lt (Nat.add_le_add_left hb n91) h
theorem uLt0 {n91 n93 n94 : Nat} (h : n91 + n94 < n93) : n91 < n93 := Nat.lt_of_le_of_lt (Nat.le_add_right n91 n94) h
theorem ltU {n91 n92 : Nat} (h : @LT.lt Nat _ n91 n92) : @LT.lt Nat _ n91 (n92 + 1) := Nat.lt_succ_of_lt h
theorem nu1 (n91 : Nat) : n91 + 1 ≠ n91 := Nat.succ_ne_self n91
theorem nu2 (n91 : Nat) : n91 + 1 + 1 ≠ n91 := Nat.ne_of_gt (ltU (Nat.lt_succ_self n91))
theorem nu3 (n91 : Nat) : n91 + 1 + 1 + 1 ≠ n91 := Nat.ne_of_gt (ltU (ltU (Nat.lt_succ_self n91)))
theorem nu4 (n91 : Nat) : n91 + 1 + 1 + 1 + 1 ≠ n91 := Nat.ne_of_gt (ltU (ltU (ltU (Nat.lt_succ_self n91))))
theorem nu5 (n91 : Nat) : n91 + 1 + 1 + 1 + 1 + 1 ≠ n91 := Nat.ne_of_gt (ltU (ltU (ltU (ltU (Nat.lt_succ_self n91)))))
theorem nu6 (n91 : Nat) : n91 + 1 + 1 + 1 + 1 + 1 + 1 ≠ n91 := Nat.ne_of_gt (ltU (ltU (ltU (ltU (ltU (Nat.lt_succ_self n91))))))
theorem ltD {n91 n92 : Nat} (h : @LT.lt Nat _ (n91 + 1) n92) : @LT.lt Nat _ n91 n92 := Nat.lt_of_succ_lt h
theorem ltC {n91 n92 n93 : Nat} (h : Nat.ble n91 n93 = true) (k : @LT.lt Nat _ n93 n92) : @LT.lt Nat _ n91 n92 := Nat.lt_of_le_of_lt (Nat.le_of_ble_eq_true h) k
theorem nuS {n91 n92 : Nat} (h : n91 ≠ n92) : n91 + 1 ≠ n92 + 1 := fun e => h (Nat.succ.inj e)
theorem neL {n91 n92 : Nat} (h : @LT.lt Nat _ n91 n92) : n91 ≠ n92 := Nat.ne_of_lt h
theorem neG {n91 n92 : Nat} (h : @LT.lt Nat _ n92 n91) : n91 ≠ n92 := Nat.ne_of_gt h
theorem lkN {a91 : Type} {c91 : Prop} [Decidable c91] {x91 y91 z91 : a91} (h : decide c91 = false) (k : y91 = z91) : (if c91 then x91 else y91) = z91 := (if_neg (of_decide_eq_false h)).trans k
theorem mm0 {a : Addr × Obj} {l : List (Addr × Obj)} : a ∈ a :: l := .head _
theorem mm1 {a b0 : Addr × Obj} {l : List (Addr × Obj)} : a ∈ b0 :: a :: l := .tail _ (.head _)
theorem mm2 {a b0 b1 : Addr × Obj} {l : List (Addr × Obj)} : a ∈ b0 :: b1 :: a :: l := .tail _ (.tail _ (.head _))
theorem mm3 {a b0 b1 b2 : Addr × Obj} {l : List (Addr × Obj)} : a ∈ b0 :: b1 :: b2 :: a :: l := .tail _ (.tail _ (.tail _ (.head _)))
theorem mm4 {a b0 b1 b2 b3 : Addr × Obj} {l : List (Addr × Obj)} : a ∈ b0 :: b1 :: b2 :: b3 :: a :: l := .tail _ (.tail _ (.tail _ (.tail _ (.head _))))
theorem mm5 {a b0 b1 b2 b3 b4 : Addr × Obj} {l : List (Addr × Obj)} : a ∈ b0 :: b1 :: b2 :: b3 :: b4 :: a :: l := .tail _ (.tail _ (.tail _ (.tail _ (.tail _ (.head _)))))
theorem mm6 {a b0 b1 b2 b3 b4 b5 : Addr × Obj} {l : List (Addr × Obj)} : a ∈ b0 :: b1 :: b2 :: b3 :: b4 :: b5 :: a :: l := .tail _ (.tail _ (.tail _ (.tail _ (.tail _ (.tail _ (.head _))))))
theorem mm7 {a b0 b1 b2 b3 b4 b5 b6 : Addr × Obj} {l : List (Addr × Obj)} : a ∈ b0 :: b1 :: b2 :: b3 :: b4 :: b5 :: b6 :: a :: l := .tail _ (.tail _ (.tail _ (.tail _ (.tail _ (.tail _ (.tail _ (.head _)))))))
theorem mm8 {a b0 b1 b2 b3 b4 b5 b6 b7 : Addr × Obj} {l : List (Addr × Obj)} : a ∈ b0 :: b1 :: b2 :: b3 :: b4 :: b5 :: b6 :: b7 :: a :: l := .tail _ (.tail _ (.tail _ (.tail _ (.tail _ (.tail _ (.tail _ (.tail _ (.head _))))))))
theorem mm9 {a b0 b1 b2 b3 b4 b5 b6 b7 b8 : Addr × Obj} {l : List (Addr × Obj)} : a ∈ b0 :: b1 :: b2 :: b3 :: b4 :: b5 :: b6 :: b7 :: b8 :: a :: l := .tail _ (.tail _ (.tail _ (.tail _ (.tail _ (.tail _ (.tail _ (.tail _ (.tail _ (.head _)))))))))
theorem mm10 {a b0 b1 b2 b3 b4 b5 b6 b7 b8 b9 : Addr × Obj} {l : List (Addr × Obj)} : a ∈ b0 :: b1 :: b2 :: b3 :: b4 :: b5 :: b6 :: b7 :: b8 :: b9 :: a :: l := .tail _ (.tail _ (.tail _ (.tail _ (.tail _ (.tail _ (.tail _ (.tail _ (.tail _ (.tail _ (.head _))))))))))
theorem mm11 {a b0 b1 b2 b3 b4 b5 b6 b7 b8 b9 b10 : Addr × Obj} {l : List (Addr × Obj)} : a ∈ b0 :: b1 :: b2 :: b3 :: b4 :: b5 :: b6 :: b7 :: b8 :: b9 :: b10 :: a :: l := .tail _ (.tail _ (.tail _ (.tail _ (.tail _ (.tail _ (.tail _ (.tail _ (.tail _ (.tail _ (.tail _ (.head _)))))))))))
theorem mm12 {a b0 b1 b2 b3 b4 b5 b6 b7 b8 b9 b10 b11 : Addr × Obj} {l : List (Addr × Obj)} : a ∈ b0 :: b1 :: b2 :: b3 :: b4 :: b5 :: b6 :: b7 :: b8 :: b9 :: b10 :: b11 :: a :: l := .tail _ (.tail _ (.tail _ (.tail _ (.tail _ (.tail _ (.tail _ (.tail _ (.tail _ (.tail _ (.tail _ (.tail _ (.head _))))))))))))
theorem ltVia {n91 n92 n93 : Nat} (h : @LT.lt Nat _ n92 n93) (k : @LT.lt Nat _ n91 n92) : @LT.lt Nat _ n91 n93 := Nat.lt_trans k h
theorem aL {q91 q92 : Prop} (h : q91 ∧ q92) : q91 := h.1
theorem aR {q91 q92 : Prop} (h : q91 ∧ q92) : q92 := h.2

abbrev Led := List (Addr × Obj)
abbrev lsO (vs : List Value) (e : Nat) : Obj := { cls := .type "list", data := .seq vs.toArray e }

/-- a caller, of whatever frame -/
@[reducible] def gTop (dp un : Nat) (gd : Option (List Code)) (env : Env) (outer : List Env) : Around := ⟨none, dp, some (env :: outer), gd, un⟩
/-- a call that only makes new things: they come onto the ledger's front -/
def Goes (w : World) (loose : List Str) (mean : ExcName → Option Value) (mg mb : Str → Option Value) (news : Led) (f : Addr) (vs : List Value) (d u : Nat) (Out : Led → Value → Prop) : Prop :=
  ∀ (dp un : Nat) (gd : Option (List Code)) (env : Env) (outer : List Env) (A₀ : Around) (base h₀ : Heap) (L : Addr) (m : Str → Option Value) (s : Shared) (R : Result → Shared → Prop),
    Below A₀ base outer h₀ → Fr h₀ L s.heap m → (hd.heap_1 w.params).In h₀ → News h₀ L s.heap news → Top topProg loose mean mg mb h₀ → env.frame = some L → env.scope.kind = .function → dp + d < recursionLimit → un + u < cLine →
    (∀ r new h' tk', Fr h₀ L h' m → News h₀ L h' (new ++ news) → (∀ q ∈ new, ∀ p ∈ news, p.1 ≠ q.1) → Out new r → R (.ok (.ret r)) { s with heap := h', toks := tk' }) →
    codeAny (model PySem.Challenge.pw_ay0011_01 w) (gTop dp un gd env outer) (.call (.ref f) ⟨vs, []⟩) R s
section
variable {w : World} {loose : List Str} {mean : ExcName → Option Value} {mg mb : Str → Option Value} {news : Led} {f : Addr} {vs : List Value} {d u : Nat} {Out : Led → Value → Prop}
    {dp un : Nat} {gd : Option (List Code)} {env : Env} {outer : List Env} {A₀ : Around} {base h₀ : Heap} {L : Addr} {m : Str → Option Value} {s : Shared} {Q E : Value → Shared → Prop}
theorem useGoesC {R : Result → Shared → Prop}
    (B : Below A₀ base outer h₀) (F : Fr h₀ L s.heap m) (X : (hd.heap_1 w.params).In h₀) (N : News h₀ L s.heap news) (T : Top topProg loose mean mg mb h₀) (hf : env.frame = some L) (hk : env.scope.kind = .function) (G : Goes w loose mean mg mb news f vs d u Out) (hd : dp + d < recursionLimit) (hu : un + u < cLine)
    (ret : ∀ r new h' tk', Fr h₀ L h' m → News h₀ L h' (new ++ news) → (∀ q ∈ new, ∀ p ∈ news, p.1 ≠ q.1) → Out new r → R (.ok (.ret r)) { s with heap := h', toks := tk' }) :
    codeAny (model PySem.Challenge.pw_ay0011_01 w) (gTop dp un gd env outer) (.call (.ref f) ⟨vs, []⟩) R s := G _ _ _ _ _ _ _ _ _ _ _ _ B F X N T hf hk hd hu ret
theorem useGoes
    (B : Below A₀ base outer h₀) (F : Fr h₀ L s.heap m) (X : (hd.heap_1 w.params).In h₀) (N : News h₀ L s.heap news) (T : Top topProg loose mean mg mb h₀) (hf : env.frame = some L) (hk : env.scope.kind = .function) (G : Goes w loose mean mg mb news f vs d u Out) (hd : dp + d < recursionLimit) (hu : un + u < cLine)
    (ret : ∀ r new h' tk', Fr h₀ L h' m → News h₀ L h' (new ++ news) → (∀ q ∈ new, ∀ p ∈ news, p.1 ≠ q.1) → Out new r → Q r { s with heap := h', toks := tk' }) :
    wpAny (model PySem.Challenge.pw_ay0011_01 w) (gTop dp un gd env outer) (call (.ref f) vs) Q E s := wpAny_call (useGoesC B F X N T hf hk G hd hu ret)
theorem useAny
    (F : Fr h₀ L s.heap m) (B : Below A₀ base outer h₀) (X : (hd.heap_1 w.params).In h₀) (N : News h₀ L s.heap news) (T : Top topProg loose mean mg mb h₀) (hf : env.frame = some L) (hk : env.scope.kind = .function) (G : Goes w loose mean mg mb news f vs d u Out) (hd : dp + d < recursionLimit) (hu : un + u < cLine)
    (ret : ∀ r new h' tk', Fr h₀ L h' m → News h₀ L h' (new ++ news) → (∀ q ∈ new, ∀ p ∈ news, p.1 ≠ q.1) → Out new r → Q r { s with heap := h', toks := tk' }) :
    wpAny (model PySem.Challenge.pw_ay0011_01 w) (gTop dp un gd env outer) (call (.ref f) vs) Q E s := useGoes B F X N T hf hk G hd hu ret
theorem useNil {v91 : Value}
    (F : Fr h₀ L s.heap m) (B : Below A₀ base outer h₀) (X : (hd.heap_1 w.params).In h₀) (N : News h₀ L s.heap news) (T : Top topProg loose mean mg mb h₀) (hf : env.frame = some L) (hk : env.scope.kind = .function) (G : Goes w loose mean mg mb news f vs d u (fun new r => new = [] ∧ r = v91)) (hd : dp + d < recursionLimit) (hu : un + u < cLine)
    (ret : ∀ h' tk', Fr h₀ L h' m → News h₀ L h' news → Q v91 { s with heap := h', toks := tk' }) :
    wpAny (model PySem.Challenge.pw_ay0011_01 w) (gTop dp un gd env outer) (call (.ref f) vs) Q E s := useGoes B F X N T hf hk G hd hu fun _ _ h' tk' F N _ ⟨e, e'⟩ => by subst e; subst e'; exact ret h' tk' F N
theorem useNilA {a91 : Type} {v91 : a91 → Value}
    (F : Fr h₀ L s.heap m) (B : Below A₀ base outer h₀) (X : (hd.heap_1 w.params).In h₀) (N : News h₀ L s.heap news) (T : Top topProg loose mean mg mb h₀) (hf : env.frame = some L) (hk : env.scope.kind = .function) (G : Goes w loose mean mg mb news f vs d u (fun new r => new = [] ∧ ∃ t, r = v91 t)) (hd : dp + d < recursionLimit) (hu : un + u < cLine)
    (ret : ∀ t h' tk', Fr h₀ L h' m → News h₀ L h' news → Q (v91 t) { s with heap := h', toks := tk' }) :
    wpAny (model PySem.Challenge.pw_ay0011_01 w) (gTop dp un gd env outer) (call (.ref f) vs) Q E s := useGoes B F X N T hf hk G hd hu fun _ _ h' tk' F N _ ⟨e, t, e'⟩ => by subst e; subst e'; exact ret t h' tk' F N
theorem useNilP {a91 : Type} {v91 : a91 → Value} {p91 : a91 → Prop}
    (F : Fr h₀ L s.heap m) (B : Below A₀ base outer h₀) (X : (hd.heap_1 w.params).In h₀) (N : News h₀ L s.heap news) (T : Top topProg loose mean mg mb h₀) (hf : env.frame = some L) (hk : env.scope.kind = .function) (G : Goes w loose mean mg mb news f vs d u (fun new r => new = [] ∧ ∃ t, r = v91 t ∧ p91 t)) (hd : dp + d < recursionLimit) (hu : un + u < cLine)
    (ret : ∀ t h' tk', Fr h₀ L h' m → News h₀ L h' news → p91 t → Q (v91 t) { s with heap := h', toks := tk' }) :
    wpAny (model PySem.Challenge.pw_ay0011_01 w) (gTop dp un gd env outer) (call (.ref f) vs) Q E s := useGoes B F X N T hf hk G hd hu fun _ _ h' tk' F N _ ⟨e, t, e', p⟩ => by subst e; subst e'; exact ret t h' tk' F N p
theorem useRef {a91 : Type} {v91 : a91 → Value} {p91 : Led → a91 → Prop}
    (F : Fr h₀ L s.heap m) (B : Below A₀ base outer h₀) (X : (hd.heap_1 w.params).In h₀) (N : News h₀ L s.heap news) (T : Top topProg loose mean mg mb h₀) (hf : env.frame = some L) (hk : env.scope.kind = .function) (G : Goes w loose mean mg mb news f vs d u (fun new r => ∃ z, r = v91 z ∧ p91 new z)) (hd : dp + d < recursionLimit) (hu : un + u < cLine)
    (ret : ∀ z new h' tk', Fr h₀ L h' m → News h₀ L h' (new ++ news) → (∀ q ∈ new, ∀ p ∈ news, p.1 ≠ q.1) → p91 new z → Q (v91 z) { s with heap := h', toks := tk' }) :
    wpAny (model PySem.Challenge.pw_ay0011_01 w) (gTop dp un gd env outer) (call (.ref f) vs) Q E s := useGoes B F X N T hf hk G hd hu fun _ new h' tk' F N A ⟨z, e', p⟩ => by subst e'; exact ret z new h' tk' F N A p
theorem useTup {a91 a92 a93 : Type} {v91 : a91 → a92 → a93 → Value} {n91 : a91 → a92 → a93 → Led}
    (F : Fr h₀ L s.heap m) (B : Below A₀ base outer h₀) (X : (hd.heap_1 w.params).In h₀) (N : News h₀ L s.heap news) (T : Top topProg loose mean mg mb h₀) (hf : env.frame = some L) (hk : env.scope.kind = .function) (G : Goes w loose mean mg mb news f vs d u (fun new r => ∃ x y z, r = v91 x y z ∧ new = n91 x y z)) (hd : dp + d < recursionLimit) (hu : un + u < cLine)
    (ret : ∀ x y z h' tk', Fr h₀ L h' m → News h₀ L h' (n91 x y z ++ news) → (∀ q ∈ n91 x y z, ∀ p ∈ news, p.1 ≠ q.1) → Q (v91 x y z) { s with heap := h', toks := tk' }) :
    wpAny (model PySem.Challenge.pw_ay0011_01 w) (gTop dp un gd env outer) (call (.ref f) vs) Q E s := useGoes B F X N T hf hk G hd hu fun _ _ h' tk' F N A ⟨x, y, z, e', e⟩ => by subst e; subst e'; exact ret x y z h' tk' F N A
end

abbrev ent (w : World) (x : Str) (t : Tok) (v : Value) : DictEntry := ⟨PyData.keyHash w.params x, .str x t, v⟩
inductive RingAt (w : World) (news : Led) (r : Addr) (q : Int) (n : Int) : Prop
  | mk (dr : Addr) (t1 t2 t3 t4 : Tok) (h1 : (r, instObj 282 dr) ∈ news) (h2 : (dr, dictOf [ent w (Str.ofString "q") t1 (.int q t2), ent w (Str.ofString "n") t3 (.int n t4)] 2) ∈ news)
inductive PolyAt (w : World) (news : Led) (r x : Addr) (cs : List Int) : Prop
  | mk (dx l : Addr) (e : Nat) (t1 t2 : Tok) (vs : List Value) (h1 : (x, instObj 445 dx) ∈ news) (h2 : (dx, dictOf [ent w (Str.ofString "parent") t1 (.ref r), ent w (Str.ofString "coeffs") t2 (.ref l)] 2) ∈ news) (h3 : (l, lsO vs e) ∈ news) (h4 : IntsAre vs cs)
/-- a polynomial, whatever its numbers -/
inductive PolyIs (news : Led) (x : Addr) : Prop
  | mk (dx : Addr) (es : List DictEntry) (n : Nat) (h1 : (x, instObj 445 dx) ∈ news) (h2 : (dx, dictOf es n) ∈ news)
theorem PolyAt.is {w : World} {news : Led} {r x : Addr} {cs : List Int} (h : PolyAt w news r x cs) : PolyIs news x := let ⟨dx, _, _, _, _, _, h1, h2, _, _⟩ := h; ⟨dx, _, _, h1, h2⟩
theorem RingAt.mono {w : World} {news news' : Led} {r : Addr} {q n : Int} (h : RingAt w news r q n) (k : ∀ p ∈ news, p ∈ news') : RingAt w news' r q n :=
  let ⟨dr, t1, t2, t3, t4, h1, h2⟩ := h; ⟨dr, t1, t2, t3, t4, k _ h1, k _ h2⟩
theorem PolyAt.mono {w : World} {news news' : Led} {r x : Addr} {cs : List Int} (h : PolyAt w news r x cs) (k : ∀ p ∈ news, p ∈ news') : PolyAt w news' r x cs :=
  let ⟨dx, l, e, t1, t2, vs, h1, h2, h3, h4⟩ := h; ⟨dx, l, e, t1, t2, vs, k _ h1, k _ h2, k _ h3, h4⟩
theorem PolyIs.mono {news news' : Led} {x : Addr} (h : PolyIs news x) (k : ∀ p ∈ news, p ∈ news') : PolyIs news' x := let ⟨dx, es, n, h1, h2⟩ := h; ⟨dx, es, n, k _ h1, k _ h2⟩

theorem subTail {a : Addr × Obj} {l r : Led} (h : ∀ p ∈ l, p ∈ r) : ∀ p ∈ l, p ∈ a :: r := fun p hp => .tail _ (h p hp)
theorem subR {a l r : Led} (h : ∀ p ∈ l, p ∈ r) : ∀ p ∈ l, p ∈ a ++ r := fun p hp => List.mem_append_right _ (h p hp)
theorem subL {a l r : Led} (h : ∀ p ∈ l, p ∈ a) : ∀ p ∈ l, p ∈ a ++ r := fun p hp => List.mem_append_left _ (h p hp)
theorem memR {a : Addr × Obj} {l r : Led} (h : a ∈ r) : a ∈ l ++ r := List.mem_append_right _ h
theorem memL {a : Addr × Obj} {l r : Led} (h : a ∈ l) : a ∈ l ++ r := List.mem_append_left _ h
theorem newsSub {h₀ h : Heap} {L : Addr} {all part : Led} (N : News h₀ L h all) (k : ∀ p ∈ part, p ∈ all) : News h₀ L h part := fun p hp => N p (k p hp)
theorem subCons {a : Addr × Obj} {l r : Led} (h : a ∈ r) (k : ∀ p ∈ l, p ∈ r) : ∀ p ∈ a :: l, p ∈ r := List.forall_mem_cons.mpr ⟨h, k⟩
theorem subApp {a b r : Led} (h : ∀ p ∈ a, p ∈ r) (k : ∀ p ∈ b, p ∈ r) : ∀ p ∈ a ++ b, p ∈ r := fun p hp => (List.mem_append.mp hp).elim (h p) (k p)
theorem apNil {news : Led} : ∀ q ∈ ([] : Led), ∀ p ∈ news, p.1 ≠ q.1 := fun _ h => nomatch h
theorem apCons {x : Addr} {o : Obj} {l news : Led} (h : ∀ p ∈ news, p.1 ≠ x) (k : ∀ q ∈ l, ∀ p ∈ news, p.1 ≠ q.1) : ∀ q ∈ (x, o) :: l, ∀ p ∈ news, p.1 ≠ q.1 := List.forall_mem_cons.mpr ⟨h, k⟩
theorem apApp {a b news : Led} (h : ∀ q ∈ a, ∀ p ∈ news, p.1 ≠ q.1) (k : ∀ q ∈ b, ∀ p ∈ news, p.1 ≠ q.1) : ∀ q ∈ a ++ b, ∀ p ∈ news, p.1 ≠ q.1 := fun q hq => (List.mem_append.mp hq).elim (h q) (k q)
theorem apSub {a l l' : Led} (h : ∀ q ∈ a, ∀ p ∈ l', p.1 ≠ q.1) (k : ∀ p ∈ l, p ∈ l') : ∀ q ∈ a, ∀ p ∈ l, p.1 ≠ q.1 := fun q hq p hp => h q hq p (k p hp)
theorem faN {a91 b91 : Addr} {l91 : Led} {o91 : Obj} (h : ∀ p ∈ l91, p.1 ≠ b91) (m : (a91, o91) ∈ l91) : a91 ≠ b91 := h _ m
theorem faM {a91 b91 : Addr} {l91 : Led} {o91 : Obj} (h : ∀ p ∈ l91, p.1 ≠ a91) (m : (b91, o91) ∈ l91) : a91 ≠ b91 := (h _ m).symm
theorem faL {a91 b91 : Addr} {l91 : Led} {o91 : Obj} (h : ∀ p ∈ l91, p.1 < b91) (m : (a91, o91) ∈ l91) : @LT.lt Nat _ a91 b91 := h _ m
theorem faS {b91 : Addr} {l91 k91 : Led} (h : ∀ p ∈ l91, p.1 < b91) (m : ∀ p ∈ k91, p ∈ l91) : ∀ p ∈ k91, p.1 ≠ b91 := fun p hp => Nat.ne_of_lt (h p (m p hp))
theorem faS1 {b91 : Addr} {l91 k91 : Led} (h : ∀ p ∈ l91, p.1 < b91) (m : ∀ p ∈ k91, p ∈ l91) : ∀ p ∈ k91, p.1 ≠ b91 + 1 := fun p hp => Nat.ne_of_lt (ltU (h p (m p hp)))
theorem faS2 {b91 : Addr} {l91 k91 : Led} (h : ∀ p ∈ l91, p.1 < b91) (m : ∀ p ∈ k91, p ∈ l91) : ∀ p ∈ k91, p.1 ≠ b91 + 1 + 1 := fun p hp => Nat.ne_of_lt (ltU (ltU (h p (m p hp))))
theorem faS3 {b91 : Addr} {l91 k91 : Led} (h : ∀ p ∈ l91, p.1 < b91) (m : ∀ p ∈ k91, p ∈ l91) : ∀ p ∈ k91, p.1 ≠ b91 + 1 + 1 + 1 := fun p hp => Nat.ne_of_lt (ltU (ltU (ltU (h p (m p hp)))))
theorem faS4 {b91 : Addr} {l91 k91 : Led} (h : ∀ p ∈ l91, p.1 < b91) (m : ∀ p ∈ k91, p ∈ l91) : ∀ p ∈ k91, p.1 ≠ b91 + 1 + 1 + 1 + 1 := fun p hp => Nat.ne_of_lt (ltU (ltU (ltU (ltU (h p (m p hp))))))
theorem faT {b91 x91 : Addr} {l91 k91 : Led} (k : @LT.lt Nat _ b91 x91) (h : ∀ p ∈ l91, p.1 < b91) (m : ∀ p ∈ k91, p ∈ l91) : ∀ p ∈ k91, p.1 ≠ x91 := fun p hp => Nat.ne_of_lt (Nat.lt_trans (h p (m p hp)) k)
theorem ltK {n91 n92 n93 : Nat} (k : @LT.lt Nat _ n93 n92) (h : Nat.ble n91 n93 = true) : @LT.lt Nat _ n91 n92 := Nat.lt_of_le_of_lt (Nat.le_of_ble_eq_true h) k
theorem iteY {c91 p91 q91 : Prop} [Decidable c91] (h : c91) (k : p91) : if c91 then p91 else q91 := by rw [if_pos h]; exact k
theorem iteN {c91 p91 q91 : Prop} [Decidable c91] (h : ¬c91) (k : q91) : if c91 then p91 else q91 := by rw [if_neg h]; exact k
theorem apHead {x : Addr} {o : Obj} {l news : Led} (A : ∀ q ∈ (x, o) :: l, ∀ p ∈ news, p.1 ≠ q.1) : ∀ p ∈ news, p.1 ≠ x := A _ (.head _)
theorem memTail {a b : Addr × Obj} {l : Led} (h : a ∈ l) : a ∈ b :: l := List.Mem.tail _ h
theorem allNe_lt {d : Addr} {l : Led} (h : AllLt d l) : ∀ p ∈ l, p.1 ≠ d := fun p hp => Nat.ne_of_lt (ktn_ltOf h p hp)
theorem allNe_lt2 {d x : Addr} {l : Led} (h : AllLt d l) (k : @LT.lt Nat _ d x) : ∀ p ∈ l, p.1 ≠ x := fun p hp => Nat.ne_of_lt (Nat.lt_trans (ktn_ltOf h p hp) k)
theorem neSub {d : Addr} {l l' : Led} (h : ∀ p ∈ l', p.1 ≠ d) (k : ∀ p ∈ l, p ∈ l') : ∀ p ∈ l, p.1 ≠ d := fun p hp => h p (k p hp)
theorem allNe_ltR {d : Addr} {l : Led} (h : ∀ p ∈ l, p.1 < d) : ∀ p ∈ l, p.1 ≠ d := fun p hp => Nat.ne_of_lt (h p hp)
theorem allNe_ltR2 {d x : Addr} {l : Led} (h : ∀ p ∈ l, p.1 < d) (k : @LT.lt Nat _ d x) : ∀ p ∈ l, p.1 ≠ x := fun p hp => Nat.ne_of_lt (Nat.lt_trans (h p hp) k)
theorem allNe_app {d : Addr} {a b : Led} (h : ∀ p ∈ a, p.1 ≠ d) (h' : ∀ p ∈ b, p.1 ≠ d) : ∀ p ∈ a ++ b, p.1 ≠ d := fun p hp => (List.mem_append.mp hp).elim (h p) (h' p)

theorem retPoly {w : World} {R : Result → Shared → Prop} {news all : Led} {h₀ h' : Heap} {L : Addr} {m : Str → Option Value} {s : Shared} {tk' : Nat} {z dz l rg : Addr} {vs : List Value} {e : Nat} {t1 t2 : Tok} {cs : List Int}
    (hret : ∀ r new h' tk', Fr h₀ L h' m → News h₀ L h' (new ++ news) → (∀ q ∈ new, ∀ p ∈ news, p.1 ≠ q.1) → (∃ z, r = .ref z ∧ PolyAt w new rg z cs) → R (.ok (.ret r)) { s with heap := h', toks := tk' })
    (F : Fr h₀ L h' m) (N : News h₀ L h' all) (hz : (z, instObj 445 dz) ∈ all) (hd : (dz, dictOf [ent w (Str.ofString "parent") t1 (.ref rg), ent w (Str.ofString "coeffs") t2 (.ref l)] 2) ∈ all) (hl : (l, lsO vs e) ∈ all) (hi : IntsAre vs cs)
    (hs : ∀ p ∈ news, p ∈ all) (a1 : ∀ p ∈ news, p.1 ≠ z) (a2 : ∀ p ∈ news, p.1 ≠ dz) (a3 : ∀ p ∈ news, p.1 ≠ l) : R (.ok (.ret (.ref z))) { s with heap := h', toks := tk' } :=
  hret _ [(z, _), (dz, _), (l, _)] _ _ F (newsSub N (subCons hz (subCons hd (subCons hl hs)))) (apCons a1 (apCons a2 (apCons a3 apNil))) ⟨z, rfl, dz, l, e, t1, t2, vs, List.Mem.head _, memTail (List.Mem.head _), memTail (memTail (List.Mem.head _)), hi⟩
section
variable {prog : Program} {w : World} {A : Around} {E : Value → Shared → Prop} {s : Shared} {h₀ : Heap} {L l : Addr} {m : Str → Option Value} {news : Led} {vs : List Value} {e : Nat} {k : Int} {u : Tok} {v : Value}
theorem get_led {Q : Value → Shared → Prop} (N : News h₀ L s.heap news) (hm : (l, lsO vs e) ∈ news) (h0 : 0 ≤ k) (h1 : k < 2 ^ 63) (hx : vs[k.toNat]? = some v) (h : Q v s) :
    wpAny (model prog w) A (getItem (.ref l) (.int k u)) Q E s := wpAny_getItem_list ⟨_, (N _ hm).1, rfl, _, rfl⟩ h0 h1 (by simpa using hx) h
theorem sub_led {value slice : PySem.Expr} {Q : Value → Shared → Prop} (N : News h₀ L s.heap news) (hm : (l, lsO vs e) ∈ news) (h0 : 0 ≤ k) (h1 : k < 2 ^ 63) (hx : vs[k.toNat]? = some v) (h : Q v s)
    (hs : subscripted slice false (.ref l) (.int k u) = operate [.ref l, .int k u] (getItem (.ref l) (.int k u)) := by with_unfolding_all rfl) :
    wpAny (model prog w) A (subscriptTail value slice (.ref l) (.int k u)) Q E s :=
  have hl : s.heap.IsList l vs.toArray := ⟨_, (N _ hm).1, rfl, _, rfl⟩
  tail_any hl.typeIs slot_list_getitem.lookup (wpAny_getItem_list hl h0 h1 (by simpa using hx) h) hs
theorem copy_led {Q : Value → Shared → Prop} (F : Fr h₀ L s.heap m) (N : News h₀ L s.heap news) (hm : (l, lsO vs e) ∈ news) (hz : vs.length ≤ sizeLine)
    (h : ∀ D h', (∀ p ∈ news, p.1 < D) → Fr h₀ L h' m → News h₀ L h' ((D, lsO vs 0) :: news) → Q (.ref D) { s with heap := h' }) : wpAny (model prog w) A (call (.builtin "list.copy") [.ref l]) Q E s :=
  copy_list F N ⟨_, (N _ hm).1, rfl, _, rfl⟩ (fun h' F' N' => h _ h' (fun p hp => Heap.lt_size (N p hp).1) F' N') hz
theorem eq_led {Q : Value → Shared → Prop} {a b : Addr} {us : List Value} {e' : Nat} {ns ms : List Int} (N : News h₀ L s.heap news) (hm : (a, lsO vs e) ∈ news) (hm' : (b, lsO us e') ∈ news) (hi : IntsAre vs ns) (hi' : IntsAre us ms) (hu : A.units + 64 < cLine)
    (h : Q (.bool (decide (ns = ms))) s) : wpAny (model prog w) A (compareOp .Eq (.ref a) (.ref b)) Q E s :=
  eq_intsK ⟨_, (N _ hm).1, rfl, _, rfl⟩ hi ⟨_, (N _ hm').1, rfl, _, rfl⟩ hi' hu h
theorem len_led {n : Int} {Q : Value → Shared → Prop} (N : News h₀ L s.heap news) (hm : (l, lsO vs e) ∈ news) (hn : (vs.length : Int) = n) (hs : n < 2 ^ 62) (h : Q (.int n (s.toks + 1)) { s with toks := s.toks + 1 + 1 }) :
    wpAny (model prog w) A (call (.builtin "len") [.ref l]) Q E s := by
  subst hn
  refine PyProof.Rows.len_list ⟨_, (N _ hm).1, rfl, _, rfl⟩ (by rw [List.size_toArray]; omega) ?_
  rw [List.size_toArray]
  exact h
end

theorem units_under_call (A : Around) (args : Args) : (A.under (.builtin "type.__call__" args)).units = A.units + 1 := by
  first | rfl | simp [Around.under, Code.cUnits, Code.frames, Code.isFrame]
/-- a local name -/
def LocalIn (cs : Scope) (x : Str) : Prop := cs.kind = .function ∧ cs.names.lookup x = some .local ∧ (x == ("__debug__" : Str)) = false
def CellIn (cs : Scope) (x : Str) : Prop := cs.kind = .function ∧ cs.names.lookup x = some .cell ∧ (x == ("__debug__" : Str)) = false
/-- an expression that changes no object -/
structure To (M : Model) (A : Around) (env : Env) (e : PySem.Expr) (s : Shared) (v : Value) (s' : Shared) : Prop where
  use : ∀ (Q E : Value → Shared → Prop), Q v s' → wpAny M A (eval e env) Q E s
section
variable {M : Model} {A : Around} {env : Env} {s s' s'' : Shared} {h₀ : Heap} {m : Str → Option Value} {x : Str} {pos pos' : Pos} {v u : Value} {E Q : Value → Shared → Prop} {L c : Addr} {news : Led} {o : Obj} {rest : List PySem.Expr} {vs : List Value} {l r : PySem.Expr} {i : Int} {k : Nat}
theorem nameL (hk : LocalIn env.scope x) (F : Fr h₀ env.locals s.heap m) (hv : m x = some v) (h : Q v s) : wpAny M A (eval (.Name x pos) env) Q E s := wpAny_Name (wpAny_loadName_local hk.1 hk.2.1 F.ns hv h) hk.2.2
theorem nameC (hk : CellIn env.scope x) (hc : env.cells.lookup x = some c) (N : News h₀ L s.heap news) (hm : (c, o) ∈ news) (hd : o.data = .cell (some v)) (h : Q v s) : wpAny M A (eval (.Name x pos) env) Q E s := wpAny_Name (wpAny_loadName_cell hk.1 hk.2.1 hc ⟨o, N.get hm, hd⟩ h) hk.2.2
def GlobIn (cs : Scope) (x : Str) : Prop := cs.kind = .function ∧ cs.names.lookup x = some .globalImplicit ∧ (x == ("__debug__" : Str)) = false
theorem nameG {prog : Program} {w : World} {K : Frag} {p : Program} {loose : List Str} {mg mb : Str → Option Value} (hk : GlobIn env.scope x) (hg : env.globals = mainGlobals) (F : Fr h₀ L s.heap m) (X : K.In h₀) (T : TopRead p loose mg mb h₀) (e : nsIn K mainGlobals x = some (some v)) (h : Q v s) : wpAny (model prog w) A (eval (.Name x pos) env) Q E s :=
  PySem.Calls.Name_function_global hk.1 hk.2.1 (PySem.Calls.loadGlobal_global (env := env) (hg ▸ T.g.keeps F.keep) (mg_of X T.g e) h) hk.2.2
theorem toName (hk : LocalIn env.scope x) (F : Fr h₀ env.locals s.heap m) (hv : m x = some v) : To M A env (.Name x pos) s v s := ⟨fun _ _ h => nameL hk F hv h⟩
theorem toCell (hk : CellIn env.scope x) (hc : env.cells.lookup x = some c) (N : News h₀ L s.heap news) (hm : (c, o) ∈ news) (hd : o.data = .cell (some v)) : To M A env (.Name x pos) s v s := ⟨fun _ _ h => nameC hk hc N hm hd h⟩
theorem toInt {k} : To M A env (.Constant (.int i) k pos) s (.int i s.toks) { s with toks := s.toks + 1 } := ⟨fun _ _ h => wpAny_Constant_int h⟩
theorem storeL {Q : Unit → Shared → Prop} (hk : LocalIn env.scope x) (hL : env.locals = L) (F : Fr h₀ L s.heap m) (N : News h₀ L s.heap news)
    (h : ∀ h' tk, Fr h₀ L h' (fun y => if y = x then some v else m y) → News h₀ L h' news → Q () { s with heap := h', toks := tk }) : wpAny M A (storeName env x v) Q E s := by
  subst hL
  exact wpAny_storeName_local hk.2.1 F.ns (fun h' hn hs => h h' _ (F.set hn hs) (N.set hs)) (by rw [hk.1]; rfl)
theorem storeC {Q : Unit → Shared → Prop} {a : Addr} {cn : Str} {cs : Scope} {ccd : Value} {cl : List (Str × Addr)} {g : Obj → Led} {v₀ : Option Value} (F : Fr h₀ L s.heap m) (N : News h₀ L s.heap news) (hc : cl.lookup x = some c) (U : UpdF c o news g) (hd : o.data = .cell v₀)
    (h : ∀ h' o' tk, Fr h₀ L h' m → News h₀ L h' (g o') → o'.data = .cell (some v) → Q () { s with heap := h', toks := tk }) (hk : cs.kind = .function) (hx : (envX cn cs L a ccd cl).kindOf x = some .cell) : wpAny M A (storeName (envX cn cs L a ccd cl) x v) Q E s :=
  storeX_C F N hc U hd (fun h' o' F' N' d => h h' o' s.toks F' N' d) hk hx
theorem binTo {op} (h1 : To M A env l s v s') (h2 : To M A env r s' u s'') (h : wpAny M A (binaryOp op v u) Q E s'') : wpAny M A (eval (.BinOp l op r pos) env) Q E s := wpAny_BinOp (h1.use _ _ (h2.use _ _ h))
theorem cmpTo {op} (h1 : To M A env l s v s') (h2 : To M A env r s' u s'') (h : wpAny M A (compareOp op v u) Q E s'') (hm : behindInMarks op r = false) : wpAny M A (eval (.Compare l [op] [r] pos) env) Q E s := wpAny_Compare1 (h1.use _ _ (h2.use _ _ h)) hm
theorem testTo {op whole} {Q : Bool → Shared → Prop} (h1 : To M A env l s v s') (h2 : To M A env r s' u s'') (h : wpAny M A (compareOp op v u) (fun c s₃ => wpAny M A (truthy c) Q E s₃) E s'') (hm : behindInMarks op r = false) : wpAny M A (isTrue (.Compare l [op] [r] pos) env whole) Q E s := wpAny_isTrue_Compare1 (h1.use _ _ (h2.use _ _ h)) hm
theorem subTo (h1 : To M A env l s v s') (h2 : To M A env r s' u s'') (h : wpAny M A (subscriptTail l r v u) Q E s'') : wpAny M A (eval (.Subscript l r pos) env) Q E s := PyProof.Rows.Subscript_ (h1.use _ _ (h2.use _ _ h))
theorem attrTo {attr : Str} (hk : LocalIn env.scope x) (F : Fr h₀ env.locals s.heap m) (hv : m x = some v) (h : wpAny M A (getAttr v attr true) Q E s) : wpAny M A (eval (.Attribute (.Name x pos') attr pos) env) Q E s := PyProof.Rows.Attribute_Name_ (nameL hk F hv h)
end
end Mine
namespace Mine
section
variable {prog : Program} {w : World} {A : Around} {E : Value → Shared → Prop} {s : Shared} {h₀ : Heap} {L : Addr} {m : Str → Option Value} {env : Env}

/-- the comprehension's own names: C, and the cells of those of its names that are captured -/
def OwnAt (C : Addr) (ca : List Addr) (h : Heap) : Prop := (∃ m', h.Ns C m') ∧ ∀ c ∈ ca, ∃ v, h.IsCell c v

/-- one target's store: the names' objects hold what Holds says, all else stays -/
def Stores (prog : Program) (w : World) (A : Around) (cenv : Env) (target : Expr) (ca : List Addr) (P : Nat → Value → Heap → Prop) (Holds : Nat → Value → Led → Prop) : Prop :=
  ∀ (i : Nat) (v : Value) (s : Shared) (Q : Unit → Shared → Prop) (E : Value → Shared → Prop), P i v s.heap → OwnAt cenv.locals ca s.heap →
    (∀ h' tk own, (∀ p ∈ own, h'.get? p.1 = some p.2) → own.map (·.1) = cenv.locals :: ca → OwnAt cenv.locals ca h' → Holds i v own → (∀ b o, b ∉ cenv.locals :: ca → s.heap.get? b = some o → h'.get? b = some o) → Q () { s with heap := h', toks := tk }) →
    wpAny (model prog w) A (assign target cenv v) Q E s

def CompDone (F : Nat → Value → Led → Prop) (n : Nat) (ys : List Value) (new : Led) : Prop := ys.length = n ∧ ∀ i y, ys[i]? = some y → ∃ part, (∀ p ∈ part, p ∈ new) ∧ F i y part
theorem CompDone.nil {F : Nat → Value → Led → Prop} : CompDone F 0 [] [] := ⟨rfl, fun i y h => by simp at h⟩
theorem CompDone.snoc {F : Nat → Value → Led → Prop} {n : Nat} {ys : List Value} {new new' : Led} {y : Value} (x : CompDone F n ys new) (h : F n y new') : CompDone F (n + 1) (ys ++ [y]) (new' ++ new) :=
  ⟨by rw [List.length_append, x.1]; rfl, fun i z hz => by
    rcases Nat.lt_or_ge i ys.length with hi | hi
    · rw [List.getElem?_append_left hi] at hz
      obtain ⟨part, h1, h2⟩ := x.2 i z hz
      exact ⟨part, fun p hp => List.mem_append_right _ (h1 p hp), h2⟩
    · rw [List.getElem?_append_right hi] at hz
      have e : i - ys.length = 0 := by
        rcases Nat.eq_zero_or_pos (i - ys.length) with e | e
        · exact e
        · rw [List.getElem?_eq_none (by rw [List.length_singleton]; exact e)] at hz; cases hz
      rw [e] at hz
      have e2 : y = z := by simpa using hz
      have e3 : i = n := by rw [← x.1]; omega
      subst e2 e3
      exact ⟨new', fun p hp => List.mem_append_left _ hp, h⟩⟩

/-- a turn's end: what it has made stands on the ledger's front -/
inductive TurnOut (h₀ : Heap) (L : Addr) (m : Str → Option Value) (st : Heap → Nat → Shared) (led : Led) (F : Value → Led → Prop) (y : Value) (s' : Shared) : Prop
  | mk (h' : Heap) (tk' : Nat) (new' : Led) (h1 : s' = st h' tk') (h2 : Fr h₀ L h' m) (h3 : News h₀ L h' (new' ++ led)) (h4 : ∀ p ∈ new', ∀ q ∈ led, q.1 ≠ p.1) (h5 : F y new')
def TurnEnd (h₀ : Heap) (L : Addr) (m : Str → Option Value) (s : Shared) (led : Led) (F : Value → Led → Prop) (y : Value) (s' : Shared) : Prop := TurnOut h₀ L m (fun h' tk' => { s with heap := h', toks := tk' }) led F y s'
/-- a turn of the comprehension, by the ledger: own: what the source and the names hold; D: the list so far; new: what the turns before have made -/
def CompTurn (prog : Program) (w : World) (A : Around) (h₀ : Heap) (L : Addr) (m : Str → Option Value) (cenv : Env) (ca wr : List Addr) (elt : Expr) (s : Shared) (news : Led) (Holds : Nat → Value → Led → Prop) (F : Nat → Value → Led → Prop) (i : Nat) : Prop :=
  ∀ (v : Value) (h : Heap) (tk : Nat) (own names new : Led) (D : Addr) (ys : List Value) (E' : Value → Shared → Prop), Holds i v names → names.map (·.1) = cenv.locals :: ca → (∀ b ∈ wr, ∃ o, (b, o) ∈ own) → ys.length = i →
    Fr h₀ L h m → News h₀ L h (names ++ ((D, LCg.lst ys) :: (own ++ (new ++ news)))) → (∀ p ∈ own ++ (new ++ news), p.1 ≠ D) → (∀ p ∈ names, p.1 ≠ D) → (∀ p ∈ names, ∀ q ∈ own ++ (new ++ news), q.1 ≠ p.1) → CompDone F i ys new →
    wpAny (model prog w) A (eval elt cenv) (TurnEnd h₀ L m s (names ++ ((D, LCg.lst ys) :: (own ++ (new ++ news)))) (F i)) E' { s with heap := h, toks := tk }

theorem mem_keys {l : Led} {a : Addr} (h : a ∈ l.map (·.1)) : ∃ o, (a, o) ∈ l := by
  obtain ⟨p, hp, rfl⟩ := List.mem_map.mp h
  exact ⟨p.2, hp⟩

end
end Mine
namespace Mine
section
variable {prog : Program} {w : World} {A : Around} {E : Value → Shared → Prop} {s : Shared} {h₀ : Heap} {L : Addr} {m : Str → Option Value} {env : Env}
/-- a turn's end, with a moving part of the ledger and generators -/
inductive TurnOutM (h₀ : Heap) (L : Addr) (m : Str → Option Value) (st : Heap → Nat → Array GenState → Shared) (gs : Array GenState) (G : Array GenState → Array GenState → Prop) (mov : Led) (J : Led → Prop) (led : Led → Led) (F : Value → Led → Prop) (y : Value) (s' : Shared) : Prop
  | mk (h' : Heap) (tk' : Nat) (gs' : Array GenState) (new' mov' : Led) (h1 : s' = st h' tk' gs') (h2 : G gs gs') (h3 : mov'.map (·.1) = mov.map (·.1)) (h4 : J mov') (h5 : Fr h₀ L h' m) (h6 : News h₀ L h' (new' ++ led mov')) (h7 : ∀ p ∈ new', ∀ q ∈ led mov, q.1 ≠ p.1) (h8 : F y new')
def TurnEndM (h₀ : Heap) (L : Addr) (m : Str → Option Value) (s : Shared) (G : Array GenState → Array GenState → Prop) (mov : Led) (J : Led → Prop) (led : Led → Led) (F : Value → Led → Prop) (y : Value) (s' : Shared) : Prop := TurnOutM h₀ L m (fun h' tk' gs' => { s with heap := h', toks := tk', gens := gs' }) s.gens G mov J led F y s'
def CompTurnM (prog : Program) (w : World) (A : Around) (h₀ : Heap) (L : Addr) (m : Str → Option Value) (cenv : Env) (ca wr : List Addr) (elt : Expr) (s : Shared) (news : Led) (G : Array GenState → Array GenState → Prop) (J : Nat → Led → Prop) (Holds : Nat → Value → Led → Prop) (F : Nat → Value → Led → Prop) (i : Nat) : Prop :=
  ∀ (v : Value) (h : Heap) (tk : Nat) (gs : Array GenState) (own names new mov : Led) (D : Addr) (ys : List Value) (E' : Value → Shared → Prop), Holds i v names → names.map (·.1) = cenv.locals :: ca → (∀ b ∈ wr, ∃ o, (b, o) ∈ own) → ys.length = i → G s.gens gs → J i mov →
    Fr h₀ L h m → News h₀ L h (names ++ ((D, LCg.lst ys) :: (own ++ (new ++ (mov ++ news))))) → (∀ p ∈ own ++ (new ++ (mov ++ news)), p.1 ≠ D) → (∀ p ∈ names, p.1 ≠ D) → (∀ p ∈ names, ∀ q ∈ own ++ (new ++ (mov ++ news)), q.1 ≠ p.1) → (∀ p ∈ mov, ∀ q ∈ own ++ (new ++ news), q.1 ≠ p.1) → CompDone F i ys new →
    wpAny (model prog w) A (eval elt cenv) (TurnEndM h₀ L m { s with gens := gs } G mov (J (i + 1)) (fun mov => names ++ ((D, LCg.lst ys) :: (own ++ (new ++ (mov ++ news))))) (F i)) E' { s with heap := h, toks := tk, gens := gs }

theorem keys_ne {a b : Led} {x : Addr} (e : b.map (·.1) = a.map (·.1)) (h : ∀ p ∈ a, p.1 ≠ x) : ∀ p ∈ b, p.1 ≠ x := fun p hp => by
  have : p.1 ∈ a.map (·.1) := e ▸ List.mem_map.mpr ⟨p, hp, rfl⟩
  obtain ⟨q, hq, e'⟩ := List.mem_map.mp this
  exact e' ▸ h q hq
theorem keys_nin {a b : Led} {x : List Addr} (e : b.map (·.1) = a.map (·.1)) (h : ∀ p ∈ a, p.1 ∉ x) : ∀ p ∈ b, p.1 ∉ x := fun p hp => by
  have : p.1 ∈ a.map (·.1) := e ▸ List.mem_map.mpr ⟨p, hp, rfl⟩
  obtain ⟨q, hq, e'⟩ := List.mem_map.mp this
  exact e' ▸ h q hq

inductive CompInv (h₀ : Heap) (L : Addr) (m : Str → Option Value) (s : Shared) (G : Array GenState → Array GenState → Prop) (J : Nat → Led → Prop) (mov₀ news : Led) (D : Addr) (cs wr : List Addr) (F : Nat → Value → Led → Prop) (n : Nat) (St : Nat → Heap → Prop) (OwnC : Heap → Prop) (k : Nat) (s' : Shared) : Prop
  | mk (h' : Heap) (tk : Nat) (gs : Array GenState) (i : Nat) (ys : List Value) (new mov : Led) (h1 : s' = { s with heap := h', toks := tk, gens := gs }) (h2 : G s.gens gs) (h3 : mov.map (·.1) = mov₀.map (·.1)) (h4 : J i mov) (h5 : i ≤ n) (h6 : k = n + 1 - i) (h7 : St i h') (h8 : Fr h₀ L h' m) (h9 : OwnC h') (h10 : News h₀ L h' ((D, LCg.lst ys) :: (new ++ (mov ++ news))))
    (h11 : ∀ p ∈ new, p.1 ≠ D ∧ (∀ c ∈ cs, p.1 ≠ c) ∧ p.1 ∉ wr ∧ ∀ q ∈ mov₀ ++ news, q.1 ≠ p.1) (h12 : CompDone F i ys new)
theorem compLoop_ledM {target elt iter : Expr} {scope : Scope} {pos : Pos} {I D : Addr} {fp wr ca : List Addr} {n : Nat} {P Md : Nat → Value → Heap → Prop} {St : Nat → Heap → Prop} {cenv : Env} {news : Led}
    {Holds : Nat → Value → Led → Prop} {F : Nat → Value → Led → Prop} {R : Result → Shared → Prop} {G : Array GenState → Array GenState → Prop} {J : Nat → Led → Prop} {mov₀ : Led} (gt : ∀ a b c, G a b → G b c → G a c) (gr : ∀ a, G a a) (j₀ : J 0 mov₀) (hmn : ∀ p ∈ mov₀, ∀ q ∈ news, q.1 ≠ p.1)
    (W : KTurns prog w A target I fp wr n P Md St) (hsz : n ≤ sizeLine) (hObj : ∀ i h, St i h → ∀ b ∈ fp, ∃ o, h.get? b = some o)
    (hs : Stores prog w A cenv target ca P Holds)
    (turn : ∀ i, i < n → CompTurnM prog w A h₀ L m cenv ca wr elt s news G J Holds F i)
    (hst : St 0 s.heap) (hO : OwnAt cenv.locals ca s.heap) (F₀ : Fr h₀ L s.heap m) (N₀ : News h₀ L s.heap ((D, LCg.lst []) :: (mov₀ ++ news)))
    (hwr : ∀ b ∈ wr, h₀.get? b = none) (hmf : ∀ p ∈ mov₀, p.1 ∉ fp) (hLf : L ∉ fp) (hDf : D ∉ fp) (hCf : ∀ c ∈ cenv.locals :: ca, c ∉ fp) (hCD : ∀ c ∈ cenv.locals :: ca, c ≠ D) (hCL : ∀ c ∈ cenv.locals :: ca, c ≠ L) (hC₀ : ∀ c ∈ cenv.locals :: ca, h₀.get? c = none)
    (hnD₀ : ∀ p ∈ mov₀ ++ news, p.1 ≠ D) (hnC₀ : ∀ c ∈ cenv.locals :: ca, ∀ p ∈ mov₀ ++ news, p.1 ≠ c) (hnw₀ : ∀ p ∈ mov₀ ++ news, p.1 ∉ wr)
    (hR : ∀ h tk gs ys new mov, G s.gens gs → mov.map (·.1) = mov₀.map (·.1) → J n mov → Fr h₀ L h m → News h₀ L h ((D, LCg.lst ys) :: (new ++ (mov ++ news))) → (∀ p ∈ new ++ (mov ++ news), p.1 ≠ D) → (∃ m', h.Ns cenv.locals m') → (∀ p ∈ new ++ (mov ++ news), p.1 ≠ cenv.locals) → (∀ p ∈ new, ∀ q ∈ mov₀ ++ news, q.1 ≠ p.1) → CompDone F n ys new → R (.ok .next) { s with heap := h, toks := tk, gens := gs }) :
    codeAny (model prog w) A (.compLoop (.ListComp elt [⟨target, iter, [], 0⟩] scope pos) 0 (.ref I) (.ref D) cenv) R s := by
  have hDL : D ≠ L := (N₀ _ List.mem_cons_self).2.1
  have hD₀ : h₀.get? D = none := (N₀ _ List.mem_cons_self).2.2
  have hLw : L ∉ wr := fun h => hLf (W.sub _ h)
  have hDw : D ∉ wr := fun h => hDf (W.sub _ h)
  have hCw : ∀ c ∈ cenv.locals :: ca, c ∉ wr := fun c hc h => hCf c hc (W.sub _ h)
  refine kcp_loop
    (CompInv h₀ L m s G J mov₀ news D (cenv.locals :: ca) wr F n St (OwnAt cenv.locals ca)) ?_ (n + 1)
    ⟨s.heap, s.toks, s.gens, 0, [], [], mov₀, rfl, gr _, rfl, j₀, Nat.zero_le _, rfl, hst, F₀, hO, N₀, fun _ h => (nomatch h), CompDone.nil⟩
  rintro k s' ⟨h', tk, gs, i, ys, new, mov, rfl, hgs, hmk, hJ, hi, rfl, hst', F', hO', N', hnew, hdone⟩
  have hnD : ∀ p ∈ mov ++ news, p.1 ≠ D := fun p hp => (List.mem_append.mp hp).elim (keys_ne hmk (fun p hp => hnD₀ p (List.mem_append_left _ hp)) p) fun h => hnD₀ p (List.mem_append_right _ h)
  have hnC : ∀ c ∈ cenv.locals :: ca, ∀ p ∈ mov ++ news, p.1 ≠ c := fun c hc p hp => (List.mem_append.mp hp).elim (keys_ne hmk (fun p hp => hnC₀ c hc p (List.mem_append_left _ hp)) p) fun h => hnC₀ c hc p (List.mem_append_right _ h)
  have hnw : ∀ p ∈ mov ++ news, p.1 ∉ wr := fun p hp => (List.mem_append.mp hp).elim (keys_nin hmk (fun p hp => hnw₀ p (List.mem_append_left _ hp)) p) fun h => hnw₀ p (List.mem_append_right _ h)
  have offD : ∀ p ∈ new ++ (mov ++ news), p.1 ≠ D := fun p hp => (List.mem_append.mp hp).elim (fun h => (hnew p h).1) (hnD p)
  have offC : ∀ c ∈ cenv.locals :: ca, ∀ p ∈ new ++ (mov ++ news), p.1 ≠ c := fun c hc p hp => (List.mem_append.mp hp).elim (fun h => (hnew p h).2.1 c hc) (hnC c hc p)
  have offw : ∀ p ∈ new ++ (mov ++ news), p.1 ∉ wr := fun p hp => (List.mem_append.mp hp).elim (fun h => (hnew p h).2.2.1) (hnw p)
  have keepF : ∀ {ha hb : Heap} {bad : List Addr}, Fr h₀ L ha m → (∀ b o, b ∉ bad → ha.get? b = some o → hb.get? b = some o) → L ∉ bad → (∀ b ∈ bad, h₀.get? b = none) → Fr h₀ L hb m := fun F hk hL hb =>
    ⟨F.ns.at' fun o e => hk _ o hL e, fun b o e => hk b o (fun hm => by rw [hb b hm] at e; cases e) (F.keep b o e), F.above⟩
  have keepN : ∀ {ha hb : Heap} {bad : List Addr} {l : Led}, News h₀ L ha l → (∀ b o, b ∉ bad → ha.get? b = some o → hb.get? b = some o) → (∀ p ∈ l, p.1 ∉ bad) → News h₀ L hb l := fun N hk ho p hp => ⟨hk _ _ (ho p hp) (N p hp).1, (N p hp).2⟩
  have wD : ∀ p ∈ (D, LCg.lst ys) :: (new ++ (mov ++ news)), p.1 ∉ wr := fun p hp => (List.mem_cons.mp hp).elim (fun e => by rw [e]; exact hDw) (offw p)
  have cD : ∀ p ∈ (D, LCg.lst ys) :: (new ++ (mov ++ news)), p.1 ∉ cenv.locals :: ca := fun p hp hc => (List.mem_cons.mp hp).elim (fun e => by rw [e] at hc; exact hCD _ hc rfl) (fun h => offC _ hc p h rfl)
  by_cases hlt : i < n
  · refine W.item i _ _ _ hlt hst' fun v h₁ tk₁ hMd hk₁ => ?_
    dsimp only
    refine W.go i v _ _ _ hMd fun h₂ hP hst₂ hk₂ => ?_
    have F₂ : Fr h₀ L h₂ m := keepF (keepF F' hk₁ hLw hwr) hk₂ hLw hwr
    have N₂ : News h₀ L h₂ ((D, LCg.lst ys) :: (new ++ (mov ++ news))) := keepN (keepN N' hk₁ wD) hk₂ wD
    have hO₂ : OwnAt cenv.locals ca h₂ := by
      obtain ⟨⟨m', hn⟩, hc⟩ := hO'
      refine ⟨⟨m', hn.at' fun o e => hk₂ _ o (hCw _ List.mem_cons_self) (hk₁ _ o (hCw _ List.mem_cons_self) e)⟩, fun c hm => ?_⟩
      obtain ⟨v, o, e, hd⟩ := hc c hm
      exact ⟨v, o, hk₂ _ o (hCw _ (List.mem_cons_of_mem _ hm)) (hk₁ _ o (hCw _ (List.mem_cons_of_mem _ hm)) e), hd⟩
    refine hs i v _ _ _ hP hO₂ fun h₃ tk₃ names hnm hna hO₃ hH hk₃ => ?_
    have hLc : L ∉ cenv.locals :: ca := fun h => hCL _ h rfl
    have F₃ : Fr h₀ L h₃ m := keepF F₂ hk₃ hLc hC₀
    have N₃ : News h₀ L h₃ ((D, LCg.lst ys) :: (new ++ (mov ++ news))) := keepN N₂ hk₃ cD
    have hst₃ : St (i + 1) h₃ := W.frame _ _ _ hst₂ fun b hb o e => hk₃ b o (fun h => hCf b h hb) e
    have Nown : News h₀ L h₃ (PyProof.Rows.ownOf h₀ fp h₃) := news_ownOf hLf
    have hown : ∀ p ∈ PyProof.Rows.ownOf h₀ fp h₃, p.1 ∈ fp := ownOf_sub
    have hnames : ∀ p ∈ names, p.1 ∈ cenv.locals :: ca := fun p hp => hna ▸ List.mem_map_of_mem hp
    have Nn : News h₀ L h₃ names := fun p hp => ⟨hnm p hp, hCL _ (hnames p hp), hC₀ _ (hnames p hp)⟩
    have Nall : News h₀ L h₃ (names ++ ((D, LCg.lst ys) :: (PyProof.Rows.ownOf h₀ fp h₃ ++ (new ++ (mov ++ news))))) := Nn.append fun p hp => by
      rcases List.mem_cons.mp hp with rfl | hp
      · exact N₃ _ List.mem_cons_self
      · rcases List.mem_append.mp hp with hp | hp
        · exact Nown p hp
        · exact N₃ p (List.mem_cons_of_mem _ hp)
    have hwo : ∀ b ∈ wr, ∃ o, (b, o) ∈ PyProof.Rows.ownOf h₀ fp h₃ := fun b hb => by
      obtain ⟨o, e⟩ := hObj (i + 1) h₃ hst₃ b (W.sub b hb)
      exact ⟨o, mem_ownOf (W.sub b hb) (hwr b hb) e⟩
    have offall : ∀ p ∈ PyProof.Rows.ownOf h₀ fp h₃ ++ (new ++ (mov ++ news)), p.1 ≠ D := fun p hp => (List.mem_append.mp hp).elim (fun h e => hDf (e ▸ hown p h)) (offD p)
    have offnm : ∀ p ∈ names, p.1 ≠ D := fun p hp => hCD _ (hnames p hp)
    have offnq : ∀ p ∈ names, ∀ q ∈ PyProof.Rows.ownOf h₀ fp h₃ ++ (new ++ (mov ++ news)), q.1 ≠ p.1 := fun p hp q hq => (List.mem_append.mp hq).elim (fun h e => hCf _ (hnames p hp) (e ▸ hown q h)) (offC _ (hnames p hp) q)
    have offmv : ∀ p ∈ mov, ∀ q ∈ PyProof.Rows.ownOf h₀ fp h₃ ++ (new ++ news), q.1 ≠ p.1 := fun p hp q hq => by
      have hp₀ : ∃ p₀ ∈ mov₀, p₀.1 = p.1 := by
        have : p.1 ∈ mov₀.map (·.1) := hmk ▸ List.mem_map_of_mem hp
        obtain ⟨p₀, h1, h2⟩ := List.mem_map.mp this
        exact ⟨p₀, h1, h2⟩
      obtain ⟨p₀, hp₀, e₀⟩ := hp₀
      rw [← e₀]
      rcases List.mem_append.mp hq with hq | hq
      · exact fun e => hmf p₀ hp₀ (e ▸ hown q hq)
      · rcases List.mem_append.mp hq with hq | hq
        · exact fun e => (hnew q hq).2.2.2 p₀ (List.mem_append_left _ hp₀) e.symm
        · exact hmn p₀ hp₀ q hq
    refine wpAny_mono (turn i hlt v h₃ tk₃ gs (PyProof.Rows.ownOf h₀ fp h₃) names new mov D ys _ hH hna hwo hdone.1 hgs hJ F₃ Nall offall offnm offnq offmv hdone) (fun y s₄ h₄ => ?_) fun _ _ e => e
    obtain ⟨h₄, tk₄, gs₄, new', mov', rfl, hgs₄, hmk₄, hJ₄, F₄, N₄, ap₄, hFy⟩ := h₄
    have sub1 : ∀ p ∈ names ++ ((D, LCg.lst ys) :: (PyProof.Rows.ownOf h₀ fp h₃ ++ (new ++ (mov' ++ news)))), p ∈ new' ++ (names ++ ((D, LCg.lst ys) :: (PyProof.Rows.ownOf h₀ fp h₃ ++ (new ++ (mov' ++ news))))) := fun p hp => List.mem_append_right _ hp
    have zD := (N₄ (D, LCg.lst ys) (sub1 _ (List.mem_append_right _ List.mem_cons_self))).1
    have hst₄ : St (i + 1) h₄ := W.frame _ _ _ hst₃ fun b hb o e => by
      cases hn : h₀.get? b with
      | some o₀ =>
        have : o₀ = o := by have q := F₃.keep b o₀ hn; rw [e] at q; exact (Option.some.inj q).symm
        exact this ▸ F₄.keep b o₀ hn
      | none => exact (N₄ (b, o) (sub1 _ (List.mem_append_right _ (List.mem_cons_of_mem _ (List.mem_append_left _ (mem_ownOf hb hn e)))))).1
    have nmkeep : ∀ c ∈ cenv.locals :: ca, ∀ o, h₃.get? c = some o → h₄.get? c = some o := fun c hc o e => by
      rw [← hna] at hc
      obtain ⟨o', hm⟩ := mem_keys hc
      have q := hnm _ hm
      rw [e] at q
      cases q
      exact (N₄ _ (sub1 _ (List.mem_append_left _ hm))).1
    have hO₄ : OwnAt cenv.locals ca h₄ := by
      obtain ⟨⟨m', hn⟩, hc⟩ := hO₃
      refine ⟨⟨m', hn.at' fun o e => nmkeep _ List.mem_cons_self o e⟩, fun c hm => ?_⟩
      obtain ⟨v, o, e, hd⟩ := hc c hm
      exact ⟨v, o, nmkeep c (List.mem_cons_of_mem _ hm) o e, hd⟩
    have offD' : ∀ p ∈ new ++ (mov' ++ news), p.1 ≠ D := fun p hp => (List.mem_append.mp hp).elim (fun h => (hnew p h).1) fun hp => (List.mem_append.mp hp).elim (keys_ne (hmk₄.trans hmk) (fun p hp => hnD₀ p (List.mem_append_left _ hp)) p) fun h => hnD₀ p (List.mem_append_right _ h)
    have hnewD : ∀ p ∈ new', p.1 ≠ D := fun p hp e => ap₄ p hp _ (List.mem_append_right _ List.mem_cons_self) e.symm
    have hnewC : ∀ p ∈ new', ∀ c ∈ cenv.locals :: ca, p.1 ≠ c := fun p hp c hc e => by
      rw [← hna] at hc
      obtain ⟨o', hm⟩ := mem_keys hc
      exact ap₄ p hp _ (List.mem_append_left _ hm) e.symm
    have hneww : ∀ p ∈ new', p.1 ∉ wr := fun p hp hw => by
      obtain ⟨o, ho⟩ := hwo _ hw
      exact ap₄ p hp _ (List.mem_append_right _ (List.mem_cons_of_mem _ (List.mem_append_left _ ho))) rfl
    have hnewN : ∀ p ∈ new', ∀ q ∈ mov₀ ++ news, q.1 ≠ p.1 := fun p hp q hq => by
      rcases List.mem_append.mp hq with hq | hq
      · have : q.1 ∈ mov.map (·.1) := hmk ▸ List.mem_map_of_mem hq
        obtain ⟨q₀, h1, h2⟩ := List.mem_map.mp this
        rw [← h2]
        exact ap₄ p hp q₀ (List.mem_append_right _ (List.mem_cons_of_mem _ (List.mem_append_right _ (List.mem_append_right _ (List.mem_append_left _ h1)))))
      · exact ap₄ p hp q (List.mem_append_right _ (List.mem_cons_of_mem _ (List.mem_append_right _ (List.mem_append_right _ (List.mem_append_right _ hq)))))
    refine append_at (hsz := by show ys.toArray.size ≤ sizeLine; rw [List.size_toArray, hdone.1]; exact Nat.le_trans hi hsz) zD fun h₅ hs₅ hD₅ => ?_
    refine ⟨n + 1 - (i + 1), by omega, h₅, tk₄, gs₄, i + 1, ys ++ [y], new' ++ new, mov', rfl, gt _ _ _ hgs hgs₄, hmk₄.trans hmk, hJ₄, hlt, rfl, W.frame _ _ _ hst₄ fun b hb o e => hs₅.extBut b o (fun q => hDf (q ▸ hb)) e, F₄.change hs₅ hDL hD₀, ?_, fun p hp => ?_, ?_, hdone.snoc hFy⟩
    · obtain ⟨⟨m', hn⟩, hc⟩ := hO₄
      refine ⟨⟨m', hn.sameBut hs₅ (hCD _ List.mem_cons_self)⟩, fun c hm => ?_⟩
      obtain ⟨v, hv⟩ := hc c hm
      exact ⟨v, hv.sameBut hs₅ (hCD _ (List.mem_cons_of_mem _ hm))⟩
    · rcases List.mem_cons.mp hp with rfl | hp
      · exact ⟨hD₅.trans (congrArg some (LCg.lst_snoc ys y)), hDL, hD₀⟩
      · rw [List.append_assoc] at hp
        rcases List.mem_append.mp hp with hp | hp
        · have z := N₄ p (List.mem_append_left _ hp)
          exact ⟨hs₅.extBut _ _ (hnewD p hp) z.1, z.2⟩
        · have z := N₄ p (sub1 _ (List.mem_append_right _ (List.mem_cons_of_mem _ (List.mem_append_right _ hp))))
          exact ⟨hs₅.extBut _ _ (offD' p hp) z.1, z.2⟩
    · intro p hp
      rcases List.mem_append.mp hp with hp | hp
      · exact ⟨hnewD p hp, hnewC p hp, hneww p hp, hnewN p hp⟩
      · exact hnew p hp
  · have hx98 : i = n := Nat.le_antisymm hi (Nat.not_lt.mp hlt)
    rcases hx98 with rfl
    refine W.done _ _ _ hst' fun h₂ tk₂ hk₂ => ?_
    obtain ⟨⟨m', hn⟩, _⟩ := hO'
    exact hR h₂ tk₂ gs ys new mov hgs hmk hJ (keepF F' hk₂ hLw hwr) (keepN N' hk₂ wD) offD ⟨m', hn.at' fun o e => hk₂ _ o (hCw _ List.mem_cons_self) e⟩ (fun p hp => offC _ List.mem_cons_self p hp) (fun p hp => (hnew p hp).2.2.2) hdone
end
end Mine
namespace Mine

theorem cellsFrom_acc : ∀ (names : List (Str × NameKind)) (n : Nat) (acc : List (Str × Addr)), cellsFrom n names acc = cellsFrom n names [] ++ acc
  | [], _, _ => rfl
  | (x, k) :: r, n, acc => by
    unfold cellsFrom
    split
    · rw [cellsFrom_acc r (n + 1) ((x, n) :: acc), cellsFrom_acc r (n + 1) [(x, n)], List.append_assoc]; rfl
    · exact cellsFrom_acc r n acc

def caOf (scope : Scope) (C : Addr) : List Addr := (cellsFrom (C + 1) scope.names []).map (·.2)
abbrev cenvOf (scope : Scope) (cl : List (Str × Addr)) (env : Env) (C : Addr) : Env := compEnvC scope (cellsFrom (C + 1) scope.names cl) C env

section
variable {prog : Program} {w : World} {A : Around} {E : Value → Shared → Prop} {s : Shared} {h₀ : Heap} {L : Addr} {m : Str → Option Value} {env : Env}

theorem newEnv_comp {scope : Scope} {cl : List (Str × Addr)} {Q : Env → Shared → Prop}
    (h : ∀ h', h'.Ns s.heap.objs.size (fun _ => none) → (∀ c ∈ caOf scope s.heap.objs.size, h'.IsCell c none ∧ s.heap.objs.size < c) → (∀ b o, s.heap.get? b = some o → h'.get? b = some o) →
      Q (newEnv scope s.heap.objs.size env.globals (cellsFrom (s.heap.objs.size + 1) scope.names cl) env.qual none .none (some env) builtinsNs) { s with heap := h' }) :
    wpAny (model prog w) A (newFunctionEnv scope env.globals cl [] env.qual none .none (some env)) Q E s := by
  simp only [newFunctionEnv, Option.isSome_some, if_true]
  refine wpAny_bind (wpAny_alloc ?_)
  refine wpAny_bind (wpAny_layCells _ (fun name kind cells => by cases hkc : kind == NameKind.cell <;> simp [hkc]) _ _ _ _ ?_)
  have ok := cellsFrom_ok scope.names (s.heap.push { cls := .type "dict", data := .dict #[] }) (s.heap.objs.size + 1) [] ⟨fun _ _ hm => (nomatch hm), List.Pairwise.nil⟩ (by rw [Heap.size_push]; exact Nat.le_refl _)
  rw [Heap.size_push] at ok
  rw [show ({ s with heap := s.heap.push { cls := .type "dict", data := .dict #[] } } : Shared).heap.objs.size = s.heap.objs.size + 1 from Heap.size_push ..]
  refine wpAny_bind ?_
  rw [List.forIn_nil]
  refine wpAny_pure (wpAny_pure ?_)
  refine h _ ((Heap.Ns.new s.heap (.type "dict")).keeps (pushCells_keeps _ _)) (fun c hc => ?_) (fun b o e => pushCells_keeps _ _ b o (Heap.get?_push_of_some _ e))
  obtain ⟨⟨x, c'⟩, hm, rfl⟩ := List.mem_map.mp hc
  exact ⟨(ok.empty x c' hm).1, (ok.empty x c' hm).2⟩

/-- what a comprehension hands on -/
def FinG (h₀ : Heap) (L : Addr) (m : Str → Option Value) (s : Shared) (news : Led) (F : Nat → Value → Led → Prop) (n : Nat) (Q : Value → Shared → Prop) : Prop :=
  ∀ D h tk ys new, Fr h₀ L h m → News h₀ L h ((D, LCg.lst ys) :: (new ++ news)) → (∀ p ∈ new ++ news, p.1 ≠ D) → (∀ p ∈ new, ∀ q ∈ news, q.1 ≠ p.1) → CompDone F n ys new → Q (.ref D) { s with heap := h, toks := tk }
def FinGA (h₀ : Heap) (L : Addr) (m : Str → Option Value) (s : Shared) (news : Led) (F : Nat → Value → Led → Prop) (n : Nat) (y : Str) (Q : Flow → Shared → Prop) : Prop :=
  ∀ D h tk ys new, Fr h₀ L h (fun z => if z = y then some (.ref D) else m z) → News h₀ L h ((D, LCg.lst ys) :: (new ++ news)) → (∀ p ∈ new ++ news, p.1 ≠ D) → (∀ p ∈ new, ∀ q ∈ news, q.1 ≠ p.1) → CompDone F n ys new → Q .next { s with heap := h, toks := tk }

/-- a source in hand, its turns shown -/
inductive SrcG (prog : Program) (w : World) (A : Around) (h₀ : Heap) (L : Addr) (m : Str → Option Value) (env : Env) (target elt : Expr) (scope : Scope) (cl : List (Str × Addr)) (Fin : Shared → Led → (Nat → Value → Led → Prop) → Nat → Prop) (it : Value) (s : Shared) : Prop
  | mk (I : Addr) (fp wr : List Addr) (n : Nat) (P Md : Nat → Value → Heap → Prop) (St : Nat → Heap → Prop) (news : Led) (Holds : Addr → Nat → Value → Led → Prop) (F : Nat → Value → Led → Prop) (h1 : it = .ref I) (h2 : KTurns prog w A target I fp wr n P Md St) (h3 : ∀ (s : Shared) (Q : Value → Shared → Prop) (E : Value → Shared → Prop), St 0 s.heap → Q (.ref I) s → wpAny (model prog w) A (pyIter (.ref I)) Q E s) (h4 : n ≤ sizeLine) (h5 : ∀ i h, St i h → ∀ b ∈ fp, ∃ o, h.get? b = some o) (h6 : St 0 s.heap) (h7 : Fr h₀ L s.heap m) (h8 : News h₀ L s.heap news) (h9 : ∀ b ∈ wr, h₀.get? b = none) (h10 : L ∉ fp) (h11 : ∀ p ∈ news, p.1 ∉ wr) (h12 : ∀ C, Stores prog w A (cenvOf scope cl env C) target (caOf scope C) P (Holds C)) (h13 : ∀ C i, i < n → CompTurn prog w A h₀ L m (cenvOf scope cl env C) (caOf scope C) wr elt s news (Holds C) F i) (h14 : Fin s news F n)
/-- the iterable in hand; a name of its own, so that the walk stops here -/
def SrcX (prog : Program) (w : World) (A : Around) (h₀ : Heap) (L : Addr) (m : Str → Option Value) (env : Env) (target elt : Expr) (scope : Scope) (cl : List (Str × Addr)) (E : Value → Shared → Prop) (Fin : Shared → Led → (Nat → Value → Led → Prop) → Nat → Prop) (xv : Value) (s : Shared) : Prop :=
  wpAny (model prog w) A (pyIter xv) (SrcG prog w A h₀ L m env target elt scope cl Fin) E s

end
end Mine
namespace Mine
section
variable {prog : Program} {w : World} {A : Around} {E : Value → Shared → Prop} {s : Shared} {h₀ : Heap} {L : Addr} {m : Str → Option Value} {env : Env}

theorem comp_coreM {target elt iter : Expr} {scope : Scope} {cl : List (Str × Addr)} {pos : Pos} {I : Addr} {fp wr : List Addr} {n : Nat} {P Md : Nat → Value → Heap → Prop} {St : Nat → Heap → Prop} {news : Led}
    {Holds : Addr → Nat → Value → Led → Prop} {F : Nat → Value → Led → Prop} {RR : Value → Addr → Result → Shared → Prop} {G : Array GenState → Array GenState → Prop} {J : Nat → Led → Prop} {mov₀ : Led} (gt : ∀ a b c, G a b → G b c → G a c) (gr : ∀ a, G a a) (j₀ : J 0 mov₀) (hmn : ∀ p ∈ mov₀, ∀ q ∈ news, q.1 ≠ p.1) (hmf : ∀ p ∈ mov₀, p.1 ∉ fp)
    (W : KTurns prog w A target I fp wr n P Md St) (hself : ∀ (s : Shared) (Q : Value → Shared → Prop) (E : Value → Shared → Prop), St 0 s.heap → Q (.ref I) s → wpAny (model prog w) A (pyIter (.ref I)) Q E s)
    (hsz : n ≤ sizeLine) (hObj : ∀ i h, St i h → ∀ b ∈ fp, ∃ o, h.get? b = some o) (hst : St 0 s.heap)
    (F₀ : Fr h₀ L s.heap m) (N₀ : News h₀ L s.heap (mov₀ ++ news)) (hwr : ∀ b ∈ wr, h₀.get? b = none) (hLf : L ∉ fp) (hnw : ∀ p ∈ mov₀ ++ news, p.1 ∉ wr)
    (hs : ∀ C, Stores prog w A (cenvOf scope cl env C) target (caOf scope C) P (Holds C))
    (turn : ∀ C i, i < n → CompTurnM prog w A h₀ L m (cenvOf scope cl env C) (caOf scope C) wr elt s news G J (Holds C) F i)
    (hRR : ∀ D C h tk gs ys new mov, G s.gens gs → mov.map (·.1) = mov₀.map (·.1) → J n mov → Fr h₀ L h m → News h₀ L h ((D, LCg.lst ys) :: (new ++ (mov ++ news))) → (∀ p ∈ new ++ (mov ++ news), p.1 ≠ D) → (∃ m', h.Ns C m') → C ≠ L → h₀.get? C = none → C ≠ D → (∀ p ∈ new ++ (mov ++ news), p.1 ≠ C) → (∀ p ∈ new, ∀ q ∈ mov₀ ++ news, q.1 ≠ p.1) → CompDone F n ys new →
      RR (.ref D) C (.ok .next) { s with heap := h, toks := tk, gens := gs }) :
    wpAny (model prog w) A (newList []) (fun acc s₃ => wpAny (model prog w) A (newFunctionEnv scope env.globals cl [] env.qual none .none (some env)) (fun cenv s₄ =>
      codeAny (model prog w) A (.compStart (.ListComp elt [⟨target, iter, [], 0⟩] scope pos) 0 (.ref I) acc { cenv with scope := relabel scope env }) (RR acc cenv.locals) s₄) E s₃) E s := by
  refine wpAny_newObj_type (newEnv_comp fun h₁ hn hcells keep => ?_)
  dsimp only at hn hcells keep ⊢
  have fpl : ∀ b ∈ fp, b < s.heap.objs.size := fun b hb => let ⟨_, e⟩ := hObj 0 _ hst b hb; Heap.lt_size e
  generalize hH2 : s.heap.push { cls := .type "list", dict := none, data := .seq ([] : List Value).toArray } = H2 at hn hcells keep ⊢
  have hC : H2.objs.size = s.heap.objs.size + 1 := by rw [← hH2, Heap.size_push]
  have up : ∀ b o, s.heap.get? b = some o → h₁.get? b = some o := fun b o e => keep b o (hH2 ▸ Heap.get?_push_of_some _ e)
  have hacc : h₁.get? s.heap.objs.size = some (LCg.lst []) := keep _ _ (hH2 ▸ Heap.get?_push_size _ rfl)
  have fresh₀ : ∀ a, s.heap.objs.size ≤ a → h₀.get? a = none := fun a ha => by
    cases e : h₀.get? a with
    | none => rfl
    | some o' => exact absurd (Heap.lt_size (F₀.keep a o' e)) (Nat.not_lt.mpr ha)
  have hLlt : L < s.heap.objs.size := F₀.ns.lt
  have above : ∀ c ∈ H2.objs.size :: caOf scope H2.objs.size, s.heap.objs.size < c := fun c hc => by
    rcases List.mem_cons.mp hc with rfl | hc
    · rw [hC]; exact Nat.lt_succ_self _
    · exact Nat.lt_trans (by rw [hC]; exact Nat.lt_succ_self _) (hcells c hc).2
  have loop : ∀ s₃ : Shared, s₃ = { s with heap := h₁ } →
      codeAny (model prog w) A (.compLoop (.ListComp elt [⟨target, iter, [], 0⟩] scope pos) 0 (.ref I) (.ref s.heap.objs.size) (cenvOf scope cl env H2.objs.size)) (RR (.ref s.heap.objs.size) H2.objs.size) s₃ := by
    rintro s₃ rfl
    refine compLoop_ledM (s := { s with heap := h₁ }) (mov₀ := mov₀) (G := G) (J := J) gt gr j₀ hmn (ca := caOf scope H2.objs.size) (news := news) (Holds := Holds H2.objs.size) (F := F) W hsz hObj (hs _) (fun i hi => turn _ i hi) (W.frame _ _ _ hst fun b _ o e => up b o e)
      ⟨⟨_, hn⟩, fun c hc => ⟨none, (hcells c hc).1⟩⟩ (F₀.keeps up) (fun p hp => ?_) hwr hmf hLf (fun h => Nat.lt_irrefl _ (fpl _ h)) (fun c hc h => Nat.lt_asymm (above c hc) (fpl c h)) (fun c hc e => Nat.lt_irrefl _ (e ▸ above c hc : s.heap.objs.size < s.heap.objs.size))
      (fun c hc e => Nat.lt_asymm hLlt (e ▸ above c hc)) (fun c hc => fresh₀ c (Nat.le_of_lt (above c hc))) (fun p hp => Nat.ne_of_lt (Heap.lt_size (N₀ p hp).1)) (fun c hc p hp => Nat.ne_of_lt (Nat.lt_trans (Heap.lt_size (N₀ p hp).1) (above c hc))) hnw
      (fun h tk gs ys new mov g' k' j' F' N' oD hn' oC ap d => ?_)
    · rcases List.mem_cons.mp hp with rfl | hp
      · exact ⟨hacc, Nat.ne_of_gt hLlt, fresh₀ _ (Nat.le_refl _)⟩
      · exact ⟨up _ _ (N₀ p hp).1, (N₀ p hp).2⟩
    · exact hRR _ _ h tk gs ys new mov g' k' j' F' N' oD hn' (Nat.ne_of_gt (Nat.lt_trans hLlt (above _ List.mem_cons_self))) (fresh₀ _ (Nat.le_of_lt (above _ List.mem_cons_self))) (Nat.ne_of_gt (above _ List.mem_cons_self)) oC ap d
  have hself' := hself { s with heap := h₁ } (fun it' s' => codeAny (model prog w) A (.compLoop (.ListComp elt [⟨target, iter, [], 0⟩] scope pos) 0 it' (.ref s.heap.objs.size) (cenvOf scope cl env H2.objs.size)) (RR (.ref s.heap.objs.size) H2.objs.size) s')
    (notedBy (model prog w) A (cenvOf scope cl env H2.objs.size) fun x s' => (RR (.ref s.heap.objs.size) H2.objs.size) (.error x) s') (W.frame _ _ _ hst fun b _ o e => up b o e) (loop _ rfl)
  exact codeAny_compStart_list (loop _ rfl) hself'


/-- what the source hands to the turns: what it reads, what it writes -/
abbrev RestT := List Addr → List Addr → Shared → Led → (Addr → Nat → Value → Led → Prop) → (Nat → Value → Led → Prop) → Nat → Prop

def FinGM (h₀ : Heap) (L : Addr) (m : Str → Option Value) (s : Shared) (G : Array GenState → Array GenState → Prop) (mov₀ news : Led) (J : Nat → Led → Prop) (F : Nat → Value → Led → Prop) (n : Nat) (Q : Value → Shared → Prop) : Prop :=
  ∀ D h tk gs ys new mov, G s.gens gs → mov.map (·.1) = mov₀.map (·.1) → J n mov → Fr h₀ L h m → News h₀ L h ((D, LCg.lst ys) :: (new ++ (mov ++ news))) → (∀ p ∈ new ++ (mov ++ news), p.1 ≠ D) → (∀ p ∈ new, ∀ q ∈ mov₀ ++ news, q.1 ≠ p.1) → CompDone F n ys new → Q (.ref D) { s with heap := h, toks := tk, gens := gs }
def FinGAM (h₀ : Heap) (L : Addr) (m : Str → Option Value) (s : Shared) (G : Array GenState → Array GenState → Prop) (mov₀ news : Led) (J : Nat → Led → Prop) (F : Nat → Value → Led → Prop) (n : Nat) (y : Str) (Q : Flow → Shared → Prop) : Prop :=
  ∀ D h tk gs ys new mov, G s.gens gs → mov.map (·.1) = mov₀.map (·.1) → J n mov → Fr h₀ L h (fun z => if z = y then some (.ref D) else m z) → News h₀ L h ((D, LCg.lst ys) :: (new ++ (mov ++ news))) → (∀ p ∈ new ++ (mov ++ news), p.1 ≠ D) → (∀ p ∈ new, ∀ q ∈ mov₀ ++ news, q.1 ≠ p.1) → CompDone F n ys new → Q .next { s with heap := h, toks := tk, gens := gs }

inductive RestM (prog : Program) (w : World) (A : Around) (h₀ : Heap) (L : Addr) (m : Str → Option Value) (env : Env) (elt : Expr) (scope : Scope) (cl : List (Str × Addr)) (Fin : Shared → (Array GenState → Array GenState → Prop) → Led → Led → (Nat → Led → Prop) → (Nat → Value → Led → Prop) → Nat → Prop) (fp wr : List Addr) (s : Shared) (news : Led) (Holds : Addr → Nat → Value → Led → Prop) (F : Nat → Value → Led → Prop) (n : Nat) : Prop
  | mk (mov₀ fix : Led) (G : Array GenState → Array GenState → Prop) (J : Nat → Led → Prop) (h1 : news = mov₀ ++ fix) (h2 : ∀ a b c, G a b → G b c → G a c) (h3 : ∀ a, G a a) (h4 : J 0 mov₀) (h5 : ∀ p ∈ mov₀, ∀ q ∈ fix, q.1 ≠ p.1) (h6 : ∀ p ∈ mov₀, p.1 ∉ fp) (h7 : ∀ C i, i < n → CompTurnM prog w A h₀ L m (cenvOf scope cl env C) (caOf scope C) wr elt s fix G J (Holds C) F i) (h8 : Fin s G mov₀ fix J F n)

inductive SrcGY (prog : Program) (w : World) (A : Around) (h₀ : Heap) (L : Addr) (m : Str → Option Value) (env : Env) (target : Expr) (scope : Scope) (cl : List (Str × Addr)) (Rest : RestT) (it : Value) (s : Shared) : Prop
  | mk (I : Addr) (fp wr : List Addr) (n : Nat) (P Md : Nat → Value → Heap → Prop) (St : Nat → Heap → Prop) (news : Led) (Holds : Addr → Nat → Value → Led → Prop) (F : Nat → Value → Led → Prop) (h1 : it = .ref I) (h2 : KTurns prog w A target I fp wr n P Md St) (h3 : ∀ (s : Shared) (Q : Value → Shared → Prop) (E : Value → Shared → Prop), St 0 s.heap → Q (.ref I) s → wpAny (model prog w) A (pyIter (.ref I)) Q E s) (h4 : n ≤ sizeLine) (h5 : ∀ i h, St i h → ∀ b ∈ fp, ∃ o, h.get? b = some o) (h6 : St 0 s.heap) (h7 : Fr h₀ L s.heap m) (h8 : News h₀ L s.heap news) (h9 : ∀ b ∈ wr, h₀.get? b = none) (h10 : L ∉ fp) (h11 : ∀ p ∈ news, p.1 ∉ wr) (h12 : ∀ C, Stores prog w A (cenvOf scope cl env C) target (caOf scope C) P (Holds C)) (h13 : Rest fp wr s news Holds F n)
def SrcY (prog : Program) (w : World) (A : Around) (h₀ : Heap) (L : Addr) (m : Str → Option Value) (env : Env) (target : Expr) (scope : Scope) (cl : List (Str × Addr)) (E : Value → Shared → Prop) (Rest : RestT) (xv : Value) (s : Shared) : Prop :=
  wpAny (model prog w) A (pyIter xv) (SrcGY prog w A h₀ L m env target scope cl Rest) E s

theorem comp_exprM {target elt iter : Expr} {scope : Scope} {cl : List (Str × Addr)} {pos : Pos} {Q : Value → Shared → Prop} (_F₀ : Fr h₀ L s.heap m) (hclos : closureFor scope env = pure cl) (hkind : scope.kind = .function)
    (hnames : ∀ y ∈ scope.names, y.2 = .local → scope.names.lookup y.1 = some .local)
    (h : wpAny (model prog w) A (eval iter env) (SrcY prog w A h₀ L m env target scope cl E (RestM prog w A h₀ L m env elt scope cl (fun s G mov news J F n => FinGM h₀ L m s G mov news J F n Q))) E s)
    (hs : ∀ x, foldedSetIterable iter env x = pure x := by intro _; rfl) :
    wpAny (model prog w) A (eval (.ListComp elt [⟨target, iter, [], 0⟩] scope pos) env) Q E s := by
  rw [eval_ListComp]
  refine wpAny_comprehension_free (use := none) rfl hs hclos hkind hnames (wpAny_mono h (fun xv s₁ h₁ => wpAny_mono h₁ (fun it s₂ h₂ => ?_) fun _ _ e => e) fun _ _ e => e)
  obtain ⟨I, fp, wr, n, P, Md, St, news, Holds, F, rfl, W, hself, hsz, hObj, hst, F₀, N₀, hwr, hLf, hnw, hs, mov₀, fix, G, J, rfl, gt, gr, j₀, hmn, hmf, turn, fin⟩ := h₂
  refine comp_coreM gt gr j₀ hmn hmf W hself hsz hObj hst F₀ N₀ hwr hLf hnw hs turn fun D C h tk gs ys new mov g' k' j' F' N' oD ⟨m', hn⟩ hCL hC₀ hCD oC ap d => ?_
  refine ⟨m', hn, fun h'' hs'' => fin D h'' tk gs ys new mov g' k' j' (F'.change hs'' hCL hC₀) (fun p hp => ?_) oD ap d⟩
  refine ⟨hs''.extBut _ _ ?_ (N' p hp).1, (N' p hp).2⟩
  rcases List.mem_cons.mp hp with rfl | hp
  · exact Ne.symm hCD
  · exact oC p hp

theorem comp_assignM {target elt iter : Expr} {y : Str} {py : Pos} {scope : Scope} {cl : List (Str × Addr)} {pos spos : Pos} {Q : Flow → Shared → Prop} (_F₀ : Fr h₀ L s.heap m) (hLe : env.locals = L)
    (hsw : swapsWith (.ListComp elt [⟨target, iter, [], 0⟩] scope pos) (some (.Name y py)) spos.line env = pure true)
    (hclos : closureFor scope env = pure cl) (hkind : scope.kind = .function)
    (hnames : ∀ y ∈ scope.names, y.2 = .local → scope.names.lookup y.1 = some .local)
    (hy : env.kindOf y = some .local) (hp : (env.scope.kind == .class || (env.scope.kind == .module && env.locals != env.globals)) = false)
    (h : wpAny (model prog w) A (eval iter env) (SrcY prog w A h₀ L m env target scope cl E (RestM prog w A h₀ L m env elt scope cl (fun s G mov news J F n => FinGAM h₀ L m s G mov news J F n y Q))) E s)
    (hs : ∀ x, foldedSetIterable iter env x = pure x := by intro _; rfl) :
    wpAny (model prog w) A (exec (.Assign [.Name y py] (.ListComp elt [⟨target, iter, [], 0⟩] scope pos) spos) env) Q E s := by
  subst hLe
  rw [exec_Assign_Name_used _ _ _ _ hsw]
  refine wpAny_bind (wpAny_standAt (wpAny_bind ?_))
  show wpAny _ A (do let _ ← comprehension (.ListComp elt [⟨target, iter, [], 0⟩] scope pos) scope env _ (newList []) false (eval iter env) (some (assign (.Name y py) env))) _ _ s
  refine wpAny_bind (wpAny_mono (wpAny_comprehension_free (use := some (assign (.Name y py) env)) (Q := fun _ s' => Q .next s') rfl hs hclos hkind hnames
    (wpAny_mono h (fun xv s₁ h₁ => wpAny_mono h₁ (fun it s₂ h₂ => ?_) fun _ _ e => e) fun _ _ e => e)) (fun _ s' hq => wpAny_pure (wpAny_pure hq)) fun _ _ e => e)
  obtain ⟨I, fp, wr, n, P, Md, St, news, Holds, F, rfl, W, hself, hsz, hObj, hst, F₀, N₀, hwr, hLf, hnw, hs, mov₀, fix, G, J, rfl, gt, gr, j₀, hmn, hmf, turn, fin⟩ := h₂
  refine comp_coreM gt gr j₀ hmn hmf W hself hsz hObj hst F₀ N₀ hwr hLf hnw hs turn fun D C h tk gs ys new mov g' k' j' F' N' oD ⟨m', hn⟩ hCL hC₀ hCD oC ap d => ?_
  show wpAny _ A (assign (.Name y py) env (.ref D)) _ _ _
  refine wpAny_assign_Name (wpAny_storeName_local hy F'.ns (fun h₂ hn₂ hs₂ => ?_) hp)
  have hL₀ : h₀.get? env.locals = none := Heap.get?_none_of_le F'.above
  have F₂ : Fr h₀ env.locals h₂ (fun z => if z = y then some (.ref D) else m z) := ⟨hn₂, fun b o e => hs₂.extBut b o (fun q => by rw [q, hL₀] at e; cases e) (F'.keep b o e), F'.above⟩
  refine ⟨m', hn.sameBut hs₂ hCL, fun h'' hs'' => fin D h'' _ gs ys new mov g' k' j' (F₂.change hs'' hCL hC₀) (fun p hp => ?_) oD ap d⟩
  have z : h₂.get? p.1 = some p.2 := hs₂.extBut _ _ (N' p hp).2.1 (N' p hp).1
  refine ⟨hs''.extBut _ _ ?_ z, (N' p hp).2⟩
  rcases List.mem_cons.mp hp with rfl | hp
  · exact Ne.symm hCD
  · exact oC p hp
end
end Mine
namespace Mine
section
variable {prog : Program} {w : World} {A : Around} {E : Value → Shared → Prop} {s : Shared} {h₀ : Heap} {L : Addr} {m : Str → Option Value} {env : Env}
theorem comp_core {target elt iter : Expr} {scope : Scope} {cl : List (Str × Addr)} {pos : Pos} {I : Addr} {fp wr : List Addr} {n : Nat} {P Md : Nat → Value → Heap → Prop} {St : Nat → Heap → Prop} {news : Led}
    {Holds : Addr → Nat → Value → Led → Prop} {F : Nat → Value → Led → Prop} {RR : Value → Addr → Result → Shared → Prop}
    (W : KTurns prog w A target I fp wr n P Md St) (hself : ∀ (s : Shared) (Q : Value → Shared → Prop) (E : Value → Shared → Prop), St 0 s.heap → Q (.ref I) s → wpAny (model prog w) A (pyIter (.ref I)) Q E s)
    (hsz : n ≤ sizeLine) (hObj : ∀ i h, St i h → ∀ b ∈ fp, ∃ o, h.get? b = some o) (hst : St 0 s.heap)
    (F₀ : Fr h₀ L s.heap m) (N₀ : News h₀ L s.heap news) (hwr : ∀ b ∈ wr, h₀.get? b = none) (hLf : L ∉ fp) (hnw : ∀ p ∈ news, p.1 ∉ wr)
    (hs : ∀ C, Stores prog w A (cenvOf scope cl env C) target (caOf scope C) P (Holds C))
    (turn : ∀ C i, i < n → CompTurn prog w A h₀ L m (cenvOf scope cl env C) (caOf scope C) wr elt s news (Holds C) F i)
    (hRR : ∀ D C h tk ys new, Fr h₀ L h m → News h₀ L h ((D, LCg.lst ys) :: (new ++ news)) → (∀ p ∈ new ++ news, p.1 ≠ D) → (∃ m', h.Ns C m') → C ≠ L → h₀.get? C = none → C ≠ D → (∀ p ∈ new ++ news, p.1 ≠ C) → (∀ p ∈ new, ∀ q ∈ news, q.1 ≠ p.1) → CompDone F n ys new →
      RR (.ref D) C (.ok .next) { s with heap := h, toks := tk }) :
    wpAny (model prog w) A (newList []) (fun acc s₃ => wpAny (model prog w) A (newFunctionEnv scope env.globals cl [] env.qual none .none (some env)) (fun cenv s₄ =>
      codeAny (model prog w) A (.compStart (.ListComp elt [⟨target, iter, [], 0⟩] scope pos) 0 (.ref I) acc { cenv with scope := relabel scope env }) (RR acc cenv.locals) s₄) E s₃) E s := by
  refine comp_coreM (F := F) (G := fun a b => a = b) (J := fun _ l => l = []) (mov₀ := []) (fun _ _ _ h k => h.trans k) (fun _ => rfl) rfl (fun _ h => nomatch h) (fun _ h => nomatch h) W hself hsz hObj hst F₀ N₀ hwr hLf hnw hs (fun C i hi v h tk gs own names new mov D ys E' hH hna hwo hyl hG hJ F₁ N₁ oD oN oNq _ hd => ?_) (fun D C h tk gs ys new mov hG _ hJ F N oD hn hCL hC₀ hCD oC ap d => ?_)
  · subst hJ hG
    refine wpAny_mono (turn C i hi v h tk own names new D ys E' hH hna hwo hyl F₁ N₁ oD oN oNq hd) (fun y s' q => ?_) (fun _ _ e => e)
    obtain ⟨h', tk', new', e, F₂, N₂, ap, hF⟩ := q
    exact ⟨h', tk', s.gens, new', [], e, rfl, rfl, rfl, F₂, N₂, ap, hF⟩
  · subst hJ hG
    exact hRR D C h tk ys new F N oD hn hCL hC₀ hCD oC ap d
theorem comp_expr {target elt iter : Expr} {scope : Scope} {cl : List (Str × Addr)} {pos : Pos} {Q : Value → Shared → Prop} (_F₀ : Fr h₀ L s.heap m) (hclos : closureFor scope env = pure cl) (hkind : scope.kind = .function)
    (hnames : ∀ y ∈ scope.names, y.2 = .local → scope.names.lookup y.1 = some .local)
    (h : wpAny (model prog w) A (eval iter env) (SrcX prog w A h₀ L m env target elt scope cl E (fun s news F n => FinG h₀ L m s news F n Q)) E s)
    (hs : ∀ x, foldedSetIterable iter env x = pure x := by intro _; rfl) :
    wpAny (model prog w) A (eval (.ListComp elt [⟨target, iter, [], 0⟩] scope pos) env) Q E s := by
  rw [eval_ListComp]
  refine wpAny_comprehension_free (use := none) rfl hs hclos hkind hnames (wpAny_mono h (fun xv s₁ h₁ => wpAny_mono h₁ (fun it s₂ h₂ => ?_) fun _ _ e => e) fun _ _ e => e)
  obtain ⟨I, fp, wr, n, P, Md, St, news, Holds, F, rfl, W, hself, hsz, hObj, hst, F₀, N₀, hwr, hLf, hnw, hs, turn, fin⟩ := h₂
  refine comp_core W hself hsz hObj hst F₀ N₀ hwr hLf hnw hs turn fun D C h tk ys new F' N' oD ⟨m', hn⟩ hCL hC₀ hCD oC ap d => ?_
  refine ⟨m', hn, fun h'' hs'' => fin D h'' tk ys new (F'.change hs'' hCL hC₀) (fun p hp => ?_) oD ap d⟩
  refine ⟨hs''.extBut _ _ ?_ (N' p hp).1, (N' p hp).2⟩
  rcases List.mem_cons.mp hp with rfl | hp
  · exact Ne.symm hCD
  · exact oC p hp

theorem comp_assign {target elt iter : Expr} {y : Str} {py : Pos} {scope : Scope} {cl : List (Str × Addr)} {pos spos : Pos} {Q : Flow → Shared → Prop} (_F₀ : Fr h₀ L s.heap m) (hLe : env.locals = L)
    (hsw : swapsWith (.ListComp elt [⟨target, iter, [], 0⟩] scope pos) (some (.Name y py)) spos.line env = pure true)
    (hclos : closureFor scope env = pure cl) (hkind : scope.kind = .function)
    (hnames : ∀ y ∈ scope.names, y.2 = .local → scope.names.lookup y.1 = some .local)
    (hy : env.kindOf y = some .local) (hp : (env.scope.kind == .class || (env.scope.kind == .module && env.locals != env.globals)) = false)
    (h : wpAny (model prog w) A (eval iter env) (SrcX prog w A h₀ L m env target elt scope cl E (fun s news F n => FinGA h₀ L m s news F n y Q)) E s)
    (hs : ∀ x, foldedSetIterable iter env x = pure x := by intro _; rfl) :
    wpAny (model prog w) A (exec (.Assign [.Name y py] (.ListComp elt [⟨target, iter, [], 0⟩] scope pos) spos) env) Q E s := by
  subst hLe
  rw [exec_Assign_Name_used _ _ _ _ hsw]
  refine wpAny_bind (wpAny_standAt (wpAny_bind ?_))
  show wpAny _ A (do let _ ← comprehension (.ListComp elt [⟨target, iter, [], 0⟩] scope pos) scope env _ (newList []) false (eval iter env) (some (assign (.Name y py) env))) _ _ s
  refine wpAny_bind (wpAny_mono (wpAny_comprehension_free (use := some (assign (.Name y py) env)) (Q := fun _ s' => Q .next s') rfl hs hclos hkind hnames
    (wpAny_mono h (fun xv s₁ h₁ => wpAny_mono h₁ (fun it s₂ h₂ => ?_) fun _ _ e => e) fun _ _ e => e)) (fun _ s' hq => wpAny_pure (wpAny_pure hq)) fun _ _ e => e)
  obtain ⟨I, fp, wr, n, P, Md, St, news, Holds, F, rfl, W, hself, hsz, hObj, hst, F₀, N₀, hwr, hLf, hnw, hs, turn, fin⟩ := h₂
  refine comp_core W hself hsz hObj hst F₀ N₀ hwr hLf hnw hs turn fun D C h tk ys new F' N' oD ⟨m', hn⟩ hCL hC₀ hCD oC ap d => ?_
  show wpAny _ A (assign (.Name y py) env (.ref D)) _ _ _
  refine wpAny_assign_Name (wpAny_storeName_local hy F'.ns (fun h₂ hn₂ hs₂ => ?_) hp)
  have hL₀ : h₀.get? env.locals = none := Heap.get?_none_of_le F'.above
  have F₂ : Fr h₀ env.locals h₂ (fun z => if z = y then some (.ref D) else m z) := ⟨hn₂, fun b o e => hs₂.extBut b o (fun q => by rw [q, hL₀] at e; cases e) (F'.keep b o e), F'.above⟩
  refine ⟨m', hn.sameBut hs₂ hCL, fun h'' hs'' => fin D h'' _ ys new (F₂.change hs'' hCL hC₀) (fun p hp => ?_) oD ap d⟩
  have z : h₂.get? p.1 = some p.2 := hs₂.extBut _ _ (N' p hp).2.1 (N' p hp).1
  refine ⟨hs''.extBut _ _ ?_ z, (N' p hp).2⟩
  rcases List.mem_cons.mp hp with rfl | hp
  · exact Ne.symm hCD
  · exact oC p hp
end
end Mine
namespace Mine
section
variable {prog : Program} {w : World} {A : Around} {E : Value → Shared → Prop} {s : Shared} {h₀ : Heap} {L : Addr} {m : Str → Option Value} {env : Env} {scope : Scope} {cl : List (Str × Addr)}

/-- the cells' objects as they stand -/
def ledOf (h : Heap) (ca : List Addr) : Led := ca.filterMap fun c => (h.get? c).map fun o => (c, o)
theorem ledOf_get {h : Heap} : ∀ {ca : List Addr}, ∀ p ∈ ledOf h ca, h.get? p.1 = some p.2 := by
  intro ca p hp
  obtain ⟨c, _, e⟩ := List.mem_filterMap.mp hp
  cases q : h.get? c with
  | none => rw [q] at e; cases e
  | some o => rw [q] at e; cases e; exact q
theorem ledOf_keys {h : Heap} : ∀ {ca : List Addr}, (∀ c ∈ ca, ∃ v, h.IsCell c v) → (ledOf h ca).map (·.1) = ca
  | [], _ => rfl
  | c :: r, hc => by
    obtain ⟨v, o, e, _⟩ := hc c List.mem_cons_self
    have ih := ledOf_keys (h := h) (ca := r) fun c' h' => hc c' (List.mem_cons_of_mem _ h')
    unfold ledOf at ih ⊢
    rw [List.filterMap_cons, e]
    show c :: _ = c :: _
    rw [ih]
theorem ledOf_mem {h : Heap} {ca : List Addr} {c : Addr} {o : Obj} (hc : c ∈ ca) (e : h.get? c = some o) : (c, o) ∈ ledOf h ca := List.mem_filterMap.mpr ⟨c, hc, by rw [e]; rfl⟩

def HoldsL (x : Str) (V : Nat → Value → Prop) (C : Addr) (i : Nat) (v : Value) (own : Led) : Prop := V i v ∧ ∃ oC m₂ r, own = (C, oC) :: r ∧ LCg.NsObj oC m₂ ∧ m₂ x = some v
inductive HoldsP (x y : Str) (V : Nat → Value → Value → Prop) (C : Addr) (i : Nat) (_ : Value) (own : Led) : Prop
  | mk (v₁ v₂ : Value) (oC : Obj) (m₂ : Str → Option Value) (r : Led) (h1 : V i v₁ v₂) (h2 : own = (C, oC) :: r) (h3 : LCg.NsObj oC m₂) (h4 : m₂ x = some v₁) (h5 : m₂ y = some v₂)
def HoldsC (cx : Addr) (V : Nat → Value → Prop) (i : Nat) (v : Value) (own : Led) : Prop := V i v ∧ ∃ o, (cx, o) ∈ own ∧ o.data = .cell (some v)

theorem scopeKind (hkind : scope.kind = .function) {C : Addr} : ((cenvOf scope cl env C).scope.kind == .class || ((cenvOf scope cl env C).scope.kind == .module && (cenvOf scope cl env C).locals != (cenvOf scope cl env C).globals)) = false := by
  simp [compEnvC, relabel, hkind]

theorem stores_local {x : Str} {px : Pos} {P : Nat → Value → Heap → Prop} {V : Nat → Value → Prop} (hkind : scope.kind = .function) (hx : scope.names.lookup x = some .local) (hP : ∀ i v h, P i v h → V i v) (C : Addr) (hca : ∀ c ∈ caOf scope C, c ≠ C) :
    Stores prog w A (cenvOf scope cl env C) (.Name x px) (caOf scope C) P (HoldsL x V C) := fun i v s Q E hv ⟨⟨m', hn⟩, hc⟩ hQ => by
  refine wpAny_assign_Name (wpAny_storeName_local (lookup_relabel_local hx) hn (fun h' hn' hs' => ?_) (scopeKind hkind))
  have kp : ∀ b o, b ≠ C → s.heap.get? b = some o → h'.get? b = some o := fun b o hb e => hs'.extBut b o hb e
  have hc' : ∀ c ∈ caOf scope C, ∃ v, h'.IsCell c v := fun c h => let ⟨v, o, e, d⟩ := hc c h; ⟨v, o, kp c o (hca c h) e, d⟩
  obtain ⟨oC, e, hoC⟩ := LCg.ns_obj hn'
  refine hQ h' _ ((C, oC) :: ledOf h' (caOf scope C)) (fun p hp => ?_) (by rw [List.map_cons, ledOf_keys hc']; rfl) ⟨⟨_, hn'⟩, hc'⟩ ⟨hP i v _ hv, oC, _, _, rfl, hoC, by simp⟩ (fun b o hb e => kp b o (fun q => hb (q ▸ List.mem_cons_self)) e)
  rcases List.mem_cons.mp hp with rfl | hp
  · exact e
  · exact ledOf_get p hp

theorem stores_pair {x y : Str} {px py tp : Pos} {kk : Nat} {P : Nat → Value → Heap → Prop} {V : Nat → Value → Value → Prop} (hh : A.handled = none) (hkind : scope.kind = .function) (hx : scope.names.lookup x = some .local) (hy : scope.names.lookup y = some .local) (hxy : x ≠ y)
    (hP : ∀ i v h, P i v h → ∃ T v₁ v₂, v = .ref T ∧ V i v₁ v₂ ∧ h.IsTuple T #[v₁, v₂]) (C : Addr) (hca : ∀ c ∈ caOf scope C, c ≠ C) :
    Stores prog w A (cenvOf scope cl env C) (.Tuple [.Name x px, .Name y py] kk tp) (caOf scope C) P (HoldsP x y V C) := fun i v s Q E hv ⟨⟨m', hn⟩, hc⟩ hQ => by
  obtain ⟨T, v₁, v₂, rfl, hV, hT⟩ := hP i v _ hv
  refine kcp_assign hh hT (lookup_relabel_local hx) (lookup_relabel_local hy) (scopeKind hkind) hn fun h' tk hn' kp => ?_
  have hc' : ∀ c ∈ caOf scope C, ∃ v, h'.IsCell c v := fun c h => let ⟨v, o, e, d⟩ := hc c h; ⟨v, o, kp c o (hca c h) e, d⟩
  obtain ⟨oC, e, hoC⟩ := LCg.ns_obj hn'
  refine hQ h' tk ((C, oC) :: ledOf h' (caOf scope C)) (fun p hp => ?_) (by rw [List.map_cons, ledOf_keys hc']; rfl) ⟨⟨_, hn'⟩, hc'⟩ ⟨v₁, v₂, oC, _, _, hV, rfl, hoC, by simp [hxy], by simp⟩ (fun b o hb e => kp b o (fun q => hb (q ▸ List.mem_cons_self)) e)
  rcases List.mem_cons.mp hp with rfl | hp
  · exact e
  · exact ledOf_get p hp

theorem stores_cell {x : Str} {px : Pos} {cx : Addr} {P : Nat → Value → Heap → Prop} {V : Nat → Value → Prop} (C : Addr) (hkind : scope.kind = .function) (hx : (cenvOf scope cl env C).kindOf x = some .cell) (hcx : (cellsFrom (C + 1) scope.names cl).lookup x = some cx) (hcm : cx ∈ caOf scope C)
    (hP : ∀ i v h, P i v h → V i v) (hca : ∀ c ∈ caOf scope C, c ≠ C) (hone : ∀ c ∈ caOf scope C, c = cx) :
    Stores prog w A (cenvOf scope cl env C) (.Name x px) (caOf scope C) P (HoldsC cx V) := fun i v s Q E hv ⟨⟨m', hn⟩, hc⟩ hQ => by
  obtain ⟨v₀, hv₀⟩ := hc cx hcm
  refine wpAny_assign_Name (wpAny_storeName_cell hkind hx hcx hv₀ fun h' hv' hs' => ?_)
  have kp : ∀ b o, b ≠ cx → s.heap.get? b = some o → h'.get? b = some o := fun b o hb e => hs'.extBut b o hb e
  have hc' : ∀ c ∈ caOf scope C, ∃ v, h'.IsCell c v := fun c h => by rw [hone c h]; exact ⟨_, hv'⟩
  have hn' : h'.Ns C m' := hn.sameBut hs' (Ne.symm (hca cx hcm))
  obtain ⟨oC, e, hoC⟩ := LCg.ns_obj hn'
  obtain ⟨ocx, ecx, dcx⟩ := hv'
  refine hQ h' _ ((C, oC) :: ledOf h' (caOf scope C)) (fun p hp => ?_) (by rw [List.map_cons, ledOf_keys hc']; rfl) ⟨⟨_, hn'⟩, hc'⟩ ⟨hP i v _ hv, ocx, List.mem_cons_of_mem _ (ledOf_mem hcm ecx), dcx⟩
    (fun b o hb e => kp b o (fun q => hb (q ▸ List.mem_cons_of_mem _ hcm)) e)
  rcases List.mem_cons.mp hp with rfl | hp
  · exact e
  · exact ledOf_get p hp

theorem KTurns.ofName {x : Str} {px : Pos} {I : Addr} {fp wr : List Addr} {n : Nat} {P : Nat → Value → Prop} {St : Nat → Heap → Prop} (W : Walks prog w A I fp wr n P St) :
    KTurns prog w A (.Name x px) I fp wr n (fun i v _ => P i v) (fun i v h => P i v ∧ St (i + 1) h) St :=
  KTurns.ofWalks W fun _ _ _ _ _ _ hQ => wpAny_pure hQ

/-- a list of the ledger as the source -/
theorem src_list {x : Str} {px : Pos} {elt : Expr} {ax : Addr} {vs : List Value} {e : Nat} {news : Led} {Fin : Shared → Led → (Nat → Value → Led → Prop) → Nat → Prop} (F : Nat → Value → Led → Prop) (Holds : Addr → Nat → Value → Led → Prop)
    (hh : A.handled = none) (F₀ : Fr h₀ L s.heap m) (N : News h₀ L s.heap news) (hm : (ax, lsO vs e) ∈ news) (hsz : vs.length ≤ sizeLine)
    (hs : ∀ C, Stores prog w A (cenvOf scope cl env C) (.Name x px) (caOf scope C) (fun i v _ => vs[i]? = some v) (Holds C))
    (turn : ∀ C I i g, i < vs.length → CompTurn prog w A h₀ L m (cenvOf scope cl env C) (caOf scope C) [I] elt { s with heap := g } news (Holds C) F i)
    (fin : ∀ g, Fin { s with heap := g } news F vs.length) :
    SrcX prog w A h₀ L m env (.Name x px) elt scope cl E Fin (.ref ax) s := by
  have hl : s.heap.IsList ax vs.toArray := ⟨_, (N _ hm).1, rfl, _, rfl⟩
  have hlt : ax < s.heap.objs.size := Heap.lt_size (N _ hm).1
  have up : ∀ b o, s.heap.get? b = some o → (s.heap.push { cls := .type "list_iterator", data := .fields #[.ref ax, .int 0 0] }).get? b = some o := fun b o e => Heap.get?_push_of_some _ e
  unfold SrcX
  refine wpAny_pyIter_list hl ?_
  have W : Walks prog w A s.heap.objs.size [s.heap.objs.size, ax] [s.heap.objs.size] vs.length (fun i v => vs[i]? = some v) (fun i h => h.IsListIter s.heap.objs.size ax i ∧ h.IsList ax vs.toArray) := by
    have W := Walks.list (prog := prog) (w := w) hh s.heap.objs.size ax (Nat.ne_of_lt hlt) vs.toArray
    simpa using W
  refine ⟨s.heap.objs.size, _, _, vs.length, _, _, _, news, Holds, F, rfl, KTurns.ofName (x := x) (px := px) W, fun s Q E st hQ => W.self 0 s Q E st hQ, hsz, ?_, ⟨⟨_, Heap.get?_push_size _ rfl, rfl, rfl⟩, hl.push _⟩, F₀.keeps up, N.grown up, ?_, ?_, ?_, ?_, fun C i hi => turn C _ i _ hi, fin _⟩
  · rintro i h ⟨⟨o, e, _⟩, ⟨o', e', _⟩⟩ b hb
    rcases List.mem_cons.mp hb with rfl | hb
    · exact ⟨o, e⟩
    · rw [List.mem_singleton.mp hb]; exact ⟨o', e'⟩
  · intro b hb
    rw [List.mem_singleton.mp hb]
    exact next_is_new F₀
  · intro hL
    rcases List.mem_cons.mp hL with e | hL
    · exact Nat.lt_irrefl _ (e ▸ F₀.ns.lt : s.heap.objs.size < s.heap.objs.size)
    · exact (N _ hm).2.1 (List.mem_singleton.mp hL).symm
  · intro p hp h
    rw [List.mem_singleton] at h
    exact Nat.lt_irrefl _ (h ▸ Heap.lt_size (N p hp).1)
  · exact hs

/-- range(a) -/
theorem src_range {x : Str} {px : Pos} {elt : Expr} {r : Addr} {a b : Int} {t u v : Tok} {n : Nat} {news : Led} {Fin : Shared → Led → (Nat → Value → Led → Prop) → Nat → Prop} (F : Nat → Value → Led → Prop) (Holds : Addr → Nat → Value → Led → Prop)
    (hh : A.handled = none) (F₀ : Fr h₀ L s.heap m) (N : News h₀ L s.heap news) (hr : IsRange s.heap r a b 1 t u v) (hsm : Builtin.Range.small a b 1 = true) (hn : Builtin.Range.rangeSize a b 1 = (n : Int)) (hsz : n ≤ sizeLine)
    (hs : ∀ C, Stores prog w A (cenvOf scope cl env C) (.Name x px) (caOf scope C) (fun i v _ => ∃ t, v = .int (a + (i : Int)) t) (Holds C))
    (turn : ∀ C I i g, i < n → CompTurn prog w A h₀ L m (cenvOf scope cl env C) (caOf scope C) [I] elt { s with heap := g } news (Holds C) F i)
    (fin : ∀ g, Fin { s with heap := g } news F n) :
    SrcX prog w A h₀ L m env (.Name x px) elt scope cl E Fin (.ref r) s := by
  have W := LCg.range_walks (prog := prog) (w := w) (I := s.heap.objs.size) hh a n
  unfold SrcX
  refine wpAny_pyIter_range hr hsm ?_
  refine ⟨s.heap.objs.size, _, _, n, _, _, _, news, Holds, F, rfl, KTurns.ofName (x := x) (px := px) W, fun s Q E st hQ => W.self 0 s Q E st hQ, hsz, ?_, (by show IsRangeIter _ _ _ _ _; rw [hn]; simpa using Heap.get?_push_size _ rfl), F₀.keeps fun _ _ e => Heap.get?_push_of_some _ e, N.grown fun _ _ e => Heap.get?_push_of_some _ e, ?_, ?_, ?_, hs, fun C i hi => turn C _ i _ hi, fin _⟩
  · intro i h st b hb
    rw [List.mem_singleton.mp hb]
    exact ⟨_, st⟩
  · intro b hb
    rw [List.mem_singleton.mp hb]
    exact next_is_new F₀
  · intro hL
    exact Nat.lt_irrefl _ ((List.mem_singleton.mp hL) ▸ F₀.ns.lt : s.heap.objs.size < s.heap.objs.size)
  · intro p hp h
    rw [List.mem_singleton] at h
    exact Nat.lt_irrefl _ (h ▸ Heap.lt_size (N p hp).1)

/-- zip of two lists of the ledger -/
theorem src_zip {elts : List Expr} {kk : Nat} {tp : Pos} {elt : Expr} {l1 l2 : Addr} {xs ys : List Value} {e1 e2 : Nat} {news : Led} {Fin : Shared → Led → (Nat → Value → Led → Prop) → Nat → Prop} (F : Nat → Value → Led → Prop) (Holds : Addr → Nat → Value → Led → Prop)
    (hh : A.handled = none) (F₀ : Fr h₀ L s.heap m) (N : News h₀ L s.heap news) (hm1 : (l1, lsO xs e1) ∈ news) (hm2 : (l2, lsO ys e2) ∈ news) (hsz : min xs.length ys.length ≤ sizeLine)
    (hs : ∀ C, Stores prog w A (cenvOf scope cl env C) (.Tuple elts kk tp) (caOf scope C) (fun i v h => ∃ T vals, v = .ref T ∧ (∃ x y, xs[i]? = some x ∧ ys[i]? = some y ∧ vals = #[x, y]) ∧ h.IsTuple T vals) (Holds C))
    (turn : ∀ C wr i g, i < min xs.length ys.length → CompTurn prog w A h₀ L m (cenvOf scope cl env C) (caOf scope C) wr elt { s with heap := g } news (Holds C) F i)
    (fin : ∀ g, Fin { s with heap := g } news F (min xs.length ys.length)) :
    wpAny (model prog w) A (call (.type "zip") [.ref l1, .ref l2]) (SrcX prog w A h₀ L m env (.Tuple elts kk tp) elt scope cl E Fin) E s := by
  have hl1 : s.heap.IsList l1 xs.toArray := ⟨_, (N _ hm1).1, rfl, _, rfl⟩
  have hl2 : s.heap.IsList l2 ys.toArray := ⟨_, (N _ hm2).1, rfl, _, rfl⟩
  have hlt1 : l1 < s.heap.objs.size := Heap.lt_size (N _ hm1).1
  have hlt2 : l2 < s.heap.objs.size := Heap.lt_size (N _ hm2).1
  have D : ZipApart (s.heap.objs.size + 4) (s.heap.objs.size + 2) (s.heap.objs.size + 3) s.heap.objs.size (s.heap.objs.size + 1) l1 l2 := ktu_apart _ _ _ hlt1 hlt2
  refine call_zip_2 hl1 hl2 fun h' hz hTI hTO hi1 hi2 _ hk => ?_
  unfold SrcX
  refine wpAny_pyIter_zip hz ?_
  have W := (WalksT.zip2 (prog := prog) (w := w) hh _ _ _ _ _ _ _ D xs.toArray ys.toArray).toU
  simp only [List.size_toArray, List.getElem?_toArray] at W
  have K := KTurns.ofWalksU (elts := elts) (k := kk) (pos := tp) W
  have above : ∀ b ∈ [s.heap.objs.size + 4, s.heap.objs.size + 3, s.heap.objs.size, s.heap.objs.size + 1], s.heap.objs.size ≤ b := fun b hb => by
    simp only [List.mem_cons, List.not_mem_nil, or_false] at hb
    rcases hb with rfl | rfl | rfl | rfl
    · exact Nat.le_add_right _ _
    · exact Nat.le_add_right _ _
    · exact Nat.le_refl _
    · exact Nat.le_add_right _ _
  refine ⟨s.heap.objs.size + 4, _, _, min xs.length ys.length, _, _, _, news, Holds, F, rfl, K, fun s Q E st hQ => W.self 0 s Q E st hQ, hsz, ?_, ⟨hz, hTI, ⟨_, _, hTO⟩, hi1, hi2, hl1.at fun o e => hk _ o e, hl2.at fun o e => hk _ o e⟩, F₀.keeps hk, N.grown hk, ?_, ?_, ?_, ?_, fun C i hi => turn C _ i _ hi, fin _⟩
  · rintro i h ⟨hz, hTI, ⟨a, b, hTO⟩, ⟨o1, ho1, _⟩, ⟨o2, ho2, _⟩, ⟨o3, ho3, _⟩, ⟨o4, ho4, _⟩⟩ b hb
    simp only [List.mem_cons, List.not_mem_nil, or_false] at hb
    rcases hb with rfl | rfl | rfl | rfl | rfl | rfl | rfl
    · exact ⟨_, hz⟩
    · exact ⟨_, hTI⟩
    · exact ⟨_, hTO⟩
    · exact ⟨_, ho1⟩
    · exact ⟨_, ho2⟩
    · exact ⟨_, ho3⟩
    · exact ⟨_, ho4⟩
  · exact fun b hb => ktu_new F₀ (above b hb)
  · intro hL
    have hLs : L < s.heap.objs.size := F₀.ns.lt
    simp only [List.mem_cons, List.not_mem_nil, or_false] at hL
    rcases hL with e | e | e | e | e | e | e
    · exact ktu_ne 4 hLs e
    · exact ktu_ne 2 hLs e
    · exact ktu_ne 3 hLs e
    · exact Nat.ne_of_lt hLs e
    · exact ktu_ne 1 hLs e
    · exact (N _ hm1).2.1 e.symm
    · exact (N _ hm2).2.1 e.symm
  · intro p hp h
    exact Nat.lt_irrefl _ (Nat.lt_of_lt_of_le (Heap.lt_size (N p hp).1) (above _ h))
  · exact hs
end

/-- the walk halts here -/
def Halt (p : Prop) : Prop := p
theorem halt {p : Prop} (h : Halt p) : p := h
theorem Halt.go {p : Prop} (h : p) : Halt p := h
/-- marks: the walk halts at a call of the def at f; ahead of the statement at line n -/
inductive HaltCall (f : Addr) : Prop | mk
inductive StopAt (n : Nat) : Prop | mk
theorem haltCall {M A vs Q E s} {f : Addr} (_ : HaltCall f) (k : Halt (wpAny M A (call (.ref f) vs) Q E s)) : wpAny M A (call (.ref f) vs) Q E s := k
theorem stopAssign {M A Q E s env x v rest a b c} {n : Nat} (_ : StopAt n) (k : Halt (wpAny M A (execs (Stmt.Assign x v ⟨n, a, b, c⟩ :: rest) env) Q E s)) : wpAny M A (execs (Stmt.Assign x v ⟨n, a, b, c⟩ :: rest) env) Q E s := k
theorem stopIf {M A Q E s env x v u rest a b c} {n : Nat} (_ : StopAt n) (k : Halt (wpAny M A (execs (Stmt.If x v u ⟨n, a, b, c⟩ :: rest) env) Q E s)) : wpAny M A (execs (Stmt.If x v u ⟨n, a, b, c⟩ :: rest) env) Q E s := k
theorem stopFor {M A Q E s env x v u y rest a b c} {n : Nat} (_ : StopAt n) (k : Halt (wpAny M A (execs (Stmt.For x v u y ⟨n, a, b, c⟩ :: rest) env) Q E s)) : wpAny M A (execs (Stmt.For x v u y ⟨n, a, b, c⟩ :: rest) env) Q E s := k
theorem names1 {C : Addr} {oC : Obj} {r : Led} (h : ((C, oC) :: r).map (·.1) = [C]) : r = [] := by
  cases r with
  | nil => rfl
  | cons a b => simp at h
section
variable {prog : Program} {w : World} {A : Around} {s : Shared} {h₀ : Heap} {L I C : Addr} {m : Str → Option Value} {cenv : Env} {ca : List Addr} {elt : Expr} {news : Led} {F : Nat → Value → Led → Prop} {i : Nat}
/-- a turn over an opaque ledger: the name holds what the source gave -/
theorem turnR {τ : Type} {x : Str} {f : Nat → τ → Value} {P : Nat → τ → Prop}
    (k : ∀ t oC m₂ led h tk E', P i t → LCg.NsObj oC m₂ → m₂ x = some (f i t) → (C, oC) ∈ led → (∀ p ∈ news, p ∈ led) → Fr h₀ L h m → News h₀ L h led → wpAny (model prog w) A (eval elt cenv) (TurnEnd h₀ L m s led (F i)) E' { s with heap := h, toks := tk }) :
    CompTurn prog w A h₀ L m cenv ca [I] elt s news (HoldsL x (fun i v => ∃ t, v = f i t ∧ P i t) C) F i := fun v h tk own names new D ys E' hH _ _ _ F₁ N₁ _ _ _ _ => by
  obtain ⟨⟨t, e', hp⟩, oC, m₂, r, e, hC, hm⟩ := hH
  subst e e'
  exact k t oC m₂ _ h tk E' hp hC hm (List.mem_append_left _ List.mem_cons_self) (fun p hp => List.mem_append_right _ (List.mem_cons_of_mem _ (List.mem_append_right _ (List.mem_append_right _ hp)))) F₁ N₁
theorem turnL {x : Str} {f : Nat → Tok → Value}
    (k : ∀ t oC m₂ led h tk E', LCg.NsObj oC m₂ → m₂ x = some (f i t) → (C, oC) ∈ led → (∀ p ∈ news, p ∈ led) → Fr h₀ L h m → News h₀ L h led → wpAny (model prog w) A (eval elt cenv) (TurnEnd h₀ L m s led (F i)) E' { s with heap := h, toks := tk }) :
    CompTurn prog w A h₀ L m cenv ca [I] elt s news (HoldsL x (fun i v => ∃ t, v = f i t) C) F i := fun v h tk own names new D ys E' hH _ _ _ F₁ N₁ _ _ _ _ => by
  obtain ⟨⟨t, e'⟩, oC, m₂, r, e, hC, hm⟩ := hH
  subst e e'
  exact k t oC m₂ _ h tk E' hC hm (List.mem_append_left _ List.mem_cons_self) (fun p hp => List.mem_append_right _ (List.mem_cons_of_mem _ (List.mem_append_right _ (List.mem_append_right _ hp)))) F₁ N₁
theorem turnP {wr : List Addr} {x y : Str} {f g : Nat → Tok → Value}
    (k : ∀ t u oC m₂ led h tk E', LCg.NsObj oC m₂ → m₂ x = some (f i t) → m₂ y = some (g i u) → (C, oC) ∈ led → (∀ p ∈ news, p ∈ led) → Fr h₀ L h m → News h₀ L h led → wpAny (model prog w) A (eval elt cenv) (TurnEnd h₀ L m s led (F i)) E' { s with heap := h, toks := tk }) :
    CompTurn prog w A h₀ L m cenv ca wr elt s news (HoldsP x y (fun i v₁ v₂ => ∃ t u, v₁ = f i t ∧ v₂ = g i u) C) F i := fun v h tk own names new D ys E' hH _ _ _ F₁ N₁ _ _ _ _ => by
  obtain ⟨v₁, v₂, oC, m₂, r, ⟨t, u, e1, e2⟩, e, hC, hx, hy⟩ := hH
  subst e e1 e2
  exact k t u oC m₂ _ h tk E' hC hx hy (List.mem_append_left _ List.mem_cons_self) (fun p hp => List.mem_append_right _ (List.mem_cons_of_mem _ (List.mem_append_right _ (List.mem_append_right _ hp)))) F₁ N₁
theorem turnC {V : Nat → Tok → Value}
    (k : ∀ t oC o led h tk E', o.data = .cell (some (V i t)) → (C, oC) ∈ led → (C + 1, o) ∈ led → (∀ p ∈ news, p ∈ led) → Fr h₀ L h m → News h₀ L h led → wpAny (model prog w) A (eval elt cenv) (TurnEnd h₀ L m s led (F i)) E' { s with heap := h, toks := tk }) (hl : cenv.locals = C) :
    CompTurn prog w A h₀ L m cenv ca [I] elt s news (HoldsC (C + 1) (fun i v => ∃ t, v = V i t)) F i := fun v h tk own names new D ys E' hH hna _ _ F₁ N₁ _ _ _ _ => by
  obtain ⟨⟨t, e⟩, o, hm, hd⟩ := hH
  subst e
  have hx98 : ∃ oC, (C, oC) ∈ names := mem_keys (by rw [hna, hl]; exact List.mem_cons_self)
  obtain ⟨oC, hC⟩ := hx98
  exact k t oC o _ h tk E' hd (List.mem_append_left _ hC) (List.mem_append_left _ hm) (fun p hp => List.mem_append_right _ (List.mem_cons_of_mem _ (List.mem_append_right _ (List.mem_append_right _ hp)))) F₁ N₁
end
theorem subVia {a b c : Led} (h : ∀ p ∈ b, p ∈ c) (k : ∀ p ∈ a, p ∈ b) : ∀ p ∈ a, p ∈ c := fun p hp => h p (k p hp)
theorem memVia {a : Addr × Obj} {b c : Led} (h : ∀ p ∈ b, p ∈ c) (k : a ∈ b) : a ∈ c := h a k
theorem ints_at {vs : List Value} {cs : List Int} (h : IntsAre vs cs) : ∀ {i : Nat} {v : Value}, vs[i]? = some v → i < cs.length ∧ ∃ t, v = Value.int (cs.getD i 0) t := by
  induction h with
  | nil => intro i v e; simp at e
  | cons a t _ ih =>
    intro i v e
    cases i with
    | zero => simp at e; subst e; exact ⟨Nat.succ_pos _, t, rfl⟩
    | succ i =>
      obtain ⟨h1, t', h2⟩ := ih (i := i) (v := v) (by simpa using e)
      exact ⟨Nat.succ_lt_succ h1, t', by rw [h2]; simp⟩
theorem ints_of {cs : List Int} : ∀ {ys : List Value}, ys.length = cs.length → (∀ i y, ys[i]? = some y → ∃ t, y = Value.int (cs.getD i 0) t) → IntsAre ys cs := by
  induction cs with
  | nil => intro ys h _; rw [List.length_eq_zero_iff.mp h]; exact .nil
  | cons a r ih =>
    intro ys h hy
    cases ys with
    | nil => simp at h
    | cons y ys =>
      obtain ⟨t, e⟩ := hy 0 y rfl
      subst e
      exact .cons _ t (ih (by simpa using h) fun i z hz => by
        obtain ⟨t', e⟩ := hy (i + 1) z (by simpa using hz)
        exact ⟨t', by rw [e]; simp⟩)
/-- a comprehension whose elements are ints -/
abbrev IntEl (f : Nat → Int) (i : Nat) (y : Value) (new : Led) : Prop := new = [] ∧ ∃ t, y = Value.int (f i) t
theorem CompDone.ints {f : Nat → Int} {n : Nat} {ys : List Value} {new : Led} {cs : List Int} (h : CompDone (IntEl f) n ys new) (hl : cs.length = n) (hf : ∀ i, i < n → f i = cs.getD i 0) : IntsAre ys cs :=
  ints_of (h.1.trans hl.symm) fun i y hy => by
    obtain ⟨_, _, _, t, e⟩ := h.2 i y hy
    have hi : i < n := by
      rcases Nat.lt_or_ge i ys.length with q | q
      · exact h.1 ▸ q
      · rw [List.getElem?_eq_none q] at hy; cases hy
    exact ⟨t, by rw [e, hf i hi]⟩
theorem retList {R : Result → Shared → Prop} {news all : Led} {h₀ h' : Heap} {L : Addr} {m : Str → Option Value} {s : Shared} {tk' : Nat} {l : Addr} {vs : List Value} {e : Nat} {cs : List Int}
    (hret : ∀ r new h' tk', Fr h₀ L h' m → News h₀ L h' (new ++ news) → (∀ q ∈ new, ∀ p ∈ news, p.1 ≠ q.1) → (∃ l vs e, r = .ref l ∧ new = [(l, lsO vs e)] ∧ IntsAre vs cs) → R (.ok (.ret r)) { s with heap := h', toks := tk' })
    (F : Fr h₀ L h' m) (N : News h₀ L h' all) (hl : (l, lsO vs e) ∈ all) (hs : ∀ p ∈ news, p ∈ all) (a3 : ∀ p ∈ news, p.1 ≠ l) (hi : IntsAre vs cs) : R (.ok (.ret (.ref l))) { s with heap := h', toks := tk' } :=
  hret _ [(l, _)] _ _ F (newsSub N (subCons hl hs)) (apCons a3 apNil) ⟨l, vs, e, rfl, rfl, hi⟩
end Mine
namespace Mine
section
variable {prog : Program} {w : World} {A : Around} {E : Value → Shared → Prop} {s : Shared} {h₀ : Heap} {L : Addr} {m : Str → Option Value} {env : Env} {scope : Scope} {cl : List (Str × Addr)} {x y : Str} {px py : Pos} {elt : Expr} {ax : Addr} {e : Nat} {news : Led} {Fin : Shared → Led → (Nat → Value → Led → Prop) → Nat → Prop}
theorem noCa {C : Addr} (h : ∀ C, caOf scope C = []) : ∀ c ∈ caOf scope C, c ≠ C := fun c hc => by rw [h] at hc; exact nomatch hc
/-- a comprehension over a list of things, one name, told of an opaque ledger -/
theorem src_listR {xs : List Addr} {n : Nat} (F : Nat → Value → Led → Prop) (hh : A.handled = none) (F₀ : Fr h₀ L s.heap m) (N : News h₀ L s.heap news) (hm : (ax, lsO (xs.map Value.ref) e) ∈ news) (hn : xs.length = n) (hsz : n < 2 ^ 20)
    (hk : scope.kind = .function) (hx : scope.names.lookup x = some .local) (hca : ∀ C, caOf scope C = [])
    (turn : ∀ C i g z oC m₂ led h tk E', i < n → xs[i]? = some z → LCg.NsObj oC m₂ → m₂ x = some (.ref z) → (C, oC) ∈ led → (∀ p ∈ news, p ∈ led) → Fr h₀ L h m → News h₀ L h led → wpAny (model prog w) A (eval elt (cenvOf scope cl env C)) (TurnEnd h₀ L m { s with heap := g } led (F i)) E' { s with heap := h, toks := tk })
    (fin : ∀ g, Fin { s with heap := g } news F n) : SrcX prog w A h₀ L m env (.Name x px) elt scope cl E Fin (.ref ax) s := by
  subst hn
  refine src_list F (HoldsL x fun i v => ∃ z, v = .ref z ∧ xs[i]? = some z) hh F₀ N hm (by rw [sizeLine_eq, List.length_map]; omega) (fun C => stores_local hk hx (fun i v _ hv => ?_) C (noCa hca)) (fun C I i g hi => turnR fun z oC m₂ led h tk E' => turn C i g z oC m₂ led h tk E' (by rwa [List.length_map] at hi)) (fun g => by rw [List.length_map]; exact fin g)
  rw [List.getElem?_map, Option.map_eq_some_iff] at hv
  exact let ⟨z, h1, h2⟩ := hv; ⟨z, h2.symm, h1⟩
/-- the same over a list of ints -/
theorem src_listI {vs : List Value} {cs : List Int} {n : Nat} (F : Nat → Value → Led → Prop) (hh : A.handled = none) (F₀ : Fr h₀ L s.heap m) (N : News h₀ L s.heap news) (hm : (ax, lsO vs e) ∈ news) (hI : IntsAre vs cs) (hn : cs.length = n) (hsz : n < 2 ^ 20)
    (hk : scope.kind = .function) (hx : scope.names.lookup x = some .local) (hca : ∀ C, caOf scope C = [])
    (turn : ∀ C i g t oC m₂ led h tk E', i < n → LCg.NsObj oC m₂ → m₂ x = some (.int (cs.getD i 0) t) → (C, oC) ∈ led → (∀ p ∈ news, p ∈ led) → Fr h₀ L h m → News h₀ L h led → wpAny (model prog w) A (eval elt (cenvOf scope cl env C)) (TurnEnd h₀ L m { s with heap := g } led (F i)) E' { s with heap := h, toks := tk })
    (fin : ∀ g, Fin { s with heap := g } news F n) : SrcX prog w A h₀ L m env (.Name x px) elt scope cl E Fin (.ref ax) s := by
  subst hn
  exact src_list F (HoldsL x fun i v => ∃ t, v = .int (cs.getD i 0) t) hh F₀ N hm (by rw [sizeLine_eq, hI.length]; omega) (fun C => stores_local hk hx (fun i v _ hv => by exact (ints_at hI hv).2) C (noCa hca)) (fun C I i g hi => turnL fun t oC m₂ led h tk E' => turn C i g t oC m₂ led h tk E' (by rwa [hI.length] at hi)) (fun g => by rw [hI.length]; exact fin g)
/-- the same over two lists of ints, side by side -/
theorem src_zipI {kk : Nat} {tp : Pos} {l1 l2 : Addr} {xs ys : List Value} {e1 e2 : Nat} {as bs : List Int} {n : Nat} (F : Nat → Value → Led → Prop) (hh : A.handled = none) (F₀ : Fr h₀ L s.heap m) (N : News h₀ L s.heap news) (hm1 : (l1, lsO xs e1) ∈ news) (hm2 : (l2, lsO ys e2) ∈ news) (h1 : IntsAre xs as) (h2 : IntsAre ys bs) (ha : as.length = n) (hb : bs.length = n) (hsz : n < 2 ^ 20)
    (hk : scope.kind = .function) (hx : scope.names.lookup x = some .local) (hy : scope.names.lookup y = some .local) (hxy : x ≠ y) (hca : ∀ C, caOf scope C = [])
    (turn : ∀ C i g t u oC m₂ led h tk E', i < n → LCg.NsObj oC m₂ → m₂ x = some (.int (as.getD i 0) t) → m₂ y = some (.int (bs.getD i 0) u) → (C, oC) ∈ led → (∀ p ∈ news, p ∈ led) → Fr h₀ L h m → News h₀ L h led → wpAny (model prog w) A (eval elt (cenvOf scope cl env C)) (TurnEnd h₀ L m { s with heap := g } led (F i)) E' { s with heap := h, toks := tk })
    (fin : ∀ g, Fin { s with heap := g } news F n) : wpAny (model prog w) A (call (.type "zip") [.ref l1, .ref l2]) (SrcX prog w A h₀ L m env (.Tuple [.Name x px, .Name y py] kk tp) elt scope cl E Fin) E s := by
  have hl : min xs.length ys.length = n := by rw [h1.length, h2.length, ha, hb, Nat.min_self]
  refine src_zip F (HoldsP x y fun i v₁ v₂ => ∃ t u, v₁ = .int (as.getD i 0) t ∧ v₂ = .int (bs.getD i 0) u) hh F₀ N hm1 hm2 (by rw [hl, sizeLine_eq]; omega) (fun C => stores_pair hh hk hx hy hxy (fun i v h hv => ?_) C (noCa hca)) (fun C wr i g hi => ?_) (fun g => by rw [hl]; exact fin g)
  · obtain ⟨T, vals, e, ⟨v₁, v₂, g1, g2, e'⟩, hT⟩ := hv
    obtain ⟨_, t, e1⟩ := ints_at h1 g1
    obtain ⟨_, u, e2⟩ := ints_at h2 g2
    subst e e' e1 e2
    exact ⟨T, _, _, rfl, ⟨t, u, rfl, rfl⟩, hT⟩
  · exact turnP fun t u oC m₂ led h tk E' => turn C i g t u oC m₂ led h tk E' (hl ▸ hi)
end
end Mine
namespace Mine
section
variable {prog : Program} {w : World} {A : Around} {E : Value → Shared → Prop} {s : Shared} {h₀ : Heap} {L : Addr} {m : Str → Option Value} {env : Env} {scope : Scope} {cl : List (Str × Addr)}
/-- range(a) -/
theorem srcY_range {x : Str} {px : Pos} {r : Addr} {a b : Int} {t u v : Tok} {n : Nat} {news : Led} {Rest : RestT} (F : Nat → Value → Led → Prop) (Holds : Addr → Nat → Value → Led → Prop)
    (hh : A.handled = none) (F₀ : Fr h₀ L s.heap m) (N : News h₀ L s.heap news) (hr : IsRange s.heap r a b 1 t u v) (hsm : Builtin.Range.small a b 1 = true) (hn : Builtin.Range.rangeSize a b 1 = (n : Int)) (hsz : n ≤ sizeLine)
    (hs : ∀ C, Stores prog w A (cenvOf scope cl env C) (.Name x px) (caOf scope C) (fun i v _ => ∃ t, v = .int (a + (i : Int)) t) (Holds C))
    (rest : ∀ fp I g, (∀ b ∈ fp, s.heap.objs.size ≤ b ∨ b ∈ ([] : List Addr)) → Rest fp [I] { s with heap := g } news Holds F n) :
    SrcY prog w A h₀ L m env (.Name x px) scope cl E Rest (.ref r) s := by
  have W := LCg.range_walks (prog := prog) (w := w) (I := s.heap.objs.size) hh a n
  unfold SrcY
  refine wpAny_pyIter_range hr hsm ?_
  refine ⟨s.heap.objs.size, _, _, n, _, _, _, news, Holds, F, rfl, KTurns.ofName (x := x) (px := px) W, fun s Q E st hQ => W.self 0 s Q E st hQ, hsz, ?_, (by show IsRangeIter _ _ _ _ _; rw [hn]; simpa using Heap.get?_push_size _ rfl), F₀.keeps fun _ _ e => Heap.get?_push_of_some _ e, N.grown fun _ _ e => Heap.get?_push_of_some _ e, ?_, ?_, ?_, hs, rest _ _ _ ?fp⟩
  · intro i h st b hb
    rw [List.mem_singleton.mp hb]
    exact ⟨_, st⟩
  · intro b hb
    rw [List.mem_singleton.mp hb]
    exact next_is_new F₀
  · intro hL
    exact Nat.lt_irrefl _ ((List.mem_singleton.mp hL) ▸ F₀.ns.lt : s.heap.objs.size < s.heap.objs.size)
  · intro p hp h
    rw [List.mem_singleton] at h
    exact Nat.lt_irrefl _ (h ▸ Heap.lt_size (N p hp).1)
  case fp =>
    intro b hb
    rw [List.mem_singleton.mp hb]
    exact .inl (Nat.le_refl _)

end


end Mine
namespace Mine
section
variable {prog : Program} {w : World} {h₀ : Heap}

/-- all that stands beside C and the base -/
def restOf (h₀ : Heap) (C : Addr) (h : Heap) : Led := PyProof.Rows.ownOf h₀ ((List.range h.objs.size).filter fun b => b != C) h
theorem restOf_news {C : Addr} {h : Heap} : News h₀ C h (restOf h₀ C h) := news_ownOf fun hm => by
  have := (List.mem_filter.mp hm).2
  simp at this
theorem restOf_mem {C b : Addr} {h : Heap} {o : Obj} (hb : b ≠ C) (hn : h₀.get? b = none) (e : h.get? b = some o) : (b, o) ∈ restOf h₀ C h :=
  mem_ownOf (List.mem_filter.mpr ⟨List.mem_range.mpr (Heap.lt_size e), by simpa using hb⟩) hn e

/-- the heap's first n places -/
def cut (h : Heap) (n : Nat) : Heap := { h with objs := h.objs.extract 0 n }
theorem cut_size {h : Heap} {n : Nat} (hn : n ≤ h.objs.size) : (cut h n).objs.size = n := by simp [cut]; omega
theorem cut_get {h : Heap} {n b : Nat} (hb : b < n) : (cut h n).get? b = h.get? b := by
  have key : (h.objs.extract 0 n)[b]? = h.objs[b]? := by
    rw [Array.getElem?_extract]
    by_cases hs : b < h.objs.size
    · rw [if_pos (by omega)]; simp
    · rw [if_neg (by omega), Array.getElem?_eq_none (by omega)]
  unfold cut Heap.get?
  dsimp only
  rw [key]
theorem cut_none {h : Heap} {n b : Nat} (hb : n ≤ b) : (cut h n).get? b = none := by
  refine Heap.get?_none_of_le ?_
  show (h.objs.extract 0 n).size ≤ b
  rw [Array.size_extract]; omega
/-- the base that a generator's turn stands on: the base below, and the caller's frame -/
def genBase (h₀ : Heap) (L C : Addr) (h : Heap) : Heap := hideAll (cut h C) ((List.range C).filter fun b => (h₀.get? b).isNone && b != L)
theorem genBase_of {L C b : Addr} {h : Heap} {o : Obj} (e : (genBase h₀ L C h).get? b = some o) : h.get? b = some o := by
  have e := of_hideAll _ e
  rcases Nat.lt_or_ge b C with hb | hb
  · rwa [cut_get hb] at e
  · rw [cut_none hb] at e; cases e
theorem genBase_get {L C b : Addr} {h : Heap} {o : Obj} (hb : b < C) (e : h.get? b = some o) (hn : h₀.get? b ≠ none ∨ b = L) : (genBase h₀ L C h).get? b = some o := by
  refine hideAll_get _ (by rw [cut_get hb]; exact e) fun hm => ?_
  have hm := (List.mem_filter.mp hm).2
  rcases hn with hn | hn
  · cases q : h₀.get? b with
    | none => exact hn q
    | some o => rw [q] at hm; simp at hm
  · subst hn; simp at hm
theorem genBase_none {L C b : Addr} {h : Heap} (hn : h₀.get? b = none) (hb : b ≠ L) : (genBase h₀ L C h).get? b = none := by
  rcases Nat.lt_or_ge b C with hC | hC
  · exact hideAll_none _ (List.mem_filter.mpr ⟨List.mem_range.mpr hC, by simp [hn, hb]⟩)
  · exact Heap.get?_none_of_le (Nat.le_trans (by
      unfold genBase
      rw [hideAll_size]
      show (h.objs.extract 0 C).size ≤ C
      rw [Array.size_extract]; omega) hC)
theorem genBase_size {L C : Addr} {h : Heap} : (genBase h₀ L C h).objs.size ≤ C := by
  unfold genBase
  rw [hideAll_size]
  show (h.objs.extract 0 C).size ≤ C
  rw [Array.size_extract]; omega
theorem genBase_ns {L C : Addr} {h : Heap} {m : Str → Option Value} (hL : L < C) (n : h.Ns L m) : (genBase h₀ L C h).Ns L m := n.at' fun o e => genBase_get hL e (.inr rfl)

/-- a generator's turn: its element, in its own frame C, on any base that holds the caller's frame L -/
def GenTurn (prog : Program) (w : World) (A : Around) (h₀ : Heap) (L : Addr) (m : Str → Option Value) (C : Addr) (cenv : Env) (elt : Expr) (x : Str) (news : Led) (V : Nat → Value → Prop) (F : Nat → Value → Led → Prop) (i : Nat) : Prop :=
  ∀ (G : Heap) (s : Shared) (v : Value) (mC : Str → Option Value) (rest : Led) (E' : Value → Shared → Prop), V i v → mC x = some v → (∀ p ∈ news, p ∈ rest) → (∀ b o, h₀.get? b = some o → G.get? b = some o) → G.Ns L m → Fr G C s.heap mC → News G C s.heap rest →
    wpAny (model prog w) A (eval elt cenv) (TurnEnd G C mC s rest (F i)) E' s

/-- what the generator's turns want of the heap -/
def Ready (h₀ : Heap) (L : Addr) (m : Str → Option Value) (C : Addr) (news : Led) (St : Nat → Heap → Prop) (i : Nat) (h : Heap) : Prop :=
  St i h ∧ h.Ns L m ∧ (∃ m', h.Ns C m') ∧ (∀ b o, h₀.get? b = some o → h.get? b = some o) ∧ ∀ p ∈ news, h.get? p.1 = some p.2
def Fresh (h h' : Heap) (new : Led) : Prop := ∀ q ∈ new, h'.get? q.1 = some q.2 ∧ h.get? q.1 = none
def genY (h₀ : Heap) (L : Addr) (m : Str → Option Value) (C : Addr) (wr : List Addr) (news : Led) (St : Nat → Heap → Prop) (n : Nat) (F : Nat → Value → Led → Prop) : Protocol := fun k s₀ v s kap =>
  GenSince C wr s₀ s ∧ Ready h₀ L m C news St (n - k) s.heap ∧ (∃ new, Fresh s₀.heap s.heap new ∧ F (n - 1 - k) v new) ∧ ∀ s'' : Shared, Ready h₀ L m C news St (n - k) s''.heap → kap (.send .none) s''

theorem seg_genLed {A : Around} {elt iter : Expr} {x : Str} {px : Pos} {scope : Scope} {pos : Pos} {I : Addr} {fp wr : List Addr} {n : Nat} {V : Nat → Value → Prop} {St : Nat → Heap → Prop} {cenv : Env} {news : Led} {F : Nat → Value → Led → Prop} {L : Addr} {m : Str → Option Value} (hL : L < cenv.locals ∧ L ∉ wr ∧ h₀.get? L = none)
    (hh : A.handled = none) (W₀ : ∀ A' : Around, A'.handled = none → Walks prog w A' I fp wr n V St)
    (hx : cenv.kindOf x = some .local) (hp : (cenv.scope.kind == .class || (cenv.scope.kind == .module && cenv.locals != cenv.globals)) = false)
    (hco : cenv.scope.isCoroutine = false) (hCf : cenv.locals ∉ fp) (hObj : ∀ i h, St i h → ∀ b ∈ fp, ∃ o, h.get? b = some o)
    (hwr : ∀ b ∈ wr, h₀.get? b = none) (hnw : ∀ p ∈ news, p.1 ∉ wr ∧ p.1 ≠ cenv.locals ∧ h₀.get? p.1 = none) (hnL : ∀ p ∈ news, p.1 ≠ L) (hC : h₀.objs.size ≤ cenv.locals)
    (turn : ∀ i, i < n → GenTurn prog w (A.over (.compLoop (.GeneratorExp elt [⟨.Name x px, iter, [], 0⟩] scope pos) 0 (.ref I) .none cenv) []) h₀ L m cenv.locals cenv elt x news V F i) :
    ∀ (k i : Nat) (s₀ s : Shared), n - i = k → i ≤ n → Ready h₀ L m cenv.locals news St i s.heap → GenSince cenv.locals wr s₀ s → (∀ b ∈ cenv.locals :: wr, ∃ o, s.heap.get? b = some o) →
      Seg (model prog w) A (fun n s₀ r s₁ => r = .ok .next ∧ (n = 0 ∧ GenSince cenv.locals wr s₀ s₁)) (genY h₀ L m cenv.locals wr news St n F) (n - i) s₀
        (.compLoop (.GeneratorExp elt [⟨.Name x px, iter, [], 0⟩] scope pos) 0 (.ref I) .none cenv)
        ((model prog w).den (.compLoop (.GeneratorExp elt [⟨.Name x px, iter, [], 0⟩] scope pos) 0 (.ref I) .none cenv)) [] s := by
  have hh' : (A.over (.compLoop (.GeneratorExp elt [⟨.Name x px, iter, [], 0⟩] scope pos) 0 (.ref I) .none cenv) []).handled = none := hh
  have hCw : cenv.locals ∉ wr := fun h => hCf ((W₀ A hh).sub _ h)
  have hC₀ : h₀.get? cenv.locals = none := Heap.get?_none_of_le hC
  intro k
  induction k with
  | zero =>
    intro i s₀ s hk hi hst hsince _
    obtain ⟨hst, _, _, _, _⟩ := hst
    have hin : i = n := by omega
    subst hin
    rw [Nat.sub_self]
    show Seg _ A _ _ _ s₀ _ ((compTurn (.GeneratorExp elt [⟨.Name x px, iter, [], 0⟩] scope pos) 0 (.ref I) .none cenv).onRaise (leaving cenv)) [] s
    rw [compTurn_gen, Sem.onRaise_eq_wrap]
    refine seg_bind_wrap (wpAny_standAt ?_)
    refine seg_bind_wrap ((W₀ _ hh').done s _ _ hst fun h' tk hk' => ?_)
    exact seg_end (.ok .next) ⟨rfl, rfl, hsince.step fun b o _ hw e => hk' b o hw e⟩
  | succ k ih =>
    intro i s₀ s hk hi hst hsince hlive
    obtain ⟨hst, hnL₁, ⟨mC, hn⟩, hb, hnews⟩ := hst
    have hlt : i < n := by omega
    show Seg _ A _ _ _ s₀ _ ((compTurn (.GeneratorExp elt [⟨.Name x px, iter, [], 0⟩] scope pos) 0 (.ref I) .none cenv).onRaise (leaving cenv)) [] s
    rw [compTurn_gen, Sem.onRaise_eq_wrap]
    refine seg_bind_wrap (wpAny_standAt ?_)
    refine seg_bind_wrap ((W₀ _ hh').item i s _ _ hlt hst fun v h₁ tk₁ hPv hst₁ hk₁ => ?_)
    refine seg_bind_wrap (wpAny_of_eq (rfl : letOwnedTupleGo (.Name x px) (.ref I) v = pure ()) ?_)
    refine seg_bind_wrap (wpAny_assign_Name (wpAny_storeName_local hx (hn.at' fun o e => hk₁ _ o hCw e) (fun h₂ hn₂ hs₂ => ?_) hp))
    have up₂ : ∀ b o, b ≠ cenv.locals → b ∉ wr → s.heap.get? b = some o → h₂.get? b = some o := fun b o hbC hbw e => hs₂.extBut b o hbC (hk₁ b o hbw e)
    have hst₂ : St (i + 1) h₂ := (W₀ A hh).frame _ _ _ hst₁ fun b hb o e => hs₂.extBut b o (fun h => hCf (h ▸ hb)) e
    have live₂ : ∀ b ∈ wr, ∃ o, h₂.get? b = some o := fun b hb => hObj _ _ hst₂ b ((W₀ A hh).sub b hb)
    have hb₂ : ∀ b o, h₀.get? b = some o → h₂.get? b = some o := fun b o e => up₂ b o (fun q => by rw [q, hC₀] at e; cases e) (fun q => by rw [hwr b q] at e; cases e) (hb b o e)
    have hnews₂ : ∀ p ∈ news, h₂.get? p.1 = some p.2 := fun p hp => up₂ _ _ (hnw p hp).2.1 (hnw p hp).1 (hnews p hp)
    refine seg_bind_wrap (wpAny_of_eq (a := true) (by rfl) ?_)
    simp only [if_true]
    have hy : ∀ v, yieldOut cenv v = yieldValue v := fun v => by simp only [yieldOut, hco, Bool.false_eq_true, if_false]
    simp only [hy]
    rw [Sem.bind_eq_wrap', Sem.bind_eq_wrap', Sem.wrap_wrap, Sem.wrap_wrap]
    have hLC : L ≠ cenv.locals := Nat.ne_of_lt hL.1
    have hnL₂ : h₂.Ns L m := hnL₁.at' fun o e => up₂ L o hLC hL.2.1 e
    have gG : ∀ b o, h₀.get? b = some o → (genBase h₀ L cenv.locals h₂).get? b = some o := fun b o e => genBase_get (Nat.lt_of_lt_of_le (Heap.lt_size e) hC) (hb₂ b o e) (.inl (by rw [e]; exact fun h => nomatch h))
    have gN : ∀ {b : Addr} {o : Obj}, b ≠ cenv.locals → h₀.get? b = none → b ≠ L → h₂.get? b = some o → (b, o) ∈ restOf (genBase h₀ L cenv.locals h₂) cenv.locals h₂ := fun h1 h2 h3 e => restOf_mem h1 (genBase_none h2 h3) e
    refine seg_wrap (wpAny_mono (turn i hlt (genBase h₀ L cenv.locals h₂) _ v _ (restOf (genBase h₀ L cenv.locals h₂) cenv.locals h₂) _ hPv (by simp) (fun p hp => gN (hnw p hp).2.1 (hnw p hp).2.2 (hnL p hp) (hnews₂ p hp)) gG (genBase_ns hL.1 hnL₂) ⟨hn₂, fun b o e => genBase_of e, genBase_size⟩ restOf_news) (fun y s₄ h₄ => ?_) fun _ _ e => e)
    obtain ⟨h₄, tk₄, new', rfl, F₄, N₄, ap₄, hFy⟩ := h₄
    have k₄ : ∀ b o, b ≠ cenv.locals → h₂.get? b = some o → h₄.get? b = some o := fun b o hbC e => by
      cases hq : (genBase h₀ L cenv.locals h₂).get? b with
      | some o₀ =>
        have := genBase_of hq
        rw [e] at this
        exact (Option.some.inj this) ▸ F₄.keep b o₀ hq
      | none => exact (N₄ (b, o) (List.mem_append_right _ (restOf_mem hbC hq e))).1
    have hst₄ : St (i + 1) h₄ := (W₀ A hh).frame _ _ _ hst₂ fun b hb o e => k₄ b o (fun q => hCf (q ▸ hb)) e
    have rdy : Ready h₀ L m cenv.locals news St (i + 1) h₄ := ⟨hst₄, hnL₂.at' fun o e => k₄ L o hLC e, ⟨_, F₄.ns⟩, fun b o e => F₄.keep b o (gG b o e), fun p hp => k₄ _ _ (hnw p hp).2.1 (hnews₂ p hp)⟩
    have e1 : n - i = (n - (i + 1)) + 1 := by omega
    have e2 : n - (n - (i + 1)) = i + 1 := by omega
    have e3 : n - 1 - (n - (i + 1)) = i := by omega
    have hold : ∀ b, s₀.heap.get? b ≠ none → ∃ o, h₂.get? b = some o := fun b hbn => by
      obtain ⟨h₁', tk', rfl, hk'⟩ := hsince
      cases q : s₀.heap.get? b with
      | none => exact absurd q hbn
      | some o =>
        by_cases hbC : b = cenv.locals
        · exact hbC ▸ (let ⟨o, e, _⟩ := LCg.ns_obj hn₂; ⟨o, e⟩)
        · by_cases hbw : b ∈ wr
          · exact live₂ b hbw
          · exact ⟨o, up₂ b o hbC hbw (hk' b o hbC hbw q)⟩
    rw [e1]
    refine seg_at (seg_yield rfl rfl rfl ⟨hsince.step fun b o hbC hbw e => k₄ b o hbC (up₂ b o hbC hbw e), by rw [e2]; exact rdy, ⟨new', fun q hq => ⟨(N₄ q (List.mem_append_left _ hq)).1, ?_⟩, by rw [e3]; exact hFy⟩, fun s'' hal => ?_⟩)
    · cases e : s₀.heap.get? q.1 with
      | none => rfl
      | some o =>
        have e9 := hold q.1 (by rw [e]; exact fun h => nomatch h)
        obtain ⟨o', e'⟩ := e9
        have z := N₄ q (List.mem_append_left _ hq)
        exact absurd rfl (ap₄ q hq (q.1, o') (restOf_mem z.2.1 z.2.2 e'))
    · rw [e2] at hal
      exact seg_again rfl (ih (i + 1) s'' s'' (by omega) hlt hal (GenSince.refl _ _ _) fun b hb => by
        rcases List.mem_cons.mp hb with rfl | hb
        · obtain ⟨_, _, ⟨m', hn⟩, _⟩ := hal
          exact (let ⟨o, e, _⟩ := LCg.ns_obj hn; ⟨o, e⟩)
        · exact hObj _ _ hal.1 b ((W₀ A hh).sub b hb))
end
end Mine
namespace Mine
section
variable {prog : Program} {w : World} {h₀ : Heap}

theorem seg_genLedStart {A : Around} {elt iter : Expr} {x : Str} {px : Pos} {scope : Scope} {pos : Pos} {I : Addr} {fp wr : List Addr} {n : Nat} {V : Nat → Value → Prop} {St : Nat → Heap → Prop} {cenv : Env} {news : Led} {F : Nat → Value → Led → Prop} {L : Addr} {m : Str → Option Value} (hL : L < cenv.locals ∧ L ∉ wr ∧ h₀.get? L = none)
    (hh : A.handled = none) (W₀ : ∀ A' : Around, A'.handled = none → Walks prog w A' I fp wr n V St)
    (hx : cenv.kindOf x = some .local) (hp : (cenv.scope.kind == .class || (cenv.scope.kind == .module && cenv.locals != cenv.globals)) = false)
    (hco : cenv.scope.isCoroutine = false) (hCf : cenv.locals ∉ fp) (hObj : ∀ i h, St i h → ∀ b ∈ fp, ∃ o, h.get? b = some o)
    (hwr : ∀ b ∈ wr, h₀.get? b = none) (hnw : ∀ p ∈ news, p.1 ∉ wr ∧ p.1 ≠ cenv.locals ∧ h₀.get? p.1 = none) (hnL : ∀ p ∈ news, p.1 ≠ L) (hC : h₀.objs.size ≤ cenv.locals)
    (turn : ∀ i, i < n → GenTurn prog w (A.over (.compLoop (.GeneratorExp elt [⟨.Name x px, iter, [], 0⟩] scope pos) 0 (.ref I) .none cenv) []) h₀ L m cenv.locals cenv elt x news V F i)
    (s : Shared) (hr : Ready h₀ L m cenv.locals news St 0 s.heap) :
      Seg (model prog w) A (fun n s₀ r s₁ => r = .ok .next ∧ (n = 0 ∧ GenSince cenv.locals wr s₀ s₁)) (genY h₀ L m cenv.locals wr news St n F) n s
        (.compStart (.GeneratorExp elt [⟨.Name x px, iter, [], 0⟩] scope pos) 0 (.ref I) .none cenv)
        ((model prog w).den (.compStart (.GeneratorExp elt [⟨.Name x px, iter, [], 0⟩] scope pos) 0 (.ref I) .none cenv)) [] s := by
  have hh' : (A.over (.compStart (.GeneratorExp elt [⟨.Name x px, iter, [], 0⟩] scope pos) 0 (.ref I) .none cenv) []).handled = none := hh
  have loop := seg_genLed (prog := prog) (iter := iter) (px := px) hL hh W₀ hx hp hco hCf hObj hwr hnw hnL hC turn n 0 s s rfl (Nat.zero_le _) hr (GenSince.refl _ _ _) fun b hb => by
    rcases List.mem_cons.mp hb with rfl | hb
    · obtain ⟨_, _, ⟨m', hn⟩, _⟩ := hr
      exact (let ⟨o, e, _⟩ := LCg.ns_obj hn; ⟨o, e⟩)
    · exact hObj _ _ hr.1 b ((W₀ A hh).sub b hb)
  rw [Nat.sub_zero] at loop
  show Seg _ A _ _ _ s _ ((compStart (.GeneratorExp elt [⟨.Name x px, iter, [], 0⟩] scope pos) 0 (.ref I) .none cenv).onRaise (leaving cenv)) [] s
  unfold compStart
  rw [Sem.onRaise_eq_wrap]
  show Seg _ A _ _ _ s _ ((ask >>= _).wrap _ _ _ _) [] s
  refine seg_bind_wrap (wpAny_askSetting ?_)
  split
  · exact seg_again rfl loop
  · first
      | exact seg_bind_wrap (wpAny_rule (seg_bind_wrap (wpAny_standAt (seg_bind_wrap ((W₀ _ hh').self 0 s _ _ hr.1 (seg_again rfl loop))))))
      | (refine seg_bind_wrap (wpAny_rule ?_); show Seg _ A _ _ _ s _ ((standAt iter.pos >>= _).wrap _ _ _ _) [] s; exact seg_bind_wrap (wpAny_standAt (seg_bind_wrap ((W₀ _ hh').self 0 s _ _ hr.1 (seg_again rfl loop)))))

/-- a generator at its i-th turn -/
def GenSt (prog : Program) (w : World) (A : Around) (g : Nat) (C : Addr) (wr : List Addr) (n : Nat) (Rdy : Nat → Heap → Prop) (Y : Protocol) (i : Nat) (gens : Array GenState) : Prop :=
  ∃ gs, gens[g]? = some gs ∧ ∀ s'' : Shared, Rdy i s''.heap → gs.Goes (model prog w) A.in1 (fun n s₀ r s₁ => r = .ok .next ∧ (n = 0 ∧ GenSince C wr s₀ s₁)) Y (n - i) (.send .none) s''

section
variable {A : Around} {E : Value → Shared → Prop} {s : Shared} {a C : Addr} {g n i : Nat} {wr : List Addr} {news : Led} {St : Nat → Heap → Prop} {F : Nat → Value → Led → Prop} {Q : Option Value → Shared → Prop} {L : Addr} {m : Str → Option Value}

theorem gen_item (hh : A.handled = none) (hl : s.heap.NoLimit) (hroom : A.depth < recursionLimit) (hg : s.heap.IsGen a g) (bare : AllBare s.gens) (hi : i < n)
    (X : GenSt prog w A g C wr n (Ready h₀ L m C news St) (genY h₀ L m C wr news St n F) i s.gens) (rdy : Ready h₀ L m C news St i s.heap)
    (hQ : ∀ v h' tk' gs' new, (∀ b o, b ≠ C → b ∉ wr → s.heap.get? b = some o → h'.get? b = some o) → Ready h₀ L m C news St (i + 1) h' → Fresh s.heap h' new → F i v new → AllBare gs' →
      GenSt prog w A g C wr n (Ready h₀ L m C news St) (genY h₀ L m C wr news St n F) (i + 1) gs' → Q (some v) { s with heap := h', toks := tk', gens := gs' }) :
    wpAny (model prog w) A (pyNext (.ref a)) Q E s := by
  obtain ⟨gs, hgs, hgo⟩ := X
  have hx98 : ∃ m, n - i = m + 1 := ⟨n - i - 1, by omega⟩
  obtain ⟨m, hm⟩ := hx98
  rw [hm] at hgo
  refine wpAny_pyNext_genexpQ (P := fun n s₀ s₁ => n = 0 ∧ GenSince C wr s₀ s₁) hh hl hroom hg hgs (hgo _ rdy) (fun v s₁ gs' hb hv => ?_) (fun s₁ hp h' hk => ?_)
  · obtain ⟨⟨h₁, tk₁, rfl, hk₁⟩, hr, ⟨new, hf, hF⟩, hkap⟩ := hv
    have e1 : n - (m + 1 - 1) = i + 1 := by omega
    have e2 : n - 1 - (m + 1 - 1) = i := by omega
    rw [e1] at hr hkap
    rw [e2] at hF
    refine hQ v h₁ tk₁ _ new hk₁ hr hf hF ?_ ⟨gs', setGen_self (gs := .running) (setGen_self hgs), fun s'' hal => ?_⟩
    · exact GenOnlyQ.bare (GenOnlyQ.of ((GenOnly.setGen s g .running).trans (GenOnly.setGen _ g gs')) (setGen_self (gs := .running) (setGen_self hgs)) hb) bare
    · have e : n - (i + 1) = m := by omega
      rw [e]
      exact hkap s'' hal
  · exact absurd hp.1 (Nat.succ_ne_zero m)
theorem gen_done (hh : A.handled = none) (hl : s.heap.NoLimit) (hroom : A.depth < recursionLimit) (hg : s.heap.IsGen a g) (bare : AllBare s.gens)
    (X : GenSt prog w A g C wr n (Ready h₀ L m C news St) (genY h₀ L m C wr news St n F) n s.gens) (rdy : Ready h₀ L m C news St n s.heap)
    (hQ : ∀ h' tk' gs', (∀ b o, b ≠ C → b ∉ wr → s.heap.get? b = some o → h'.get? b = some o) → AllBare gs' → Q none { s with heap := h', toks := tk', gens := gs' }) :
    wpAny (model prog w) A (pyNext (.ref a)) Q E s := by
  obtain ⟨gs, hgs, hgo⟩ := X
  rw [Nat.sub_self] at hgo
  refine wpAny_pyNext_genexpQ (P := fun n s₀ s₁ => n = 0 ∧ GenSince C wr s₀ s₁) hh hl hroom hg hgs (hgo _ rdy) (fun v s₁ gs' hb hv => ?_) (fun s₁ hp h' hk => ?_)
  · obtain ⟨_, hr, _, hkap⟩ := hv
    exact False.elim (hkap s₁ (by simpa using hr))
  · obtain ⟨_, h₁, tk₁, rfl, hk₁⟩ := hp
    exact hQ h' tk₁ _ (fun b o hC hw e => hk b o (hk₁ b o hC hw e)) (GenOnlyQ.bare (GenOnlyQ.of ((GenOnly.setGen s g .running).trans (GenOnly.setGen _ g .finished)) (setGen_self (gs := .running) (setGen_self hgs)) rfl) bare)
end

section
variable {A : Around} {E : Value → Shared → Prop} {R : Result → Shared → Prop} {a C L : Addr} {g n : Nat} {wr : List Addr} {news : Led} {St : Nat → Heap → Prop} {F : Nat → Value → Led → Prop} {m : Str → Option Value}

/-- all(...) over a generator whose elements are True -/
theorem all_loop (hh : A.handled = none) (hl : h₀.NoLimit) (hroom : A.depth < recursionLimit) (hcl : ∀ p, h₀.get? p ≠ none → p ≠ C ∧ p ∉ wr) (led : Led) (oa : Obj) (ha : (a, oa) ∈ led) (hg : ∀ h : Heap, h.get? a = some oa → h.IsGen a g)
    (hL : L ≠ C ∧ L ∉ wr) (hap : ∀ p ∈ led, p.1 ≠ C ∧ p.1 ∉ wr) (hF : ∀ i v new, i < n → F i v new → v = .bool true) :
    ∀ (k i : Nat) (s : Shared), n - i = k → i ≤ n → Fr h₀ L s.heap m → News h₀ L s.heap led → AllBare s.gens → GenSt prog w A.in1 g C wr n (Ready h₀ L m C news St) (genY h₀ L m C wr news St n F) i s.gens → Ready h₀ L m C news St i s.heap →
      (∀ h' tk' gs', Fr h₀ L h' m → News h₀ L h' led → AllBare gs' → R (.ok (.ret (.bool true))) { s with heap := h', toks := tk', gens := gs' }) →
      codeAny (model prog w) A (.builtin "all.loop" ⟨[.ref a], []⟩) R s := by
  have keepF : ∀ {h h' : Heap}, Fr h₀ L h m → (∀ b o, b ≠ C → b ∉ wr → h.get? b = some o → h'.get? b = some o) → Fr h₀ L h' m := fun F hk =>
    ⟨F.ns.at' fun o e => hk _ o hL.1 hL.2 e, fun b o e => hk b o (hcl b (by rw [e]; exact fun h => nomatch h)).1 (hcl b (by rw [e]; exact fun h => nomatch h)).2 (F.keep b o e), F.above⟩
  have keepN : ∀ {h h' : Heap}, News h₀ L h led → (∀ b o, b ≠ C → b ∉ wr → h.get? b = some o → h'.get? b = some o) → News h₀ L h' led := fun N hk p hp => ⟨hk _ _ (hap p hp).1 (hap p hp).2 (N p hp).1, (N p hp).2⟩
  intro k
  induction k with
  | zero =>
    intro i s hk hi F₁ N₁ bare X rdy hR
    have hx98 : i = n := by omega
    rcases hx98 with rfl
    refine codeAny_builtin PySem.F.entry_all_loop ?_
    rw [Around.under_plainId PySem.F.plain_all_loop _]
    show wpAny _ A.in1 (pyNext (.ref a) >>= _) _ _ s
    refine wpAny_bind (gen_done hh (hl.keeps F₁.keep) hroom (hg _ (N₁ _ ha).1) bare X rdy fun h' tk' gs' hk' b' => ?_)
    exact wpAny_bind (wpAny_rule (wpAny_pure (hR h' tk' gs' (keepF F₁ hk') (keepN N₁ hk') b')))
  | succ k ih =>
    intro i s hk hi F₁ N₁ bare X rdy hR
    have hlt : i < n := by omega
    refine codeAny_builtin PySem.F.entry_all_loop ?_
    rw [Around.under_plainId PySem.F.plain_all_loop _]
    show wpAny _ A.in1 (pyNext (.ref a) >>= _) _ _ s
    refine wpAny_bind (gen_item hh (hl.keeps F₁.keep) hroom (hg _ (N₁ _ ha).1) bare hlt X rdy fun v h' tk' gs' new hk' rdy' hf hFv b' X' => ?_)
    rcases hF i v new hlt hFv with rfl
    refine wpAny_bind (wpAny_holding (wpAny_truthy_bool ?_))
    refine wpAny_bind (wpAny_letGo ?_)
    simp only [if_true]
    exact wpAny_pure ⟨plainId_quiet PySem.F.plain_all_loop _, ih (i + 1) _ (by omega) hlt (keepF F₁ hk') (keepN N₁ hk') b' X' rdy' fun h'' tk'' gs'' F'' N'' b'' => hR h'' tk'' gs'' F'' N'' b''⟩
end
end
end Mine
namespace Mine
theorem call_allG {prog : Program} {w : World} {A : Around} {E : Value → Shared → Prop} {s : Shared} {a : Addr} {g : Nat} {Q : Value → Shared → Prop} (hg : s.heap.IsGen a g)
    (h : codeAny (model prog w) A (.builtin "all.loop" ⟨[.ref a], []⟩) (fun r s' => match r with | .ok (.ret v) => Q v s' | .ok _ => False | .error e => E e s') s) : wpAny (model prog w) A (call (.builtin "all") [.ref a]) Q E s := by
  refine call_function_tree PySem.F.kind_all PySem.F.plain_all PySem.F.entry_all (PySem.F.args_all1 _) ?_
  unfold Builtin.«all»
  refine wpAny_bind (m := oneArg "all" _) (wpAny_pure ?_)
  refine wpAny_bind (wpAny_pyIter_gen hg ?_)
  refine wpAny_pure ⟨plainId_quiet PySem.F.plain_all_loop _, ?_⟩
  exact h

abbrev sumS (v : Value) (c : Nat) : Obj := { cls := .type "list", dict := none, data := .seq #[v] c, slots := #[] }
section
variable {prog : Program} {w : World} {h₀ : Heap} {A : Around} {R : Result → Shared → Prop} {a C L S : Addr} {g n : Nat} {fp wr : List Addr} {news : Led} {St : Nat → Heap → Prop} {F : Nat → Value → Led → Prop} {m : Str → Option Value} {Acc : Nat → Value → Led → Prop}

/-- one more onto the sum -/
def SumStep (prog : Program) (w : World) (A : Around) (h₀ : Heap) (L : Addr) (m : Str → Option Value) (led : Led) (F Acc : Nat → Value → Led → Prop) (i : Nat) : Prop :=
  ∀ (s : Shared) (total v : Value) (accL newv rest : Led) (E : Value → Shared → Prop), Acc i total accL → F i v newv → (∀ p ∈ led, p ∈ rest) → (∀ p ∈ accL, p ∈ rest) → (∀ p ∈ newv, p ∈ rest) → Fr h₀ L s.heap m → News h₀ L s.heap rest →
    wpAny (model prog w) A (binaryOp .Add total v) (TurnEnd h₀ L m s rest (Acc (i + 1))) E s

theorem sum_loop (hh : A.handled = none) (hl : h₀.NoLimit) (hroom : A.depth < recursionLimit) (led : Led) (oa : Obj) (ha : (a, oa) ∈ led) (hg : ∀ h : Heap, h.get? a = some oa → h.IsGen a g)
    (hb : ∀ b ∈ C :: S :: wr, h₀.get? b = none) (hL : L ≠ C ∧ L ∉ wr ∧ L ≠ S) (hap : ∀ p ∈ led, p.1 ≠ C ∧ p.1 ∉ wr ∧ p.1 ≠ S) (hS : S ∉ fp ∧ S ≠ C ∧ ∀ p ∈ news, p.1 ≠ S) (hLf : L ∉ fp ∧ ∀ p ∈ news, p.1 ≠ L) (hsub : ∀ b ∈ wr, b ∈ fp)
    (hfr : ∀ i h h', St i h → (∀ b ∈ fp, ∀ o, h.get? b = some o → h'.get? b = some o) → St i h') (hObj : ∀ i h, St i h → ∀ b ∈ fp, ∃ o, h.get? b = some o)
    (hA0 : ∀ v l, Acc 0 v l → ∃ t, v = .int 0 t) (hAS : ∀ i v l, Acc (i + 1) v l → ∃ z, v = .ref z) (hFr : ∀ i v l, F i v l → ∃ z, v = .ref z)
    (step : ∀ i, i < n → SumStep prog w A.in1 h₀ L m led F Acc i) :
    ∀ (k i : Nat) (s : Shared) (total : Value) (c : Nat) (accL : Led), n - i = k → i ≤ n → Fr h₀ L s.heap m → News h₀ L s.heap led → News h₀ L s.heap accL → (∀ q ∈ accL, q.1 ≠ C ∧ q.1 ∉ wr ∧ q.1 ≠ S ∧ ∀ p ∈ led, p.1 ≠ q.1) → Acc i total accL → s.heap.get? S = some (sumS total c) →
      AllBare s.gens → GenSt prog w A.in1 g C wr n (Ready h₀ L m C news St) (genY h₀ L m C wr news St n F) i s.gens → Ready h₀ L m C news St i s.heap →
      (∀ h' tk' gs' total accL, Fr h₀ L h' m → News h₀ L h' (accL ++ led) → (∀ q ∈ accL, ∀ p ∈ led, p.1 ≠ q.1) → AllBare gs' → Acc n total accL → R (.ok (.ret total)) { s with heap := h', toks := tk', gens := gs' }) →
      codeAny (model prog w) A (.builtin "sum.loop" ⟨[.ref a, .ref S, rawInt (if i = 0 then 0 else 2), rawInt 0], []⟩) R s := by
  have hb' : ∀ b o, h₀.get? b = some o → b ≠ C ∧ b ∉ wr ∧ b ≠ S := fun b o e =>
    have no : h₀.get? b ≠ none := by rw [e]; exact fun h => nomatch h
    ⟨fun q => no (hb b (by rw [q]; exact List.mem_cons_self)), fun q => no (hb b (List.mem_cons_of_mem _ (List.mem_cons_of_mem _ q))), fun q => no (hb b (by rw [q]; exact List.mem_cons_of_mem _ List.mem_cons_self))⟩
  have keepF : ∀ {h h' : Heap}, Fr h₀ L h m → (∀ b o, b ≠ C → b ∉ wr → h.get? b = some o → h'.get? b = some o) → Fr h₀ L h' m := fun F hk =>
    ⟨F.ns.at' fun o e => hk _ o hL.1 hL.2.1 e, fun b o e => hk b o (hb' b o e).1 (hb' b o e).2.1 (F.keep b o e), F.above⟩
  have keepN : ∀ {l : Led} {h h' : Heap}, (∀ p ∈ l, p.1 ≠ C ∧ p.1 ∉ wr) → News h₀ L h l → (∀ b o, b ≠ C → b ∉ wr → h.get? b = some o → h'.get? b = some o) → News h₀ L h' l := fun ho N hk p hp => ⟨hk _ _ (ho p hp).1 (ho p hp).2 (N p hp).1, (N p hp).2⟩
  intro k
  induction k with
  | zero =>
    intro i s total c accL hk hi F₁ N₁ Na apA hAcc hSo bare X rdy hR
    have hx98 : i = n := by omega
    rcases hx98 with rfl
    refine codeAny_builtin PySem.F.entry_sum_loop ?_
    rw [Around.under_plainId PySem.F.plain_sum_loop _]
    show wpAny _ A.in1 (seqItems? (.ref S) >>= _) _ _ s
    refine wpAny_bind (wpAny_seqItems hSo rfl ?_)
    show wpAny _ A.in1 (tryCatch (pyNext (.ref a)) _ >>= _) _ _ s
    refine wpAny_bind (wpAny_tryCatch (gen_done hh (hl.keeps F₁.keep) hroom (hg _ (N₁ _ ha).1) bare X rdy fun h' tk' gs' hk' b' => ?_))
    have fin := hR h' tk' gs' total accL (keepF F₁ hk') (News.append (keepN (fun p hp => ⟨(apA p hp).1, (apA p hp).2.1⟩) Na hk') (keepN (fun p hp => ⟨(hap p hp).1, (hap p hp).2.1⟩) N₁ hk')) (fun q hq => (apA q hq).2.2.2) b' hAcc
    rcases Nat.eq_zero_or_pos i with h0 | h0
    · subst h0
      obtain ⟨t, rfl⟩ := hA0 _ _ hAcc
      exact wpAny_pure fin
    · have hx98 : ∃ j, i = j + 1 := ⟨i - 1, by omega⟩
      obtain ⟨j, rfl⟩ := hx98
      obtain ⟨z, rfl⟩ := hAS _ _ _ hAcc
      exact wpAny_pure fin
  | succ k ih =>
    intro i s total c accL hk hi F₁ N₁ Na apA hAcc hSo bare X rdy hR
    have hlt : i < n := by omega
    refine codeAny_builtin PySem.F.entry_sum_loop ?_
    rw [Around.under_plainId PySem.F.plain_sum_loop _]
    show wpAny _ A.in1 (seqItems? (.ref S) >>= _) _ _ s
    refine wpAny_bind (wpAny_seqItems hSo rfl ?_)
    show wpAny _ A.in1 (tryCatch (pyNext (.ref a)) _ >>= _) _ _ s
    refine wpAny_bind (wpAny_tryCatch (gen_item hh (hl.keeps F₁.keep) hroom (hg _ (N₁ _ ha).1) bare hlt X rdy fun v h' tk' gs' new hk' rdy' hf hFv b' X' => ?_))
    have hSw : S ∉ wr := fun q => hS.1 (hsub _ q)
    have F₂ := keepF F₁ hk'
    have N₂ := keepN (fun p hp => ⟨(hap p hp).1, (hap p hp).2.1⟩) N₁ hk'
    have Na₂ := keepN (fun p hp => ⟨(apA p hp).1, (apA p hp).2.1⟩) Na hk'
    have hS₂ := hk' S _ hS.2.1 hSw hSo
    obtain ⟨zv, rfl⟩ := hFr _ _ _ hFv
    -- the sum, and on
    have go : ∀ (next : Value → Int), (∀ z, next (.ref z) = 2) → ∀ st : Shared, st = { s with heap := h', toks := tk', gens := gs' } →
        wpAny (model prog w) A.in1 (do
          match ← (holding [Value.ref zv] (binaryOp .Add total (.ref zv))).attempt with
          | .ok r => updateSeq S fun _ => #[r]; letGo [total, .ref zv]; (do updateSeq S fun _ => #[r]; again (.builtin "sum.loop" ⟨[.ref a, .ref S, rawInt (next r), rawInt 0], []⟩))
          | .error e => updateSeq S fun _ => #[]; letGo [total, .ref zv] [e]; throw e)
          (fun f s' => match f with | .done f => R (.ok f) s' | .again c => c.quiet = true ∧ codeAny (model prog w) A c R s') (fun e s' => R (.error e) s') st := by
      rintro next hnext st rfl
      have rm : ∀ {p : Addr × Obj}, h'.get? p.1 = some p.2 → p.1 ≠ L → h₀.get? p.1 = none → p ∈ restOf h₀ L h' := fun e hL hn => restOf_mem hL hn e
      have newN : ∀ p ∈ new, p.1 ≠ L ∧ h₀.get? p.1 = none := fun p hp => by
        have z := (hf p hp).2
        constructor
        · intro q
          obtain ⟨o, e, _⟩ := LCg.ns_obj F₁.ns
          rw [q, e] at z; cases z
        · cases e : h₀.get? p.1 with
          | none => rfl
          | some o => rw [F₁.keep _ _ e] at z; cases z
      refine wpAny_bind (wpAny_attempt (wpAny_holding (wpAny_mono (step i hlt { s with heap := h', toks := tk', gens := gs' } total (.ref zv) accL new (restOf h₀ L h') _ hAcc hFv (fun p hp => rm (N₂ p hp).1 (N₂ p hp).2.1 (N₂ p hp).2.2) (fun p hp => rm (Na₂ p hp).1 (Na₂ p hp).2.1 (Na₂ p hp).2.2) (fun p hp => rm (hf p hp).1 (newN p hp).1 (newN p hp).2) F₂ restOf_news) (fun r s₄ h₄ => ?_) fun _ _ e => e)))
      obtain ⟨h₄, tk₄, new', rfl, F₄, N₄, ap₄, hA'⟩ := h₄
      obtain ⟨zr, rfl⟩ := hAS _ _ _ hA'
      have k₄ : ∀ b o, b ≠ L → h'.get? b = some o → h₄.get? b = some o := fun b o hbL e => by
        cases hq : h₀.get? b with
        | some o₀ =>
          have := F₂.keep b o₀ hq
          rw [e] at this
          exact (Option.some.inj this) ▸ F₄.keep b o₀ hq
        | none => exact (N₄ (b, o) (List.mem_append_right _ (restOf_mem hbL hq e))).1
      have apart : ∀ q ∈ new', ∀ b o, b ≠ L → h₀.get? b = none → h'.get? b = some o → b ≠ q.1 := fun q hq b o h1 h2 h3 => ap₄ q hq (b, o) (restOf_mem h1 h2 h3)
      have hS₄ := k₄ S _ (Ne.symm hL.2.2) hS₂
      show wpAny _ A.in1 (updateSeq S (fun _ => #[.ref zr]) >>= _) _ _ _
      refine wpAny_bind (wpAny_updateSeq hS₄ rfl ?_)
      have hS₅ := Heap.get?_update_self (Obj.mapSeq fun _ => #[Value.ref zr]) hS₄ rfl
      refine wpAny_bind (wpAny_letGo ?_)
      refine wpAny_bind (wpAny_updateSeq hS₅ rfl ?_)
      have hS₆ := Heap.get?_update_self (Obj.mapSeq fun _ => #[Value.ref zr]) hS₅ rfl
      rw [hnext]
      refine wpAny_pure ⟨plainId_quiet PySem.F.plain_sum_loop _, ?_⟩
      generalize hH : (h₄.update S (Obj.mapSeq fun _ => #[Value.ref zr])).update S (Obj.mapSeq fun _ => #[Value.ref zr]) = H6 at hS₆ ⊢
      have k₆ : ∀ b o, b ≠ S → h₄.get? b = some o → H6.get? b = some o := fun b o hbS e => by
        rw [← hH]
        exact (Heap.get?_update_other _ _ (fun q : S = b => hbS q.symm)).trans ((Heap.get?_update_other _ _ (fun q : S = b => hbS q.symm)).trans e)
      obtain ⟨hst, _, ⟨mC, hnC⟩, hbase, hnews⟩ := rdy'
      have hCL : C ≠ L := fun q => hL.1 q.symm
      have hCget : ∃ o, h'.get? C = some o := (let ⟨o, e, _⟩ := LCg.ns_obj hnC; ⟨o, e⟩)
      have F₆ : Fr h₀ L H6 m := ⟨F₄.ns.at' fun o e => k₆ _ o hL.2.2 e, fun b o e => k₆ b o (hb' b o e).2.2 (F₄.keep b o e), F₄.above⟩
      have toN : ∀ {l : Led}, News h₀ L h' l → (∀ p ∈ l, p.1 ≠ S) → News h₀ L H6 l := fun N ho p hp => ⟨k₆ _ _ (ho p hp) (k₄ _ _ (N p hp).2.1 (N p hp).1), (N p hp).2⟩
      have newS : ∀ q ∈ new', q.1 ≠ S := fun q hq e => apart q hq S _ (Ne.symm hL.2.2) (hb S (List.mem_cons_of_mem _ List.mem_cons_self)) hS₂ e.symm
      have e2 : (2 : Int) = (if i + 1 = 0 then 0 else 2) := by rw [if_neg (Nat.succ_ne_zero i)]
      rw [e2]
      refine ih (i + 1) { s with heap := H6, toks := tk₄, gens := gs' } (.ref zr) _ new' (by omega) hlt F₆ (toN N₂ fun p hp => (hap p hp).2.2) (fun q hq => ⟨k₆ _ _ (newS q hq) (N₄ q (List.mem_append_left _ hq)).1, (N₄ q (List.mem_append_left _ hq)).2⟩)
        (fun q hq => ⟨fun e => ?_, fun e => ?_, newS q hq, fun p hp => apart q hq p.1 p.2 (N₂ p hp).2.1 (N₂ p hp).2.2 (N₂ p hp).1⟩) hA' (hS₆.trans rfl) b' X' ⟨?_, F₆.ns, ⟨mC, ?_⟩, ?_, ?_⟩ hR
      · obtain ⟨o, ho⟩ := hCget
        exact apart q hq C o hCL (hb C List.mem_cons_self) ho e.symm
      · obtain ⟨o, ho⟩ := hObj _ _ hst _ (hsub _ e)
        exact apart q hq q.1 o (fun z => hL.2.1 (z ▸ e)) (hb _ (List.mem_cons_of_mem _ (List.mem_cons_of_mem _ e))) ho rfl
      · exact hfr _ _ _ hst fun b hb' o e => k₆ b o (fun z => hS.1 (z ▸ hb')) (k₄ b o (fun z => hLf.1 (z ▸ hb')) e)
      · exact hnC.at' fun o e => k₆ _ o (Ne.symm hS.2.1) (k₄ _ o hCL e)
      · exact F₆.keep
      · exact fun p hp => k₆ _ _ (hS.2.2 p hp) (k₄ _ _ (hLf.2 p hp) (hnews p hp))
    rcases Nat.eq_zero_or_pos i with h0 | h0
    · subst h0
      obtain ⟨t, rfl⟩ := hA0 _ _ hAcc
      refine wpAny_bind (wpAny_rule ?_)
      exact go _ (fun z => rfl) _ rfl
    · have hx98 : ∃ j, i = j + 1 := ⟨i - 1, by omega⟩
      obtain ⟨j, rfl⟩ := hx98
      obtain ⟨z, rfl⟩ := hAS _ _ _ hAcc
      exact go _ (fun z => rfl) _ rfl
end
end Mine
namespace Mine
section
variable {M : Model} {A : Around} {E : Value → Shared → Prop} {s : Shared}
theorem genexprCode_K {env : Env} {c P : Addr} {ps : Array Value} {pos : Pos} {qualname : Str} {scope : Scope} {Q : Value → Shared → Prop} (hc : env.code = .ref c) (C : CodeHd s.heap c P) (hP : s.heap.get? P = some (tabObj ps)) (ht : TriplesOk ps.toList)
    (hQ : ∀ code h' tk ps', Heap.ExtBut P s.heap h' → h'.get? P = some (tabObj ps') → TriplesOk ps'.toList → Q code { s with heap := h', toks := tk }) :
    wpAny M A (genexprCode env pos qualname scope) Q E s := by
  obtain ⟨o, vs, file, tf, flags, tg, inF, text, tt, ho, hcl, hd, h11', h11, h2, h7, h9, h10, hne⟩ := C
  unfold genexprCode codeAt
  rw [hc, if_neg (show ¬ ((Value.ref c == Value.none) = true) from Bool.false_ne_true)]
  refine wpAny_bind (wpAny_fieldsOf ho hd ?_)
  rw [h11]
  refine wpAny_bind (wpAny_fieldsOf hP rfl ?_)
  cases hnf : codeAmong pos ps.toList with
  | some cv => exact wpAny_pure (hQ cv s.heap s.toks ps (Heap.ExtBut.refl _ _) hP ht)
  | none =>
    rw [h2, h7, h9, h10]
    refine wpAny_bind (wpAny_newCode fun c' P' h' tk hk hc' hP' hcode' hrec' => ?_)
    have hop' := hk _ _ hP
    refine wpAny_bind (wpAny_updateFieldsOfTheText hop' rfl ?_)
    have hnew : (Obj.mapFields (fun vs => if (codeAmong pos vs.toList).isSome = true then vs else vs ++ #[rawInt pos.line, rawInt pos.col, .ref c']) (tabObj ps)) = tabObj (ps ++ #[rawInt pos.line, rawInt pos.col, .ref c']) := by
      show ({ cls := .none, data := .fields (if (codeAmong pos ps.toList).isSome = true then ps else ps ++ #[rawInt pos.line, rawInt pos.col, .ref c']) } : Obj) = _
      rw [hnf]; rfl
    have hget := Heap.get?_update_self (h := h') (fun o => Obj.mapFields (fun vs => if (codeAmong pos vs.toList).isSome = true then vs else
      vs ++ #[rawInt pos.line, rawInt pos.col, .ref c']) o) hop' (Obj.isFreed_of_fields (by rw [hnew]))
    rw [hnew] at hget
    refine wpAny_bind (wpAny_fieldsOf hget rfl ?_)
    have hl : (ps ++ #[rawInt pos.line, rawInt pos.col, Value.ref c']).toList = ps.toList ++ [rawInt pos.line, rawInt pos.col, .ref c'] := by simp
    rw [hl, codeAmong_snoc _ ht hnf]
    exact wpAny_pure (hQ _ _ _ (ps ++ #[rawInt pos.line, rawInt pos.col, .ref c']) (fun b o' hb e => ((Heap.SameBut.update ..).extBut b o' hb (hk b o' e))) hget (by rw [hl]; exact TriplesOk_snoc _ _ _ _ ht))
end

/-- a code table on the ledger -/
def IsTab (o : Obj) : Prop := ∃ ps, o = tabObj ps ∧ TriplesOk ps.toList

/-- a generator in hand, not yet begun -/
inductive GenRun (prog : Program) (w : World) (A : Around) (h₀ : Heap) (L : Addr) (m : Str → Option Value) (a : Addr) (led : Led) (n : Nat) (F : Nat → Value → Led → Prop) (h : Heap) (gens : Array GenState) : Prop
  | mk (C : Addr) (g : Nat) (fp wr : List Addr) (news : Led) (St : Nat → Heap → Prop) (oa : Obj) (h1 : (a, oa) ∈ led) (h2 : ∀ h : Heap, h.get? a = some oa → h.IsGen a g) (h3 : ∀ b ∈ C :: wr, h₀.get? b = none) (h4 : L ≠ C ∧ L ∉ wr) (h5 : ∀ p ∈ led, p.1 ≠ C ∧ p.1 ∉ wr) (h6 : L ∉ fp ∧ ∀ p ∈ news, p.1 ≠ L) (h7 : ∀ b ∈ wr, b ∈ fp) (h8 : ∀ b ∈ fp, b < h.objs.size) (h9 : C < h.objs.size) (h10 : ∀ p ∈ news, p.1 < h.objs.size) (h11 : ∀ i h h', St i h → (∀ b ∈ fp, ∀ o, h.get? b = some o → h'.get? b = some o) → St i h') (h12 : ∀ i h, St i h → ∀ b ∈ fp, ∃ o, h.get? b = some o) (h13 : GenSt prog w A.in1 g C wr n (Ready h₀ L m C news St) (genY h₀ L m C wr news St n F) 0 gens) (h14 : Ready h₀ L m C news St 0 h)
section
variable {prog : Program} {w : World} {A : Around} {E : Value → Shared → Prop} {s : Shared} {h₀ : Heap} {L a : Addr} {m : Str → Option Value} {led : Led} {n : Nat} {F : Nat → Value → Led → Prop} {Q : Value → Shared → Prop}

theorem gen_all (X : GenRun prog w A h₀ L m a led n F s.heap s.gens) (F₁ : Fr h₀ L s.heap m) (N₁ : News h₀ L s.heap led) (hh : A.handled = none) (hl : h₀.NoLimit) (hroom : A.depth < recursionLimit) (bare : AllBare s.gens) (hF : ∀ i v new, i < n → F i v new → v = .bool true)
    (hQ : ∀ h' tk' gs', Fr h₀ L h' m → News h₀ L h' led → AllBare gs' → Q (.bool true) { s with heap := h', toks := tk', gens := gs' }) : wpAny (model prog w) A (call (.builtin "all") [.ref a]) Q E s := by
  obtain ⟨C, g, fp, wr, news, St, oa, ha, hg, hb, hL, hap, _, _, _, _, _, _, _, X, rdy⟩ := X
  refine call_allG (hg _ (N₁ _ ha).1) ?_
  refine all_loop hh hl hroom (fun p hp => ⟨fun q => hp (hb p (by rw [q]; exact List.mem_cons_self)), fun q => hp (hb p (List.mem_cons_of_mem _ q))⟩) led oa ha hg hL hap hF n 0 s (Nat.sub_zero _) (Nat.zero_le _) F₁ N₁ bare X rdy hQ

theorem gen_sum {Acc : Nat → Value → Led → Prop} (X : GenRun prog w A h₀ L m a led n F s.heap s.gens) (F₁ : Fr h₀ L s.heap m) (N₁ : News h₀ L s.heap led) (hh : A.handled = none) (hl : h₀.NoLimit) (hroom : A.depth < recursionLimit) (bare : AllBare s.gens)
    (hA0 : ∀ t, Acc 0 (.int 0 t) []) (hA0' : ∀ v l, Acc 0 v l → ∃ t, v = .int 0 t) (hAS : ∀ i v l, Acc (i + 1) v l → ∃ z, v = .ref z) (hFr : ∀ i v l, F i v l → ∃ z, v = .ref z) (step : ∀ i, i < n → SumStep prog w A.in1 h₀ L m led F Acc i)
    (hQ : ∀ h' tk' gs' total accL, Fr h₀ L h' m → News h₀ L h' (accL ++ led) → (∀ q ∈ accL, ∀ p ∈ led, p.1 ≠ q.1) → AllBare gs' → Acc n total accL → Q total { s with heap := h', toks := tk', gens := gs' }) : wpAny (model prog w) A (call (.builtin "sum") [.ref a]) Q E s := by
  obtain ⟨C, g, fp, wr, news, St, oa, ha, hg, hb, hL, hap, hLf, hsub, hfs, hCs, hns, hfr, hObj, X, rdy⟩ := X
  refine call_function_tree PySem.F.kind_sum PySem.F.plain_sum PySem.F.entry_sum (PySem.F.args_sum1 _) ?_
  unfold Builtin.«sum»
  simp only [List.length_cons, List.length_nil]
  rw [if_neg (by decide)]
  refine wpAny_bind (wpAny_of_eq (show Builtin.Builtins.bindParams "sum" ["start"] 0 { } = pure [none] from rfl) ?_)
  refine wpAny_bind (wpAny_pyIter_gen (hg _ (N₁ _ ha).1) ?_)
  refine wpAny_bind (wpAny_mkInt ?_)
  refine wpAny_bind (wpAny_pure ?_)
  simp only [List.forIn_cons, List.forIn_nil]
  refine wpAny_bind (wpAny_bind (wpAny_bind (wpAny_isInstance (T := "int") (b := false) (typeIs_int _ _ _) PySem.sub_int_str ?_)))
  simp only [Bool.false_eq_true, if_false]
  refine wpAny_pure (wpAny_bind (wpAny_bind (wpAny_isInstance (T := "int") (b := false) (typeIs_int _ _ _) PySem.sub_int_bytes ?_)))
  simp only [Bool.false_eq_true, if_false]
  refine wpAny_pure (wpAny_bind (wpAny_bind (wpAny_isInstance (T := "int") (b := false) (typeIs_int _ _ _) PySem.sub_int_bytearray ?_)))
  simp only [Bool.false_eq_true, if_false]
  refine wpAny_pure (wpAny_pure ?_)
  refine wpAny_bind (wpAny_newObj_type ?_)
  have up : ∀ b o, s.heap.get? b = some o → (s.heap.push (sumS (.int 0 s.toks) 0)).get? b = some o := fun b o e => Heap.get?_push_of_some _ e
  have hS₀ : h₀.get? s.heap.objs.size = none := next_is_new F₁
  have hLs : L < s.heap.objs.size := F₁.ns.lt
  obtain ⟨hst, hnLm, ⟨mC, hnC⟩, hbase, hnews⟩ := rdy
  refine wpAny_pure ⟨plainId_quiet PySem.F.plain_sum_loop _, sum_loop (S := s.heap.objs.size) (Acc := Acc) hh hl hroom led oa ha hg (fun b hb' => ?_) ⟨hL.1, hL.2, Nat.ne_of_lt hLs⟩ (fun p hp => ⟨(hap p hp).1, (hap p hp).2, Nat.ne_of_lt (Heap.lt_size (N₁ p hp).1)⟩)
    ⟨fun q => Nat.lt_irrefl _ (hfs _ q), Nat.ne_of_gt hCs, fun p hp => Nat.ne_of_lt (hns p hp)⟩ hLf hsub hfr hObj hA0' hAS hFr step n 0 _ _ 0 [] (Nat.sub_zero _) (Nat.zero_le _) (F₁.keeps up) (N₁.grown up) (fun _ h => nomatch h) (fun _ h => nomatch h) (hA0 s.toks) (Heap.get?_push_size _ rfl) bare X
    ⟨hfr _ _ _ hst fun b _ o e => up b o e, hnLm.keeps up, ⟨mC, hnC.keeps up⟩, fun b o e => up b o (hbase b o e), fun p hp => up _ _ (hnews p hp)⟩ fun h' tk' gs' total accL F' N' ap b' ac => hQ h' tk' gs' total accL F' N' ap b' ac⟩
  rcases List.mem_cons.mp hb' with rfl | hb'
  · exact hb _ List.mem_cons_self
  · rcases List.mem_cons.mp hb' with rfl | hb'
    · exact hS₀
    · exact hb _ (List.mem_cons_of_mem _ hb')

/-- what a generator expression wants of its source -/
inductive GSrc (prog : Program) (w : World) (A : Around) (h₀ : Heap) (L P : Addr) (m : Str → Option Value) (env : Env) (elt : Expr) (gexp : Expr) (x : Str) (scope : Scope) (cl : List (Str × Addr)) (Q : Value → Shared → Prop) (it : Value) (s : Shared) : Prop
  | mk (I : Addr) (fp wr : List Addr) (n : Nat) (V : Nat → Value → Prop) (St : Nat → Heap → Prop) (led : Led) (oP : Obj) (F : Nat → Value → Led → Prop) (h1 : it = .ref I) (h2 : ∀ A' : Around, A'.handled = none → Walks prog w A' I fp wr n V St) (h3 : ∀ i h, St i h → ∀ b ∈ fp, ∃ o, h.get? b = some o) (h4 : St 0 s.heap) (h5 : Fr h₀ L s.heap m) (h6 : News h₀ L s.heap ((P, oP) :: led)) (h7 : IsTab oP) (h8 : P ∉ fp) (h9 : ∀ p ∈ led, p.1 ≠ P) (h10 : L ∉ fp) (h11 : ∀ p ∈ led, p.1 ∉ wr) (h12 : ∀ b ∈ wr, h₀.get? b = none) (h13 : AllBare s.gens) (h14 : ∀ (code : Value) (C : Addr) (i : Nat), i < n → GenTurn prog w (A.in1.in1.over (.compLoop gexp 0 it .none (genEnv scope cl C code builtinsNs env)) []) h₀ L m C (genEnv scope cl C code builtinsNs env) elt x led V F i) (h15 : ∀ (a : Addr) (oa oP' : Obj) (h' : Heap) (tk : Nat) (gs : Array GenState), IsTab oP' → Fr h₀ L h' m → News h₀ L h' ((a, oa) :: (P, oP') :: led) → (∀ p ∈ (P, oP') :: led, p.1 ≠ a) → AllBare gs → GenRun prog w A h₀ L m a ((a, oa) :: (P, oP') :: led) n F h' gs → Q (.ref a) { s with heap := h', toks := tk, gens := gs })
theorem gen_make {p : Program} {loose : List Str} {mean : ExcName → Option Value} {mg mb : Str → Option Value} {env : Env} {elt iter : Expr} {x : Str} {px : Pos} {scope : Scope} {cl : List (Str × Addr)} {pos : Pos} {c P : Addr} (_F₀ : Fr h₀ L s.heap m) (T : Top p loose mean mg mb h₀) (C₀ : CodeHd h₀ c P) (hge : env.globals = mainGlobals) (hcode : env.code = .ref c)
    (hh : A.handled = none) (hco : scope.isCoroutine = false) (hclos : closureFor scope env = pure cl) (hcell : ∀ y ∈ scope.names, y.2 ≠ .cell) (h0 : scope.names.lookup (".0" : Str) = some NameKind.local) (hx : scope.names.lookup x = some .local) (hkind : scope.kind = .function) (hroom : A.depth < recursionLimit)
    (h : wpAny (model prog w) A (eval iter env) (fun xv s₁ => wpAny (model prog w) A (pyIter xv) (GSrc prog w A h₀ L P m env elt (.GeneratorExp elt [⟨.Name x px, iter, [], 0⟩] scope pos) x scope cl Q) E s₁) E s)
    (hs : ∀ x, genFold iter env x = pure x) :
    wpAny (model prog w) A (eval (.GeneratorExp elt [⟨.Name x px, iter, [], 0⟩] scope pos) env) Q E s := by
  refine wpAny_GeneratorExp_make hco hclos hcell h0 hkind hroom (wpAny_mono h (fun xv s₁ h₁ => wpAny_mono h₁ (fun it s₂ h₂ => ?_) fun _ _ e => e) fun _ _ e => e) hs
  obtain ⟨I, fp, wr, n, V, St, led, oP, F, rfl, W, hObj, hst, F₂, N₂, hT, hPf, hlP, hLf, hlw, hwr, bare, turn, hQ⟩ := h₂
  obtain ⟨ps, rfl, hps⟩ := hT
  refine ⟨T.nolimit.keeps F₂.keep, ?_⟩
  have hP := N₂ _ List.mem_cons_self
  refine genexprCode_K hcode (C₀.keeps F₂.keep) hP.1 hps fun code h₃ tk₃ ps' hx₃ hP₃ hps' => ?_
  have hbP : ∀ b o, h₀.get? b = some o → b ≠ P := fun b o e q => by rw [q, hP.2.2] at e; cases e
  have F₃ : Fr h₀ L h₃ m := ⟨F₂.ns.at' fun o e => hx₃ _ o (Ne.symm hP.2.1) e, fun b o e => hx₃ b o (hbP b o e) (F₂.keep b o e), F₂.above⟩
  have N₃ : News h₀ L h₃ led := fun p hp => ⟨hx₃ _ _ (hlP p hp) (N₂ p (List.mem_cons_of_mem _ hp)).1, (N₂ p (List.mem_cons_of_mem _ hp)).2⟩
  obtain ⟨bm, ob, b1, b2, b3, b4, b5, b6⟩ := T.bmain
  refine wpAny_builtinsFor (s := { s₂ with heap := h₃, toks := tk₃ }) (hge ▸ T.g.keeps F₃.keep) b1 b2 (F₃.keep _ _ b3) b4 b5 b6 ?_
  intro h₄ hn₄ hs₄
  dsimp only at hn₄ hs₄ ⊢
  have e₄ : ∀ b o, h₃.get? b = some o → h₄.get? b = some o := fun b o e => hs₄.extBut b o (Nat.ne_of_lt (Heap.lt_size e)) (Heap.get?_push_of_some _ e)
  have e₅ : ∀ b o, h₃.get? b = some o → (h₄.push { cls := .type "generator", data := .fields #[.int s₂.gens.size 0, .str "<genexpr>" (tk₃ + 1), .str (env.qual ++ "<genexpr>") (tk₃ + 1 + 1)] }).get? b = some o := fun b o e => Heap.get?_push_of_some _ (e₄ b o e)
  have hsz₄ : h₄.objs.size = h₃.objs.size + 1 := by rw [hs₄.1, Heap.size_push]
  have hsz₃ : ∀ {b : Addr} {o : Obj}, s₂.heap.get? b = some o → b < h₃.objs.size := fun {b o} e => by
    by_cases hb : b = P
    · rw [hb]; exact Heap.lt_size hP₃
    · exact Heap.lt_size (hx₃ b o hb e)
  have hfp : ∀ b ∈ fp, b < h₃.objs.size := fun b hb => let ⟨o, e⟩ := hObj _ _ hst b hb; hsz₃ e
  have hst₅ : St 0 (h₄.push { cls := .type "generator", data := .fields #[.int s₂.gens.size 0, .str "<genexpr>" (tk₃ + 1), .str (env.qual ++ "<genexpr>") (tk₃ + 1 + 1)] }) :=
    (W A hh).frame _ _ _ hst fun b hb o e => e₅ b o (hx₃ b o (fun q => hPf (q ▸ hb)) e)
  have hn₅ := hn₄.push { cls := .type "generator", data := .fields #[.int s₂.gens.size 0, .str "<genexpr>" (tk₃ + 1), .str (env.qual ++ "<genexpr>") (tk₃ + 1 + 1)] }
  have hC₀ : h₀.objs.size ≤ h₃.objs.size := Nat.le_trans F₃.above (Nat.le_of_lt F₃.ns.lt)
  have hLC : L < h₃.objs.size := F₃.ns.lt
  have hCa : h₃.objs.size ≠ h₄.objs.size := by rw [hsz₄]; exact Nat.ne_of_lt (Nat.lt_succ_self _)
  have hpush : ((s₂.gens.push (.fresh (.compStart (.GeneratorExp elt [⟨.Name x px, iter, [], 0⟩] scope pos) 0 (.ref I) .none (genEnv scope cl h₃.objs.size code builtinsNs env)))))[s₂.gens.size]? = some (.fresh (.compStart (.GeneratorExp elt [⟨.Name x px, iter, [], 0⟩] scope pos) 0 (.ref I) .none (genEnv scope cl h₃.objs.size code builtinsNs env))) := Array.getElem?_push_size ..
  refine hQ h₄.objs.size { cls := .type "generator", data := .fields #[.int s₂.gens.size 0, .str "<genexpr>" (tk₃ + 1), .str (env.qual ++ "<genexpr>") (tk₃ + 1 + 1)] } (tabObj ps') _ _ _ ⟨ps', rfl, hps'⟩ (F₃.keeps e₅) (fun p hp => ?_) (fun p hp => ?_) (fun y hy => ?_) ⟨h₃.objs.size, s₂.gens.size, fp, wr, led, St, { cls := .type "generator", data := .fields #[.int s₂.gens.size 0, .str "<genexpr>" (tk₃ + 1), .str (env.qual ++ "<genexpr>") (tk₃ + 1 + 1)] }, List.mem_cons_self, fun h e => ⟨_, _, _, e, rfl, rfl, rfl⟩, fun b hb => ?_, ⟨Nat.ne_of_lt hLC, fun q => hLf ((W A hh).sub _ q)⟩, fun p hp => ?_, ⟨hLf, fun p hp => (N₃ p hp).2.1⟩, (W A hh).sub, fun b hb => ?_, ?_, fun p hp => ?_, fun i h h' => (W A hh).frame i h h', hObj,
    ⟨_, hpush, fun s'' hr => ⟨rfl, ?_⟩⟩, ⟨hst₅, F₃.ns.keeps e₅, ⟨_, hn₅⟩, fun b o e => e₅ b o (F₃.keep b o e), fun p hp => e₅ _ _ (N₃ p hp).1⟩⟩
  · rcases List.mem_cons.mp hp with rfl | hp
    · exact ⟨Heap.get?_push_size _ rfl, Nat.ne_of_gt (by rw [hsz₄]; exact Nat.lt_succ_of_lt hLC), Heap.get?_none_of_le (by rw [hsz₄]; exact Nat.le_succ_of_le hC₀)⟩
    · rcases List.mem_cons.mp hp with rfl | hp
      · exact ⟨e₅ _ _ hP₃, hP.2⟩
      · exact ⟨e₅ _ _ (N₃ p hp).1, (N₃ p hp).2⟩
  · refine Nat.ne_of_lt ?_
    rw [hsz₄]
    rcases List.mem_cons.mp hp with rfl | hp
    · exact Nat.lt_succ_of_lt (Heap.lt_size hP₃)
    · exact Nat.lt_succ_of_lt (Heap.lt_size (N₃ p hp).1)
  · rcases Array.mem_push.mp hy with hy | rfl
    · exact bare y hy
    · rfl
  · rcases List.mem_cons.mp hb with rfl | hb
    · exact Heap.get?_none_of_le hC₀
    · exact hwr b hb
  · rcases List.mem_cons.mp hp with rfl | hp
    · exact ⟨Ne.symm hCa, fun q => by have := hfp _ ((W A hh).sub _ q); rw [hsz₄] at this; exact Nat.lt_irrefl _ (Nat.lt_trans (Nat.lt_succ_self _) this)⟩
    · rcases List.mem_cons.mp hp with rfl | hp
      · exact ⟨Nat.ne_of_lt (Heap.lt_size hP₃), fun q => hPf ((W A hh).sub _ q)⟩
      · exact ⟨Nat.ne_of_lt (Heap.lt_size (N₃ p hp).1), hlw p hp⟩
  · rw [Heap.size_push, hsz₄]; exact Nat.lt_succ_of_lt (Nat.lt_succ_of_lt (hfp b hb))
  · rw [Heap.size_push, hsz₄]; exact Nat.lt_succ_of_lt (Nat.lt_succ_self _)
  · rw [Heap.size_push, hsz₄]; exact Nat.lt_succ_of_lt (Nat.lt_succ_of_lt (Heap.lt_size (N₃ p hp).1))
  · rw [Nat.sub_zero]
    exact seg_genLedStart (A := A.in1.in1) (cenv := genEnv scope cl h₃.objs.size code builtinsNs env) ⟨hLC, fun q => hLf ((W A hh).sub _ q), Heap.get?_none_of_le F₃.above⟩ hh W hx (by simp [genEnv, hkind]) hco (fun q => Nat.lt_irrefl _ (hfp _ q)) hObj hwr (fun p hp => ⟨hlw p hp, Nat.ne_of_lt (Heap.lt_size (N₃ p hp).1), (N₃ p hp).2.2⟩) (fun p hp => (N₃ p hp).2.1) hC₀ (fun i hi => turn code h₃.objs.size i hi) s'' hr
end
end Mine
namespace Mine
/-- a loop's turn, generators and all -/
inductive ForOut (h₀ : Heap) (L : Addr) (wr : List Addr) (own : Led) (Jn : (Str → Option Value) → Led → Array GenState → Prop) (st : Heap → Nat → Array GenState → Shared) (s₂ : Shared) : Prop
  | mk (h' : Heap) (tk : Nat) (gs : Array GenState) (m₂ : Str → Option Value) (news₂ : Led) (h1 : s₂ = st h' tk gs) (h2 : Fr h₀ L h' m₂) (h3 : News h₀ L h' (own ++ news₂)) (h4 : ∀ p ∈ news₂, p.1 ∉ wr) (h5 : Jn m₂ news₂ gs)
inductive ForInv (h₀ : Heap) (L : Addr) (wr : List Addr) (St : Nat → Heap → Prop) (J : Nat → (Str → Option Value) → Led → Array GenState → Prop) (n : Nat) (st : Heap → Nat → Array GenState → Shared) (k : Nat) (s' : Shared) : Prop
  | mk (h' : Heap) (tk : Nat) (gs : Array GenState) (m' : Str → Option Value) (news' : Led) (i : Nat) (h1 : s' = st h' tk gs) (h2 : St i h') (h3 : Fr h₀ L h' m') (h4 : News h₀ L h' news') (h5 : ∀ p ∈ news', p.1 ∉ wr) (h6 : J i m' news' gs) (h7 : i ≤ n) (h8 : k = n + 1 - i)
def ForStep (h₀ : Heap) (L : Addr) (wr : List Addr) (own : Led) (Jn : (Str → Option Value) → Led → Array GenState → Prop) (s₁ : Shared) (Qr : Value → Shared → Prop) (f : Flow) (s₂ : Shared) : Prop :=
  match f with
  | .ret v => Qr v s₂
  | .brk => False
  | _ => ForOut h₀ L wr own Jn (fun h tk gs => { s₁ with heap := h, toks := tk, gens := gs }) s₂

section
variable {prog : Program} {w : World} {A : Around} {s : Shared} {env : Env} {h₀ : Heap}

theorem codeAny_forLoop_G {R : Result → Shared → Prop} {x : Str} {px : Pos} {body : List Stmt} {I : Addr} {fp wr : List Addr} {n : Nat} {P : Nat → Value → Prop} {St : Nat → Heap → Prop} {m : Str → Option Value}
    {news : Led} (W : Walks prog w A I fp wr n P St) (hx : env.kindOf x = some .local)
    (hp : (env.scope.kind == .class || (env.scope.kind == .module && env.locals != env.globals)) = false)
    (hLf : env.locals ∉ fp) (hwr : ∀ b ∈ wr, h₀.get? b = none) (hnw : ∀ p ∈ news, p.1 ∉ wr)
    (hst : St 0 s.heap) (F : Fr h₀ env.locals s.heap m) (N : News h₀ env.locals s.heap news)
    (J : Nat → (Str → Option Value) → Led → Array GenState → Prop) (h0 : J 0 m news s.gens)
    (step : ∀ i v m₁ news₁ s₁ own, (∃ h tk gs, s₁ = { s with heap := h, toks := tk, gens := gs }) → i < n → P i v → J i m₁ news₁ s₁.gens → (∀ p ∈ news₁, p.1 ∉ wr) → (∀ p ∈ own, p.1 ∈ fp) → (∀ b ∈ fp, h₀.get? b = none → ∀ o, s₁.heap.get? b = some o → (b, o) ∈ own) → St (i + 1) s₁.heap →
      Fr h₀ env.locals s₁.heap (fun y => if y = x then some v else m₁ y) → News h₀ env.locals s₁.heap (own ++ news₁) →
      wpAny (model prog w) A (execs body env) (ForStep h₀ env.locals wr own (J (i + 1)) s₁ (fun v s' => R (.ok (.ret v)) s')) (notedBy (model prog w) A env fun e s' => R (.error e) s') s₁)
    (hR : ∀ h' tk gs m' news', Fr h₀ env.locals h' m' → News h₀ env.locals h' news' → (∀ p ∈ news', p.1 ∉ wr) → J n m' news' gs → R (.ok .next) { s with heap := h', toks := tk, gens := gs }) :
    codeAny (model prog w) A (.forLoop (.Name x px) (.ref I) body [] env) R s := by
  have hLw : env.locals ∉ wr := fun h => hLf (W.sub _ h)
  have old : ∀ b o, h₀.get? b = some o → b ∉ wr := fun b o e hb => by rw [hwr b hb] at e; cases e
  refine codeAny_forLoop
    (ForInv h₀ env.locals wr St J n (fun h tk gs => { s with heap := h, toks := tk, gens := gs })) ?_ (n + 1)
    ⟨s.heap, s.toks, s.gens, m, news, 0, rfl, hst, F, N, hnw, h0, Nat.zero_le _, rfl⟩
  rintro k s' ⟨h', tk, gs, m', news', i, rfl, hst', F', N', hnw', hJ, hi, rfl⟩
  have next : ∀ h₁ : Heap, (∀ b o, b ∉ wr → h'.get? b = some o → h₁.get? b = some o) → Fr h₀ env.locals h₁ m' ∧ News h₀ env.locals h₁ news' := fun h₁ hk₁ =>
    ⟨⟨F'.ns.at' fun o e => hk₁ _ o hLw e, fun b o e => hk₁ b o (old b o e) (F'.keep b o e), F'.above⟩, fun p hp => ⟨hk₁ _ _ (hnw' p hp) (N' p hp).1, (N' p hp).2⟩⟩
  by_cases hlt : i < n
  · refine W.item i _ _ _ hlt hst' fun v h₁ tk₁ hP hst₁ hk₁ => ?_
    obtain ⟨F₁, N₁⟩ := next h₁ hk₁
    refine wpAny_assign_Name (wpAny_storeName_local hx F₁.ns (fun h₂ hn₂ hs₂ => ?_) hp)
    have F₂ := F₁.set hn₂ hs₂
    have Nown : News h₀ env.locals h₂ (PyProof.Rows.ownOf h₀ fp h₂) := news_ownOf hLf
    have hst₂ : St (i + 1) h₂ := W.frame _ _ _ hst₁ fun b hb o e => (hs₂.2 b fun q => hLf (q ▸ hb)).trans e
    refine wpAny_mono (step i v m' news' _ (PyProof.Rows.ownOf h₀ fp h₂) ⟨_, _, _, rfl⟩ hlt hP hJ hnw' ownOf_sub (fun b hb hn o e => mem_ownOf hb hn e) hst₂ F₂ (Nown.append (N₁.set hs₂))) (fun f s₃ h₃ => ?_) fun _ _ e => e
    have fin : ForOut h₀ env.locals wr (PyProof.Rows.ownOf h₀ fp h₂) (J (i + 1)) (fun h tk gs => { s with heap := h, toks := tk, gens := gs }) s₃ →
        ∃ k', k' < n + 1 - i ∧ ForInv h₀ env.locals wr St J n (fun h tk gs => { s with heap := h, toks := tk, gens := gs }) k' s₃ := by
      rintro ⟨h₃', tk₃, gs₃, m₂, news₂, rfl, F₃, N₃, ha₃, hJ₃⟩
      refine ⟨n + 1 - (i + 1), by omega, h₃', tk₃, gs₃, m₂, news₂, i + 1, rfl, ?_, F₃, N₃.right, ha₃, hJ₃, hlt, rfl⟩
      refine W.frame _ _ _ hst₁ fun b hb o e => ?_
      have e₂ : h₂.get? b = some o := (hs₂.2 b fun q => hLf (q ▸ hb)).trans e
      cases hn : h₀.get? b with
      | some o₀ =>
        have : o₀ = o := by have := F₂.keep b o₀ hn; rw [e₂] at this; exact (Option.some.inj this).symm
        exact this ▸ F₃.keep b o₀ hn
      | none => exact (N₃ _ (List.mem_append_left _ (mem_ownOf hb hn e₂))).1
    cases f with
    | ret v => exact h₃
    | brk => exact h₃.elim
    | cont => exact fin h₃
    | next => exact fin h₃
  · have hin : i = n := by omega
    subst hin
    refine W.done _ _ _ hst' fun h₁ tk₁ hk₁ => wpAny_execs_nil ?_
    obtain ⟨F₁, N₁⟩ := next h₁ hk₁
    exact hR h₁ tk₁ gs m' news' F₁ N₁ hnw' hJ

inductive ForAt (prog : Program) (w : World) (A : Around) (h₀ : Heap) (env : Env) (x : Str) (body : List Stmt) (Q : Flow → Shared → Prop) (E : Value → Shared → Prop) (it : Value) (s₂ : Shared) : Prop
  | mk (I : Addr) (fp wr : List Addr) (n : Nat) (P : Nat → Value → Prop) (St : Nat → Heap → Prop) (m : Str → Option Value) (news : Led) (J : Nat → (Str → Option Value) → Led → Array GenState → Prop) (h1 : it = .ref I) (h2 : Walks prog w A I fp wr n P St) (h3 : env.locals ∉ fp) (h4 : ∀ b ∈ wr, h₀.get? b = none) (h5 : ∀ p ∈ news, p.1 ∉ wr) (h6 : St 0 s₂.heap) (h7 : Fr h₀ env.locals s₂.heap m) (h8 : News h₀ env.locals s₂.heap news) (h9 : J 0 m news s₂.gens) (h10 : ∀ i v m₁ news₁ s₁ own, (∃ h tk gs, s₁ = { s₂ with heap := h, toks := tk, gens := gs }) → i < n → P i v → J i m₁ news₁ s₁.gens → (∀ p ∈ news₁, p.1 ∉ wr) → (∀ p ∈ own, p.1 ∈ fp) → (∀ b ∈ fp, h₀.get? b = none → ∀ o, s₁.heap.get? b = some o → (b, o) ∈ own) → St (i + 1) s₁.heap → Fr h₀ env.locals s₁.heap (fun y => if y = x then some v else m₁ y) → News h₀ env.locals s₁.heap (own ++ news₁) → wpAny (model prog w) A (execs body env) (ForStep h₀ env.locals wr own (J (i + 1)) s₁ (fun v s' => Q (.ret v) s')) E s₁) (h11 : ∀ h' tk gs m' news', Fr h₀ env.locals h' m' → News h₀ env.locals h' news' → (∀ p ∈ news', p.1 ∉ wr) → J n m' news' gs → Q .next { s₂ with heap := h', toks := tk, gens := gs })
theorem For_G {E : Value → Shared → Prop} {Q : Flow → Shared → Prop} {x : Str} {px pos : Pos} {iter : Expr} {body : List Stmt} (h₀ : Heap) (hx : env.kindOf x = some .local)
    (hp : (env.scope.kind == .class || (env.scope.kind == .module && env.locals != env.globals)) = false)
    (h : wpAny (model prog w) A (eval iter env) (fun xv s₁ => wpAny (model prog w) A (pyIter xv) (fun it s₂ => ForAt prog w A h₀ env x body Q E it s₂) E s₁) E s)
    (hs : ∀ x, foldedSetIterable iter env x = pure x := by intro _; rfl)
    (hE : PassesOwn (model prog w) A env E := by passes_own) :
    wpAny (model prog w) A (exec (.For (.Name x px) iter body [] pos) env) Q E s := by
  refine wpAny_For (wpAny_mono h (fun xv s₁ h₁ => wpAny_mono h₁ (fun it s₂ h₂ => ?_) fun _ _ e => e) fun _ _ e => e) hs
  obtain ⟨I, fp, wr, n, P, St, m, news, J, rfl, W, hLf, hwr, hnw, hst, F, N, h0, step, hQ⟩ := h₂
  exact codeAny_forLoop_G (R := fun r s' => match r with | .ok f => Q f s' | .error e => cameBackBy (model prog w) A env E e s') W hx hp hLf hwr hnw hst F N J h0 (by intros; exact wpAny_passesOwn hE (by apply step <;> assumption)) hQ
end
end Mine
namespace Mine
/-- a turn's end, by the moving part -/
inductive LoopOut (h₀ : Heap) (L I : Addr) (own fix : Led) (Jn : (Str → Option Value) → Led → Array GenState → Prop) (st : Heap → Nat → Array GenState → Shared) (s₂ : Shared) : Prop
  | mk (h' : Heap) (tk : Nat) (gs : Array GenState) (m₂ : Str → Option Value) (mov : Led) (h1 : s₂ = st h' tk gs) (h2 : Fr h₀ L h' m₂) (h3 : News h₀ L h' (own ++ (mov ++ fix))) (h4 : ∀ p ∈ mov, p.1 ≠ I) (h5 : Jn m₂ mov gs)
def LoopEnd (h₀ : Heap) (L I : Addr) (own fix : Led) (Jn : (Str → Option Value) → Led → Array GenState → Prop) (s₁ : Shared) (Qr : Value → Shared → Prop) (f : Flow) (s₂ : Shared) : Prop :=
  match f with
  | .ret v => Qr v s₂
  | .brk => False
  | _ => LoopOut h₀ L I own fix Jn (fun h tk gs => { s₁ with heap := h, toks := tk, gens := gs }) s₂
theorem LoopOut.step {h₀ : Heap} {L I : Addr} {own fix : Led} {Jn : (Str → Option Value) → Led → Array GenState → Prop} {st : Heap → Nat → Array GenState → Shared} {s₂ : Shared} (h : LoopOut h₀ L I own fix Jn st s₂) (hne : ∀ p ∈ fix, p.1 ≠ I) : ForOut h₀ L [I] own (fun m' news' gs => ∃ mov, news' = mov ++ fix ∧ Jn m' mov gs) st s₂ := by
  obtain ⟨h', tk', gs', m₂, mov, e, F, N, ha, hJ⟩ := h
  refine ⟨h', tk', gs', m₂, mov ++ fix, e, F, N, fun p hp q => ?_, mov, rfl, hJ⟩
  rw [List.mem_singleton] at q
  exact (List.mem_append.mp hp).elim (fun hp => ha p hp q) fun hp => hne p hp q
theorem LoopEnd.next {h₀ h' : Heap} {L I : Addr} {own mov fix : Led} {Jn : (Str → Option Value) → Led → Array GenState → Prop} {s₁ : Shared} {Qr : Value → Shared → Prop} {tk : Nat} {gs : Array GenState} {m₂ : Str → Option Value}
    (F : Fr h₀ L h' m₂) (N : News h₀ L h' (own ++ (mov ++ fix))) (ha : ∀ p ∈ mov, p.1 ≠ I) (j : Jn m₂ mov gs) : LoopEnd h₀ L I own fix Jn s₁ Qr .next { s₁ with heap := h', toks := tk, gens := gs } := ⟨h', tk, gs, m₂, mov, rfl, F, N, ha, j⟩
section
variable {prog : Program} {w : World} {A : Around} {E : Value → Shared → Prop} {s : Shared} {env : Env} {h₀ : Heap} {x : Str} {body : List Stmt} {Q : Flow → Shared → Prop} {m : Str → Option Value} {mov₀ fix : Led}

theorem for_list {ax : Addr} {vs : List Value} {e : Nat} (J : Nat → (Str → Option Value) → Led → Array GenState → Prop) (hh : A.handled = none) (F : Fr h₀ env.locals s.heap m) (N : News h₀ env.locals s.heap (mov₀ ++ fix)) (hm : (ax, lsO vs e) ∈ fix) (h0 : J 0 m mov₀ s.gens)
    (step : ∀ i v m₁ mov I oI own h tk gs, i < vs.length → vs[i]? = some v → J i m₁ mov gs → (I, oI) ∈ own → (∀ q ∈ own, q.1 = I ∨ q.1 = ax) → (∀ p ∈ mov ++ fix, p.1 ≠ I) → Fr h₀ env.locals h (fun y => if y = x then some v else m₁ y) → News h₀ env.locals h (own ++ (mov ++ fix)) →
      wpAny (model prog w) A (execs body env) (LoopEnd h₀ env.locals I own fix (J (i + 1)) { s with heap := h, toks := tk, gens := gs } (fun v s' => Q (.ret v) s')) E { s with heap := h, toks := tk, gens := gs })
    (fin : ∀ h tk gs m' mov, Fr h₀ env.locals h m' → News h₀ env.locals h (mov ++ fix) → J vs.length m' mov gs → Q .next { s with heap := h, toks := tk, gens := gs }) :
    wpAny (model prog w) A (pyIter (.ref ax)) (fun it s₂ => ForAt prog w A h₀ env x body Q E it s₂) E s := by
  have N₀ := N
  have hma := N _ (List.mem_append_right _ hm)
  have hl : s.heap.IsList ax vs.toArray := ⟨_, hma.1, rfl, _, rfl⟩
  have hlt : ax < s.heap.objs.size := Heap.lt_size hma.1
  have up : ∀ b o, s.heap.get? b = some o → (s.heap.push { cls := .type "list_iterator", data := .fields #[.ref ax, .int 0 0] }).get? b = some o := fun b o e => Heap.get?_push_of_some _ e
  refine wpAny_pyIter_list hl ?_
  have W : Walks prog w A s.heap.objs.size [s.heap.objs.size, ax] [s.heap.objs.size] vs.length (fun i v => vs[i]? = some v) (fun i h => h.IsListIter s.heap.objs.size ax i ∧ h.IsList ax vs.toArray) := by
    have W := Walks.list (prog := prog) (w := w) hh s.heap.objs.size ax (Nat.ne_of_lt hlt) vs.toArray
    simpa using W
  have hI₀ : h₀.get? s.heap.objs.size = none := next_is_new F
  have hne : ∀ p ∈ mov₀ ++ fix, p.1 ≠ s.heap.objs.size := fun p hp => Nat.ne_of_lt (Heap.lt_size (N p hp).1)
  refine ⟨s.heap.objs.size, _, _, vs.length, _, _, m, mov₀ ++ fix, fun i m' news' gs => ∃ mov, news' = mov ++ fix ∧ J i m' mov gs, rfl, W, ?_, ?_, ?_, ⟨⟨_, Heap.get?_push_size _ rfl, rfl, rfl⟩, hl.push _⟩, F.keeps up, N.grown up, ⟨mov₀, rfl, h0⟩, ?_, ?_⟩
  · intro hL
    rcases List.mem_cons.mp hL with e | hL
    · exact Nat.ne_of_lt F.ns.lt e
    · exact hma.2.1 (List.mem_singleton.mp hL).symm
  · intro b hb
    rw [List.mem_singleton.mp hb]; exact hI₀
  · exact fun p hp h => hne p hp (List.mem_singleton.mp h)
  · rintro i v m₁ news₁ s₁ own ⟨h, tk, gs, rfl⟩ hi hP ⟨mov, rfl, hJ⟩ hnw hsub hall hst F₁ N₁
    obtain ⟨⟨oI, eI, _⟩, _⟩ := hst
    have hIo : (s.heap.objs.size, oI) ∈ own := hall _ List.mem_cons_self hI₀ _ eI
    refine wpAny_mono (step i v m₁ mov _ oI own h tk gs hi hP hJ hIo (fun q hq => by simpa using hsub q hq) (fun p hp e => hnw p hp (by rw [e]; exact List.mem_singleton.mpr rfl)) F₁ N₁) (fun f s₃ h₃ => ?_) fun _ _ e => e
    cases f with
    | ret v => exact h₃
    | brk => exact h₃
    | cont => exact LoopOut.step h₃ fun p hp => hne p (List.mem_append_right _ hp)
    | next => exact LoopOut.step h₃ fun p hp => hne p (List.mem_append_right _ hp)
  · rintro h' tk gs m' _ F' N' _ ⟨mov, rfl, hJ⟩
    exact fin h' tk gs m' mov F' N' hJ

theorem for_range {r : Addr} {a b : Int} {t u v : Tok} {n : Nat} (J : Nat → (Str → Option Value) → Led → Array GenState → Prop) (hh : A.handled = none) (F : Fr h₀ env.locals s.heap m) (N : News h₀ env.locals s.heap (mov₀ ++ fix)) (hr : IsRange s.heap r a b 1 t u v) (hsm : Builtin.Range.small a b 1 = true) (hn : Builtin.Range.rangeSize a b 1 = (n : Int)) (h0 : J 0 m mov₀ s.gens)
    (step : ∀ i v m₁ mov I oI own h tk gs, i < n → (∃ t, v = .int (a + (i : Int)) t) → J i m₁ mov gs → (I, oI) ∈ own → (∀ q ∈ own, q.1 = I) → (∀ p ∈ mov ++ fix, p.1 ≠ I) → Fr h₀ env.locals h (fun y => if y = x then some v else m₁ y) → News h₀ env.locals h (own ++ (mov ++ fix)) →
      wpAny (model prog w) A (execs body env) (LoopEnd h₀ env.locals I own fix (J (i + 1)) { s with heap := h, toks := tk, gens := gs } (fun v s' => Q (.ret v) s')) E { s with heap := h, toks := tk, gens := gs })
    (fin : ∀ h tk gs m' mov, Fr h₀ env.locals h m' → News h₀ env.locals h (mov ++ fix) → J n m' mov gs → Q .next { s with heap := h, toks := tk, gens := gs }) :
    wpAny (model prog w) A (pyIter (.ref r)) (fun it s₂ => ForAt prog w A h₀ env x body Q E it s₂) E s := by
  have W := LCg.range_walks (prog := prog) (w := w) (I := s.heap.objs.size) hh a n
  refine wpAny_pyIter_range hr hsm ?_
  have hI₀ : h₀.get? s.heap.objs.size = none := next_is_new F
  have hne : ∀ p ∈ mov₀ ++ fix, p.1 ≠ s.heap.objs.size := fun p hp => Nat.ne_of_lt (Heap.lt_size (N p hp).1)
  refine ⟨s.heap.objs.size, _, _, n, _, _, m, mov₀ ++ fix, fun i m' news' gs => ∃ mov, news' = mov ++ fix ∧ J i m' mov gs, rfl, W, ?_, ?_, ?_, (by show IsRangeIter _ _ _ _ _; rw [hn]; simpa using Heap.get?_push_size _ rfl), F.keeps fun _ _ e => Heap.get?_push_of_some _ e, N.grown fun _ _ e => Heap.get?_push_of_some _ e, ⟨mov₀, rfl, h0⟩, ?_, ?_⟩
  · intro hL
    exact Nat.ne_of_lt F.ns.lt (List.mem_singleton.mp hL)
  · intro b hb
    rw [List.mem_singleton.mp hb]; exact hI₀
  · exact fun p hp h => hne p hp (List.mem_singleton.mp h)
  · rintro i v m₁ news₁ s₁ own ⟨h, tk, gs, rfl⟩ hi hP ⟨mov, rfl, hJ⟩ hnw hsub hall hst F₁ N₁
    have hIo := hall _ (List.mem_singleton.mpr rfl) hI₀ _ hst
    refine wpAny_mono (step i v m₁ mov _ _ own h tk gs hi hP hJ hIo (fun q hq => by simpa using hsub q hq) (fun p hp e => hnw p hp (by rw [e]; exact List.mem_singleton.mpr rfl)) F₁ N₁) (fun f s₃ h₃ => ?_) fun _ _ e => e
    cases f with
    | ret v => exact h₃
    | brk => exact h₃
    | cont => exact LoopOut.step h₃ fun p hp => hne p (List.mem_append_right _ hp)
    | next => exact LoopOut.step h₃ fun p hp => hne p (List.mem_append_right _ hp)
  · rintro h' tk gs m' _ F' N' _ ⟨mov, rfl, hJ⟩
    exact fin h' tk gs m' mov F' N' hJ
end
end Mine
namespace Mine
def gEnv (scope : Scope) (cl : List (Str × Addr)) (C : Addr) (code : Value) (qual : Str) : Env := { scope, locals := C, globals := mainGlobals, cells := cl, qual, func := none, code, frame := some C, builtins := builtinsNs }
theorem gname_free {M : Model} {A : Around} {E : Value → Shared → Prop} {s : Shared} {h₀ : Heap} {L c C : Addr} {news : Led} {o : Obj} {x : Str} {v : Value} {pos : Pos} {scope : Scope} {cl : List (Str × Addr)} {code : Value} {qual : Str} {Q : Value → Shared → Prop} (N : News h₀ L s.heap news) (hc : cl.lookup x = some c) (hm : (c, o) ∈ news) (hd : o.data = .cell (some v)) (h : Q v s)
    (hk : scope.kind = .function := by rfl) (hx : (gEnv scope cl C code qual).kindOf x = some .free := by rfl) (hb : (x == ("__debug__" : Str)) = false := by decide) (hn : (x == ("__classdict__" : Str)) = false := by decide) :
    wpAny M A (eval (.Name x pos) (gEnv scope cl C code qual)) Q E s := wpAny_Name (wpAny_loadName_free hk hx hc ⟨o, (N _ hm).1, hd⟩ h hn) hb
theorem gname_local {M : Model} {A : Around} {E : Value → Shared → Prop} {s : Shared} {h₀ : Heap} {C : Addr} {m : Str → Option Value} {x : Str} {v : Value} {pos : Pos} {scope : Scope} {cl : List (Str × Addr)} {code : Value} {qual : Str} {Q : Value → Shared → Prop} (F : Fr h₀ C s.heap m) (hm : m x = some v) (h : Q v s)
    (hk : scope.kind = .function := by rfl) (hx : (gEnv scope cl C code qual).kindOf x = some .local := by rfl) (hb : (x == ("__debug__" : Str)) = false := by decide) :
    wpAny M A (eval (.Name x pos) (gEnv scope cl C code qual)) Q E s := wpAny_Name (wpAny_loadName_local hk hx F.ns hm h) hb
theorem fr_if {h₀ h : Heap} {L : Addr} {m m' : Str → Option Value} {x : Str} (hm : ∀ y, y ≠ x → m' y = m y) (F : Fr h₀ L h m') : ∃ e, Fr h₀ L h (fun y => if y = x then e else m y) :=
  ⟨m' x, (funext fun y => by
    by_cases hy : y = x
    · rw [if_pos hy, hy]
    · rw [if_neg hy]; exact hm y hy : m' = fun y => if y = x then m' x else m y) ▸ F⟩
theorem below_gen {A A' : Around} {base g G : Heap} {outer : List Env} {env : Env} {L : Addr} {m : Str → Option Value} (B : Below A base outer g) (hA : A'.frames = some (env :: outer)) (hf : env.frame = some L) (hk : env.scope.kind = .function) (hL : g.objs.size ≤ L) (up : ∀ b o, g.get? b = some o → G.get? b = some o) (hn : G.Ns L m) : Below A' base (env :: outer) G := by
  have hnew : base.get? L = none := by
    cases hq : base.get? L with
    | none => rfl
    | some o => exact absurd (Nat.lt_of_lt_of_le (Heap.lt_size (B.stays L o hq)) hL) (Nat.lt_irrefl _)
  exact ⟨hA, fun b o e => up b o (B.stays b o e), .cons (by rw [hk]; decide) hf hn hnew (B.frames.of_keeps fun b o e _ => ⟨o, up b o e, rfl⟩)⟩
theorem genTurn_of {prog : Program} {w : World} {A : Around} {dp un : Nat} {gd : Option (List Code)} {env : Env} {outer : List Env} {e1 : Expr} {gs1 : List Comprehension} {sc1 : Scope} {p1 : Pos} {it acc : Value} {h₀ : Heap} {C : Addr} {scope : Scope} {cl : List (Str × Addr)} {code : Value} {elt : Expr} {x : Str} {led : Led} {V : Nat → Value → Prop} {F : Nat → Value → Led → Prop} {i : Nat} {L : Addr} {m : Str → Option Value}
    (hA : A = gTop dp un gd env outer) (hge : env.globals = mainGlobals) (h : ∀ gd' qual, GenTurn prog w (gTop (dp + 1) (un + 5) gd' (gEnv scope cl C code qual) (env :: outer)) h₀ L m C (gEnv scope cl C code qual) elt x led V F i) :
    GenTurn prog w (A.in1.in1.over (.compLoop (.GeneratorExp e1 gs1 sc1 p1) 0 it acc (genEnv scope cl C code builtinsNs env)) []) h₀ L m C (genEnv scope cl C code builtinsNs env) elt x led V F i := by
  subst hA
  have e : genEnv scope cl C code builtinsNs env = gEnv scope cl C code (env.qual ++ "<genexpr>.") := by unfold genEnv gEnv; rw [hge]
  rw [e]
  have e2 : ((gTop dp un gd env outer).in1.in1.over (.compLoop (.GeneratorExp e1 gs1 sc1 p1) 0 it acc (gEnv scope cl C code (env.qual ++ "<genexpr>."))) []) = gTop (dp + 1) (un + 5) ((gTop dp un gd env outer).in1.in1.over (.compLoop (.GeneratorExp e1 gs1 sc1 p1) 0 it acc (gEnv scope cl C code (env.qual ++ "<genexpr>."))) []).guards (gEnv scope cl C code (env.qual ++ "<genexpr>.")) (env :: outer) := rfl
  rw [e2]
  exact h _ _
theorem genTurn_in {prog : Program} {w : World} {A A₁ : Around} {dp un : Nat} {gd : Option (List Code)} {env : Env} {outer : List Env} {e1 : Expr} {gs1 : List Comprehension} {sc1 : Scope} {p1 : Pos} {it acc : Value} {h₀ base : Heap} {C : Addr} {scope : Scope} {cl : List (Str × Addr)} {code : Value} {elt : Expr} {x : Str} {led : Led} {V : Nat → Value → Prop} {F : Nat → Value → Led → Prop} {i : Nat} {L : Addr} {m : Str → Option Value}
    {K : Frag} {p : Program} {loose : List Str} {mean : ExcName → Option Value} {mg mb : Str → Option Value} (B : Below A₁ base outer h₀) (X : K.In h₀) (T : Top p loose mean mg mb h₀) (hL : h₀.objs.size ≤ L)
    (hA : A = gTop dp un gd env outer) (hge : env.globals = mainGlobals) (hf : env.frame = some L) (hk : env.scope.kind = .function)
    (h : ∀ gd' qual (G : Heap) (s : Shared) (v : Value) (mC : Str → Option Value) (rest : Led) (E' : Value → Shared → Prop), Below A base (env :: outer) G → K.In G → Top p loose mean mg mb G → V i v → mC x = some v → (∀ p ∈ led, p ∈ rest) → Fr G C s.heap mC → News G C s.heap rest →
      wpAny (model prog w) (gTop (dp + 1) (un + 5) gd' (gEnv scope cl C code qual) (env :: outer)) (eval elt (gEnv scope cl C code qual)) (TurnEnd G C mC s rest (F i)) E' s) :
    GenTurn prog w (A.in1.in1.over (.compLoop (.GeneratorExp e1 gs1 sc1 p1) 0 it acc (genEnv scope cl C code builtinsNs env)) []) h₀ L m C (genEnv scope cl C code builtinsNs env) elt x led V F i :=
  genTurn_of hA hge fun gd' qual G s v mC rest E' hv hm hs up n F N => h gd' qual G s v mC rest E' (below_gen B (by rw [hA]) hf hk hL up n) (X.keeps up) (T.keeps up) hv hm hs F N
section
variable {prog : Program} {w : World} {A : Around} {E : Value → Shared → Prop} {s : Shared} {h₀ : Heap} {L P : Addr} {m : Str → Option Value} {env : Env} {elt gexp : Expr} {x : Str} {scope : Scope} {cl : List (Str × Addr)} {Q : Value → Shared → Prop} {led : Led} {oP : Obj}

theorem gsrc_list {ax : Addr} {vs : List Value} {e : Nat} (F : Nat → Value → Led → Prop) (hh : A.handled = none) (F₁ : Fr h₀ L s.heap m) (N₁ : News h₀ L s.heap ((P, oP) :: led)) (hT : IsTab oP) (hm : (ax, lsO vs e) ∈ led) (hlP : ∀ p ∈ led, p.1 ≠ P) (bare : AllBare s.gens)
    (turn : ∀ (code : Value) (C I : Addr) (i : Nat), i < vs.length → GenTurn prog w (A.in1.in1.over (.compLoop gexp 0 (.ref I) .none (genEnv scope cl C code builtinsNs env)) []) h₀ L m C (genEnv scope cl C code builtinsNs env) elt x led (fun i v => vs[i]? = some v) F i)
    (fin : ∀ (a : Addr) (oa oP' : Obj) (h' : Heap) (tk : Nat) (gs : Array GenState), IsTab oP' → Fr h₀ L h' m → News h₀ L h' ((a, oa) :: (P, oP') :: led) → (∀ p ∈ (P, oP') :: led, p.1 ≠ a) → AllBare gs → GenRun prog w A h₀ L m a ((a, oa) :: (P, oP') :: led) vs.length F h' gs → Q (.ref a) { s with heap := h', toks := tk, gens := gs }) :
    wpAny (model prog w) A (pyIter (.ref ax)) (GSrc prog w A h₀ L P m env elt gexp x scope cl Q) E s := by
  have hma := N₁ _ (List.mem_cons_of_mem _ hm)
  have hl : s.heap.IsList ax vs.toArray := ⟨_, hma.1, rfl, _, rfl⟩
  have hlt : ax < s.heap.objs.size := Heap.lt_size hma.1
  have up : ∀ b o, s.heap.get? b = some o → (s.heap.push { cls := .type "list_iterator", data := .fields #[.ref ax, .int 0 0] }).get? b = some o := fun b o e => Heap.get?_push_of_some _ e
  refine wpAny_pyIter_list hl ?_
  have W : ∀ A' : Around, A'.handled = none → Walks prog w A' s.heap.objs.size [s.heap.objs.size, ax] [s.heap.objs.size] vs.length (fun i v => vs[i]? = some v) (fun i h => h.IsListIter s.heap.objs.size ax i ∧ h.IsList ax vs.toArray) := fun A' hA => by
    have W := Walks.list (prog := prog) (w := w) hA s.heap.objs.size ax (Nat.ne_of_lt hlt) vs.toArray
    simpa using W
  have hne : ∀ p ∈ (P, oP) :: led, p.1 ≠ s.heap.objs.size := fun p hp => Nat.ne_of_lt (Heap.lt_size (N₁ p hp).1)
  refine ⟨s.heap.objs.size, _, _, vs.length, _, _, led, oP, F, rfl, W, ?_, ⟨⟨_, Heap.get?_push_size _ rfl, rfl, rfl⟩, hl.push _⟩, F₁.keeps up, N₁.grown up, hT, ?_, hlP, ?_, ?_, ?_, bare, fun code C i hi => turn code C _ i hi, ?_⟩
  · rintro i h ⟨⟨o, e, _⟩, ⟨o', e', _⟩⟩ b hb
    rcases List.mem_cons.mp hb with rfl | hb
    · exact ⟨o, e⟩
    · rw [List.mem_singleton.mp hb]; exact ⟨o', e'⟩
  · intro hP
    rcases List.mem_cons.mp hP with e | hP
    · exact hne _ List.mem_cons_self e
    · exact hlP _ hm (List.mem_singleton.mp hP).symm
  · intro hL
    rcases List.mem_cons.mp hL with e | hL
    · exact Nat.ne_of_lt F₁.ns.lt e
    · exact hma.2.1 (List.mem_singleton.mp hL).symm
  · exact fun p hp h => hne p (List.mem_cons_of_mem _ hp) (List.mem_singleton.mp h)
  · intro b hb
    rw [List.mem_singleton.mp hb]; exact next_is_new F₁
  · exact fun a oa oP' h' tk gs hT' F' N' ap b' X => fin a oa oP' h' tk gs hT' F' N' ap b' X

theorem gsrc_range {r : Addr} {a b : Int} {t u v : Tok} {n : Nat} (F : Nat → Value → Led → Prop) (hh : A.handled = none) (F₁ : Fr h₀ L s.heap m) (N₁ : News h₀ L s.heap ((P, oP) :: led)) (hT : IsTab oP) (hr : IsRange s.heap r a b 1 t u v) (hsm : Builtin.Range.small a b 1 = true) (hn : Builtin.Range.rangeSize a b 1 = (n : Int)) (hlP : ∀ p ∈ led, p.1 ≠ P) (bare : AllBare s.gens)
    (turn : ∀ (code : Value) (C I : Addr) (i : Nat), i < n → GenTurn prog w (A.in1.in1.over (.compLoop gexp 0 (.ref I) .none (genEnv scope cl C code builtinsNs env)) []) h₀ L m C (genEnv scope cl C code builtinsNs env) elt x led (fun i v => ∃ t, v = .int (a + (i : Int)) t) F i)
    (fin : ∀ (a : Addr) (oa oP' : Obj) (h' : Heap) (tk : Nat) (gs : Array GenState), IsTab oP' → Fr h₀ L h' m → News h₀ L h' ((a, oa) :: (P, oP') :: led) → (∀ p ∈ (P, oP') :: led, p.1 ≠ a) → AllBare gs → GenRun prog w A h₀ L m a ((a, oa) :: (P, oP') :: led) n F h' gs → Q (.ref a) { s with heap := h', toks := tk, gens := gs }) :
    wpAny (model prog w) A (pyIter (.ref r)) (GSrc prog w A h₀ L P m env elt gexp x scope cl Q) E s := by
  refine wpAny_pyIter_range hr hsm ?_
  have hne : ∀ p ∈ (P, oP) :: led, p.1 ≠ s.heap.objs.size := fun p hp => Nat.ne_of_lt (Heap.lt_size (N₁ p hp).1)
  refine ⟨s.heap.objs.size, _, _, n, _, _, led, oP, F, rfl, fun A' hA => LCg.range_walks (prog := prog) (w := w) (I := s.heap.objs.size) hA a n, ?_, (by show IsRangeIter _ _ _ _ _; rw [hn]; simpa using Heap.get?_push_size _ rfl), F₁.keeps fun _ _ e => Heap.get?_push_of_some _ e, N₁.grown fun _ _ e => Heap.get?_push_of_some _ e, hT, ?_, hlP, ?_, ?_, ?_, bare, fun code C i hi => turn code C _ i hi, ?_⟩
  · intro i h st b hb
    rw [List.mem_singleton.mp hb]
    exact ⟨_, st⟩
  · exact fun hP => hne _ List.mem_cons_self (List.mem_singleton.mp hP)
  · exact fun hL => Nat.ne_of_lt F₁.ns.lt (List.mem_singleton.mp hL)
  · exact fun p hp h => hne p (List.mem_cons_of_mem _ hp) (List.mem_singleton.mp h)
  · intro b hb
    rw [List.mem_singleton.mp hb]; exact next_is_new F₁
  · exact fun a oa oP' h' tk gs hT' F' N' ap b' X => fin a oa oP' h' tk gs hT' F' N' ap b' X
end
end Mine
namespace Mine
/-- equal but for a multiple of q -/
def EqM (q a b : Int) : Prop := ∃ k, a = b + q * k
theorem EqM.rfl' {q a : Int} : EqM q a a := ⟨0, by grind⟩
theorem EqM.mod {q a : Int} : EqM q (a % q) a := ⟨-(a / q), by have := Int.mul_ediv_add_emod a q; grind⟩
theorem EqM.modL {q a b : Int} (h : EqM q a b) : EqM q (a % q) b := by
  obtain ⟨k, h⟩ := h; obtain ⟨l, hl⟩ := EqM.mod (q := q) (a := a); exact ⟨k + l, by rw [hl, h]; grind⟩
theorem EqM.add {q a b c d : Int} (h : EqM q a b) (h' : EqM q c d) : EqM q (a + c) (b + d) := by
  obtain ⟨k, rfl⟩ := h; obtain ⟨l, rfl⟩ := h'; exact ⟨k + l, by grind⟩
theorem EqM.sub {q a b c d : Int} (h : EqM q a b) (h' : EqM q c d) : EqM q (a - c) (b - d) := by
  obtain ⟨k, rfl⟩ := h; obtain ⟨l, rfl⟩ := h'; exact ⟨k - l, by grind⟩
theorem EqM.mul {q a b c d : Int} (h : EqM q a b) (h' : EqM q c d) : EqM q (a * c) (b * d) := by
  obtain ⟨k, rfl⟩ := h; obtain ⟨l, rfl⟩ := h'; exact ⟨k * d + b * l + q * k * l, by grind⟩
theorem EqM.to {q a b : Int} (h : EqM q a b) : a % q = b % q := by
  obtain ⟨k, rfl⟩ := h; exact Int.add_mul_emod_self_left b q k
theorem eqMod {q a b c d : Int} (h : EqM q a c) (h' : EqM q b d) (e : c = d) : a % q = b % q := by rw [h.to, h'.to, e]

end Mine
namespace Mine
section
variable {prog : Program} {w : World} {A : Around} {E : Value → Shared → Prop} {s : Shared} {h₀ : Heap} {L : Addr} {m : Str → Option Value} {env : Env}
inductive StepOutC (h₀ : Heap) (L c : Addr) (wr : List Addr) (own : Led) (Jn : (Str → Option Value) → Led → Array GenState → Prop) (st : Heap → Nat → Array GenState → Shared) (s₂ : Shared) : Prop
  | mk (h' : Heap) (tk : Nat) (gs : Array GenState) (m₂ : Str → Option Value) (news₂ : Led) (oc₂ : Obj) (v₂ : Option Value) (h1 : s₂ = st h' tk gs) (h2 : oc₂.data = .cell v₂) (h3 : Fr h₀ L h' m₂) (h4 : News h₀ L h' (own ++ ((c, oc₂) :: news₂))) (h5 : ∀ p ∈ news₂, p.1 ∉ wr) (h6 : ∀ p ∈ news₂, p.1 ≠ c) (h7 : Jn m₂ news₂ gs)
/-- a turn's end, the loop's cell ahead -/
def StepC (h₀ : Heap) (L c : Addr) (wr : List Addr) (own : Led) (Jn : (Str → Option Value) → Led → Array GenState → Prop) (s₁ : Shared) (Qr : Value → Shared → Prop) (f : Flow) (s₂ : Shared) : Prop :=
  match f with
  | .ret v => Qr v s₂
  | .brk => False
  | _ => StepOutC h₀ L c wr own Jn (fun h tk gs => { s₁ with heap := h, toks := tk, gens := gs }) s₂
inductive ForInvC (h₀ : Heap) (L c : Addr) (wr : List Addr) (St : Nat → Heap → Prop) (J : Nat → (Str → Option Value) → Led → Array GenState → Prop) (n : Nat) (st : Heap → Nat → Array GenState → Shared) (k : Nat) (s' : Shared) : Prop
  | mk (h' : Heap) (tk : Nat) (gs : Array GenState) (m' : Str → Option Value) (news' : Led) (oc' : Obj) (v' : Option Value) (i : Nat) (h1 : s' = st h' tk gs) (h2 : St i h') (h3 : oc'.data = .cell v') (h4 : Fr h₀ L h' m') (h5 : News h₀ L h' ((c, oc') :: news')) (h6 : ∀ p ∈ news', p.1 ∉ wr) (h7 : ∀ p ∈ news', p.1 ≠ c) (h8 : J i m' news' gs) (h9 : i ≤ n) (h10 : k = n + 1 - i)
/-- a loop whose name is captured: its cell c stands ahead of the rest -/
theorem codeAny_forLoop_C {R : Result → Shared → Prop} {x : Str} {px : Pos} {body : List Stmt} {I c : Addr} {fp wr : List Addr} {n : Nat} {P : Nat → Value → Prop} {St : Nat → Heap → Prop} {m : Str → Option Value}
    {news : Led} {oc : Obj} {v₀ : Option Value} (W : Walks prog w A I fp wr n P St) (hx : env.kindOf x = some .cell) (hk : env.scope.kind = .function) (hcx : env.cells.lookup x = some c)
    (hLf : env.locals ∉ fp) (hcf : c ∉ fp) (hwr : ∀ b ∈ wr, h₀.get? b = none) (hnw : ∀ p ∈ news, p.1 ∉ wr) (hnc : ∀ p ∈ news, p.1 ≠ c) (hdc : oc.data = .cell v₀)
    (hst : St 0 s.heap) (F : Fr h₀ env.locals s.heap m) (N : News h₀ env.locals s.heap ((c, oc) :: news))
    (J : Nat → (Str → Option Value) → Led → Array GenState → Prop) (h0 : J 0 m news s.gens)
    (step : ∀ i v m₁ news₁ s₁ own oc₁, (∃ h tk gs, s₁ = { s with heap := h, toks := tk, gens := gs }) → i < n → P i v → J i m₁ news₁ s₁.gens → (∀ p ∈ news₁, p.1 ∉ wr) → (∀ p ∈ news₁, p.1 ≠ c) → (∀ p ∈ own, p.1 ∈ fp) → (∀ b ∈ fp, h₀.get? b = none → ∀ o, s₁.heap.get? b = some o → (b, o) ∈ own) → St (i + 1) s₁.heap →
      oc₁.data = .cell (some v) → Fr h₀ env.locals s₁.heap m₁ → News h₀ env.locals s₁.heap (own ++ ((c, oc₁) :: news₁)) →
      wpAny (model prog w) A (execs body env) (StepC h₀ env.locals c wr own (J (i + 1)) s₁ (fun v s' => R (.ok (.ret v)) s'))
        (notedBy (model prog w) A env fun e s' => R (.error e) s') s₁)
    (hR : ∀ h' tk gs m' news' oc' v', oc'.data = .cell v' → Fr h₀ env.locals h' m' → News h₀ env.locals h' ((c, oc') :: news') → (∀ p ∈ news', p.1 ∉ wr) → (∀ p ∈ news', p.1 ≠ c) → J n m' news' gs → R (.ok .next) { s with heap := h', toks := tk, gens := gs }) :
    codeAny (model prog w) A (.forLoop (.Name x px) (.ref I) body [] env) R s := by
  have hLw : env.locals ∉ wr := fun h => hLf (W.sub _ h)
  have hcw : c ∉ wr := fun h => hcf (W.sub _ h)
  have old : ∀ b o, h₀.get? b = some o → b ∉ wr := fun b o e hb => by rw [hwr b hb] at e; cases e
  refine codeAny_forLoop
    (ForInvC h₀ env.locals c wr St J n (fun h tk gs => { s with heap := h, toks := tk, gens := gs })) ?_ (n + 1)
    ⟨s.heap, s.toks, s.gens, m, news, oc, v₀, 0, rfl, hst, hdc, F, N, hnw, hnc, h0, Nat.zero_le _, rfl⟩
  rintro k s' ⟨h', tk, gs, m', news', oc', v', i, rfl, hst', hdc', F', N', hnw', hnc', hJ, hi, rfl⟩
  have hwall : ∀ p ∈ (c, oc') :: news', p.1 ∉ wr := fun p hp => (List.mem_cons.mp hp).elim (fun e => by rw [e]; exact hcw) (hnw' p)
  have next : ∀ h₁ : Heap, (∀ b o, b ∉ wr → h'.get? b = some o → h₁.get? b = some o) → Fr h₀ env.locals h₁ m' ∧ News h₀ env.locals h₁ ((c, oc') :: news') := fun h₁ hk₁ =>
    ⟨⟨F'.ns.at' fun o e => hk₁ _ o hLw e, fun b o e => hk₁ b o (old b o e) (F'.keep b o e), F'.above⟩, fun p hp => ⟨hk₁ _ _ (hwall p hp) (N' p hp).1, (N' p hp).2⟩⟩
  by_cases hlt : i < n
  · refine W.item i _ _ _ hlt hst' fun v h₁ tk₁ hP hst₁ hk₁ => ?_
    obtain ⟨F₁, N₁⟩ := next h₁ hk₁
    have hcn := N₁ (c, oc') List.mem_cons_self
    refine wpAny_assign_Name (wpAny_storeName_cell hk hx hcx ⟨oc', hcn.1, hdc'⟩ fun h₂ hv₂ hs₂ => ?_)
    obtain ⟨oc₁, ho₁, hd₁⟩ := hv₂
    have kp : ∀ b ob, b ≠ c → h₁.get? b = some ob → h₂.get? b = some ob := fun b ob hb e => hs₂.extBut b ob hb e
    have F₂ : Fr h₀ env.locals h₂ m' := ⟨F₁.ns.sameBut hs₂ (Ne.symm hcn.2.1), fun b ob e => kp b ob (fun q => by rw [q, hcn.2.2] at e; cases e) (F₁.keep b ob e), F₁.above⟩
    have N₂ : News h₀ env.locals h₂ ((c, oc₁) :: news') := fun p hp => by
      rcases List.mem_cons.mp hp with rfl | hp
      · exact ⟨ho₁, hcn.2⟩
      · have z := N₁ p (List.mem_cons_of_mem _ hp)
        exact ⟨kp _ _ (hnc' p hp) z.1, z.2⟩
    have Nown : News h₀ env.locals h₂ (PyProof.Rows.ownOf h₀ fp h₂) := news_ownOf hLf
    have hst₂ : St (i + 1) h₂ := W.frame _ _ _ hst₁ fun b hb o e => (hs₂.2 b fun q => hcf (q ▸ hb)).trans e
    refine wpAny_mono (step i v m' news' _ (PyProof.Rows.ownOf h₀ fp h₂) oc₁ ⟨_, _, _, rfl⟩ hlt hP hJ hnw' hnc' ownOf_sub (fun b hb hn o e => mem_ownOf hb hn e) hst₂ hd₁ F₂ (Nown.append N₂)) (fun f s₃ h₃ => ?_) fun _ _ e => e
    have fin : StepOutC h₀ env.locals c wr (PyProof.Rows.ownOf h₀ fp h₂) (J (i + 1)) (fun h tk gs => { s with heap := h, toks := tk, gens := gs }) s₃ → ∃ k', k' < n + 1 - i ∧ ForInvC h₀ env.locals c wr St J n (fun h tk gs => { s with heap := h, toks := tk, gens := gs }) k' s₃ := by
      rintro ⟨h₃', tk₃, gs₃, m₂, news₂, oc₂, v₂, rfl, hd₂, F₃, N₃, ha₃, hc₃, hJ₃⟩
      refine ⟨n + 1 - (i + 1), by omega, h₃', tk₃, gs₃, m₂, news₂, oc₂, v₂, i + 1, rfl, ?_, hd₂, F₃, N₃.right, ha₃, hc₃, hJ₃, hlt, rfl⟩
      refine W.frame _ _ _ hst₁ fun b hb o e => ?_
      have e₂ : h₂.get? b = some o := (hs₂.2 b fun q => hcf (q ▸ hb)).trans e
      cases hn : h₀.get? b with
      | some o₀ =>
        have : o₀ = o := by have := F₂.keep b o₀ hn; rw [e₂] at this; exact (Option.some.inj this).symm
        exact this ▸ F₃.keep b o₀ hn
      | none => exact (N₃ _ (List.mem_append_left _ (mem_ownOf hb hn e₂))).1
    cases f with
    | ret v => exact h₃
    | brk => exact h₃.elim
    | cont => exact fin h₃
    | next => exact fin h₃
  · have hin : i = n := by omega
    subst hin
    refine W.done _ _ _ hst' fun h₁ tk₁ hk₁ => wpAny_execs_nil ?_
    obtain ⟨F₁, N₁⟩ := next h₁ hk₁
    exact hR h₁ tk₁ gs m' news' oc' v' hdc' F₁ N₁ hnw' hnc' hJ

/-- a turn's end, the loop's cell ahead -/
inductive LoopOutC (h₀ : Heap) (L I c : Addr) (own fix : Led) (Jn : (Str → Option Value) → Led → Array GenState → Prop) (st : Heap → Nat → Array GenState → Shared) (s₂ : Shared) : Prop
  | mk (h' : Heap) (tk : Nat) (gs : Array GenState) (m₂ : Str → Option Value) (mov : Led) (oc : Obj) (v : Option Value) (h1 : s₂ = st h' tk gs) (h2 : oc.data = .cell v) (h3 : Fr h₀ L h' m₂) (h4 : News h₀ L h' (own ++ ((c, oc) :: (mov ++ fix)))) (h5 : ∀ p ∈ mov, p.1 ≠ I ∧ p.1 ≠ c) (h6 : Jn m₂ mov gs)
def LoopEndC (h₀ : Heap) (L I c : Addr) (own fix : Led) (Jn : (Str → Option Value) → Led → Array GenState → Prop) (s₁ : Shared) (Qr : Value → Shared → Prop) (f : Flow) (s₂ : Shared) : Prop :=
  match f with
  | .ret v => Qr v s₂
  | .brk => False
  | _ => LoopOutC h₀ L I c own fix Jn (fun h tk gs => { s₁ with heap := h, toks := tk, gens := gs }) s₂
theorem LoopOutC.step {h₀ : Heap} {L I c : Addr} {own fix : Led} {Jn : (Str → Option Value) → Led → Array GenState → Prop} {st : Heap → Nat → Array GenState → Shared} {s₂ : Shared} (h : LoopOutC h₀ L I c own fix Jn st s₂) (hne : ∀ p ∈ fix, p.1 ≠ I) (hnc : ∀ p ∈ fix, p.1 ≠ c) : StepOutC h₀ L c [I] own (fun m' news' gs => ∃ mov, news' = mov ++ fix ∧ Jn m' mov gs) st s₂ := by
  obtain ⟨h', tk', gs', m₂, mov, oc, v, e, hd, F, N, ha, hJ⟩ := h
  refine ⟨h', tk', gs', m₂, mov ++ fix, oc, v, e, hd, F, N, fun p hp q => ?_, fun p hp => ?_, mov, rfl, hJ⟩
  · rw [List.mem_singleton] at q
    exact (List.mem_append.mp hp).elim (fun hp => (ha p hp).1 q) fun hp => hne p hp q
  · exact (List.mem_append.mp hp).elim (fun hp => (ha p hp).2) (hnc p)
theorem LoopEndC.next {h₀ h' : Heap} {L I c : Addr} {own mov fix : Led} {Jn : (Str → Option Value) → Led → Array GenState → Prop} {s₁ : Shared} {Qr : Value → Shared → Prop} {tk : Nat} {gs : Array GenState} {m₂ : Str → Option Value} {oc : Obj} {v : Option Value}
    (F : Fr h₀ L h' m₂) (N : News h₀ L h' (own ++ ((c, oc) :: (mov ++ fix)))) (hd : oc.data = .cell v) (ha : ∀ p ∈ mov, p.1 ≠ I ∧ p.1 ≠ c) (j : Jn m₂ mov gs) : LoopEndC h₀ L I c own fix Jn s₁ Qr .next { s₁ with heap := h', toks := tk, gens := gs } := ⟨h', tk, gs, m₂, mov, oc, v, rfl, hd, F, N, ha, j⟩

inductive ForAtC (prog : Program) (w : World) (A : Around) (h₀ : Heap) (env : Env) (c : Addr) (body : List Stmt) (Q : Flow → Shared → Prop) (E : Value → Shared → Prop) (it : Value) (s₂ : Shared) : Prop
  | mk (I : Addr) (fp wr : List Addr) (n : Nat) (P : Nat → Value → Prop) (St : Nat → Heap → Prop) (m : Str → Option Value) (news : Led) (oc : Obj) (v₀ : Option Value) (J : Nat → (Str → Option Value) → Led → Array GenState → Prop) (h1 : it = .ref I) (h2 : Walks prog w A I fp wr n P St) (h3 : env.locals ∉ fp) (h4 : c ∉ fp) (h5 : ∀ b ∈ wr, h₀.get? b = none) (h6 : ∀ p ∈ news, p.1 ∉ wr) (h7 : ∀ p ∈ news, p.1 ≠ c) (h8 : oc.data = .cell v₀) (h9 : St 0 s₂.heap) (h10 : Fr h₀ env.locals s₂.heap m) (h11 : News h₀ env.locals s₂.heap ((c, oc) :: news)) (h12 : J 0 m news s₂.gens) (h13 : ∀ i v m₁ news₁ s₁ own oc₁, (∃ h tk gs, s₁ = { s₂ with heap := h, toks := tk, gens := gs }) → i < n → P i v → J i m₁ news₁ s₁.gens → (∀ p ∈ news₁, p.1 ∉ wr) → (∀ p ∈ news₁, p.1 ≠ c) → (∀ p ∈ own, p.1 ∈ fp) → (∀ b ∈ fp, h₀.get? b = none → ∀ o, s₁.heap.get? b = some o → (b, o) ∈ own) → St (i + 1) s₁.heap → oc₁.data = .cell (some v) → Fr h₀ env.locals s₁.heap m₁ → News h₀ env.locals s₁.heap (own ++ ((c, oc₁) :: news₁)) → wpAny (model prog w) A (execs body env) (StepC h₀ env.locals c wr own (J (i + 1)) s₁ (fun v s' => Q (.ret v) s')) E s₁) (h14 : ∀ h' tk gs m' news' oc' v', oc'.data = .cell v' → Fr h₀ env.locals h' m' → News h₀ env.locals h' ((c, oc') :: news') → (∀ p ∈ news', p.1 ∉ wr) → (∀ p ∈ news', p.1 ≠ c) → J n m' news' gs → Q .next { s₂ with heap := h', toks := tk, gens := gs })
theorem For_C {E : Value → Shared → Prop} {Q : Flow → Shared → Prop} {x : Str} {px pos : Pos} {iter : Expr} {body : List Stmt} {c : Addr} (h₀ : Heap) (hx : env.kindOf x = some .cell) (hk : env.scope.kind = .function) (hcx : env.cells.lookup x = some c)
    (h : wpAny (model prog w) A (eval iter env) (fun xv s₁ => wpAny (model prog w) A (pyIter xv) (fun it s₂ => ForAtC prog w A h₀ env c body Q E it s₂) E s₁) E s)
    (hs : ∀ x, foldedSetIterable iter env x = pure x := by intro _; rfl)
    (hE : PassesOwn (model prog w) A env E := by passes_own) :
    wpAny (model prog w) A (exec (.For (.Name x px) iter body [] pos) env) Q E s := by
  refine wpAny_For (wpAny_mono h (fun xv s₁ h₁ => wpAny_mono h₁ (fun it s₂ h₂ => ?_) fun _ _ e => e) fun _ _ e => e) hs
  obtain ⟨I, fp, wr, n, P, St, m, news, oc, v₀, J, rfl, W, hLf, hcf, hwr, hnw, hnc, hd, hst, F, N, h0, step, hQ⟩ := h₂
  exact codeAny_forLoop_C (R := fun r s' => match r with | .ok f => Q f s' | .error e => cameBackBy (model prog w) A env E e s') W hx hk hcx hLf hcf hwr hnw hnc hd hst F N J h0 (by intros; exact wpAny_passesOwn hE (by apply step <;> assumption)) hQ

theorem for_rangeC {r c : Addr} {a b : Int} {t u v : Tok} {n : Nat} {body : List Stmt} {Q : Flow → Shared → Prop} {mov₀ fix : Led} {oc : Obj} {v₀ : Option Value} (J : Nat → (Str → Option Value) → Led → Array GenState → Prop) (hh : A.handled = none) (F : Fr h₀ env.locals s.heap m) (N : News h₀ env.locals s.heap ((c, oc) :: (mov₀ ++ fix))) (hd : oc.data = .cell v₀) (hnc : ∀ p ∈ mov₀ ++ fix, p.1 ≠ c) (hr : IsRange s.heap r a b 1 t u v) (hsm : Builtin.Range.small a b 1 = true) (hn : Builtin.Range.rangeSize a b 1 = (n : Int)) (h0 : J 0 m mov₀ s.gens)
    (step : ∀ i v m₁ mov I oI own oc₁ h tk gs, i < n → (∃ t, v = .int (a + (i : Int)) t) → J i m₁ mov gs → (I, oI) ∈ own → (∀ q ∈ own, q.1 = I) → (∀ p ∈ mov ++ fix, p.1 ≠ I) → (∀ p ∈ mov ++ fix, p.1 ≠ c) → @Ne Nat c I → oc₁.data = .cell (some v) → Fr h₀ env.locals h m₁ → News h₀ env.locals h (own ++ ((c, oc₁) :: (mov ++ fix))) →
      wpAny (model prog w) A (execs body env) (LoopEndC h₀ env.locals I c own fix (J (i + 1)) { s with heap := h, toks := tk, gens := gs } (fun v s' => Q (.ret v) s')) E { s with heap := h, toks := tk, gens := gs })
    (fin : ∀ h tk gs m' mov oc' v', oc'.data = .cell v' → (∀ p ∈ mov ++ fix, p.1 ≠ c) → Fr h₀ env.locals h m' → News h₀ env.locals h ((c, oc') :: (mov ++ fix)) → J n m' mov gs → Q .next { s with heap := h, toks := tk, gens := gs }) :
    wpAny (model prog w) A (pyIter (.ref r)) (fun it s₂ => ForAtC prog w A h₀ env c body Q E it s₂) E s := by
  have W := LCg.range_walks (prog := prog) (w := w) (I := s.heap.objs.size) hh a n
  refine wpAny_pyIter_range hr hsm ?_
  have hI₀ : h₀.get? s.heap.objs.size = none := next_is_new F
  have hne : ∀ p ∈ (c, oc) :: (mov₀ ++ fix), p.1 ≠ s.heap.objs.size := fun p hp => Nat.ne_of_lt (Heap.lt_size (N p hp).1)
  refine ⟨s.heap.objs.size, _, _, n, _, _, m, mov₀ ++ fix, oc, v₀, fun i m' news' gs => ∃ mov, news' = mov ++ fix ∧ J i m' mov gs, rfl, W, ?_, ?_, ?_, ?_, hnc, hd, (by show IsRangeIter _ _ _ _ _; rw [hn]; simpa using Heap.get?_push_size _ rfl), F.keeps fun _ _ e => Heap.get?_push_of_some _ e, N.grown fun _ _ e => Heap.get?_push_of_some _ e, ⟨mov₀, rfl, h0⟩, ?_, ?_⟩
  · intro hL
    exact Nat.ne_of_lt F.ns.lt (List.mem_singleton.mp hL)
  · intro hc
    exact hne _ List.mem_cons_self (List.mem_singleton.mp hc)
  · intro b hb
    rw [List.mem_singleton.mp hb]; exact hI₀
  · exact fun p hp h => hne p (List.mem_cons_of_mem _ hp) (List.mem_singleton.mp h)
  · rintro i v m₁ news₁ s₁ own oc₁ ⟨h, tk, gs, rfl⟩ hi hP ⟨mov, rfl, hJ⟩ hnw hnc₁ hsub hall hst hd₁ F₁ N₁
    have hIo := hall _ (List.mem_singleton.mpr rfl) hI₀ _ hst
    refine wpAny_mono (step i v m₁ mov _ _ own oc₁ h tk gs hi hP hJ hIo (fun q hq => by simpa using hsub q hq) (fun p hp e => hnw p hp (by rw [e]; exact List.mem_singleton.mpr rfl)) hnc₁ (hne _ List.mem_cons_self) hd₁ F₁ N₁) (fun f s₃ h₃ => ?_) fun _ _ e => e
    cases f with
    | ret v => exact h₃
    | brk => exact h₃
    | cont => exact LoopOutC.step h₃ (fun p hp => hne p (List.mem_cons_of_mem _ (List.mem_append_right _ hp))) fun p hp => hnc p (List.mem_append_right _ hp)
    | next => exact LoopOutC.step h₃ (fun p hp => hne p (List.mem_cons_of_mem _ (List.mem_append_right _ hp))) fun p hp => hnc p (List.mem_append_right _ hp)
  · rintro h' tk gs m' _ oc' v' hd' F' N' _ hnc' ⟨mov, rfl, hJ⟩
    exact fin h' tk gs m' mov oc' v' hd' hnc' F' N' hJ
end
end Mine
end
namespace Mine
theorem fillIt (w : Params) (h : Heap) : (hd.heap_1 w).In h → PySem.Challenge.rw_ay0011_01 = PySem.Challenge.rw_ay0011_01 := by
  k_fill
  intro _
  rfl
local macro_rules | `(tactic| kwk_ne) => `(tactic| ((iterate 35 (try first | with_reducible assumption | apply aR)); done))
local macro_rules | `(tactic| k_lt $h:ident) => `(tactic| skip)
local macro_rules | `(tactic| kpt_eq) => `(tactic| first | with_reducible assumption | exact aL (by kwk_ne) | fail)
local macro_rules | `(tactic| kpt_len) => `(tactic| (first | ((iterate 6 (try first | kpt_eq | with_reducible refine ltU ?_)); done) | exact ltVia (by assumption) (by kpt_eq) | ((iterate 8 (try first | with_reducible assumption | with_reducible refine ltD ?_)); done) | ((iterate 8 (try first | exact ltC rfl (by with_reducible assumption) | with_reducible refine ltU ?_)); done) | fail))
local macro_rules | `(tactic| kl_some) => `(tactic| first | with_reducible (first | exact mm0 | exact mm1 | exact mm2 | exact mm3 | exact mm4 | exact mm5 | exact mm6 | exact mm7 | exact mm8 | exact mm9 | exact mm10 | exact mm11 | exact mm12) | ((repeat with_reducible (first | exact List.mem_cons_self | assumption | refine memTail ?_ | exact memL (by assumption) | refine memR ?_)); done))
local macro_rules | `(tactic| kit_nb) => `(tactic| ((repeat with_reducible refine ltU ?_); first | exact faL (by with_reducible assumption) (by kl_some) | exact ltK (by with_reducible assumption) (by k_dflt (exact rfl)) | exact ltVia (by with_reducible assumption) (faL (by with_reducible assumption) (by kl_some)) | exact ltVia (by with_reducible assumption) (by (repeat with_reducible refine ltU ?_); exact ltK (by with_reducible assumption) (by k_dflt (exact rfl))) | ((iterate 8 (try first | with_reducible assumption | with_reducible refine ltD ?_)); done)))
local macro_rules | `(tactic| k_ne) => `(tactic| ((try dsimp only); first | with_reducible assumption | exact Ne.symm (by with_reducible assumption) | exact Nat.ne_of_beq_eq_false rfl | ((repeat with_reducible refine nuS ?_); first | exact nu1 _ | exact (nu1 _).symm | exact nu2 _ | exact (nu2 _).symm | exact nu3 _ | exact (nu3 _).symm | exact nu4 _ | exact (nu4 _).symm | exact nu5 _ | exact (nu5 _).symm | exact nu6 _ | exact (nu6 _).symm) | exact faN (by with_reducible assumption) (by kl_some) | exact faM (by with_reducible assumption) (by kl_some) | exact neL (by kit_nb) | exact neG (by kit_nb) | (first | exact neG (by kpt_eq) | exact neL (by kpt_eq) | kpt_eq | exact Ne.symm (by kpt_eq) | exact neL (by kpt_len) | exact neG (by kpt_len) | (refine neN ?_; omega))))
local macro_rules | `(tactic| kpt_run) => `(tactic| ((try dsimp only [gTop]); first | with_reducible assumption | ((repeat with_reducible refine uPeel ?_); first | exact uLt (by with_reducible assumption) (Nat.le_of_ble_eq_true rfl) | exact uLt0 (by with_reducible assumption)) | omega))
local macro_rules | `(tactic| k_room) => `(tactic| ((try simp only [depth_under_make, depth_under_kw, depth_in1, depth_deeper, depth_caller]); kpt_run))
local macro_rules | `(tactic| k_units) => `(tactic| ((try simp only [units_under_call, units_in1, units_deeper, Around.mark_units, units_caller]); kpt_run))
local macro_rules | `(tactic| k_mem) => `(tactic| first | with_reducible (first | assumption | exact mm0 | exact mm1 | exact mm2 | exact mm3 | exact mm4 | exact mm5 | exact mm6 | exact mm7 | exact mm8 | exact mm9 | exact mm10 | exact mm11 | exact mm12) | ((repeat (first | with_reducible (first | exact List.mem_cons_self | assumption) | exact List.Mem.head _ | with_reducible (first | refine memTail ?_ | exact memL (by assumption) | refine memR ?_ | refine memL ?_) | with_reducible refine memVia (by assumption) ?_)); done))
local macro_rules | `(tactic| kpc_none) => `(tactic| with_reducible first | ((repeat (first | exact fun _ h => h | refine subTail ?_ | exact subL (fun _ h => h) | refine subR ?_)); done) | assumption | exact List.forall_mem_nil _ | (refine subCons ?_ ?_; (focus k_mem); kpc_none) | (refine subApp ?_ ?_ <;> kpc_none) | (refine subTail ?_; kpc_none) | (refine subR ?_; kpc_none) | (refine subL ?_; kpc_none) | (refine subVia (by assumption) ?_; kpc_none) | fail)
local macro_rules | `(tactic| lcg_sub) => `(tactic| kpc_none)
local macro_rules | `(tactic| ktr_rel) => `(tactic| ((iterate 9 (try first | assumption | apply aR)); done))
local macro_rules | `(tactic| kpc_obj) => `(tactic| first | assumption | exact allNe_ltR (by assumption) | exact allNe_ltR2 (by assumption) (by kpt_fact) | exact allNe_all (by assumption) | (refine' neSub ?ua ?ub; (case ua => assumption); (case ub => kpc_none)) | exact faS (by with_reducible assumption) (by kpc_none) | exact faS1 (by with_reducible assumption) (by kpc_none) | exact faS2 (by with_reducible assumption) (by kpc_none) | exact faS3 (by with_reducible assumption) (by kpc_none) | exact faS4 (by with_reducible assumption) (by kpc_none) | exact faT (by with_reducible assumption) (by with_reducible assumption) (by kpc_none) | (refine allNe_app ?_ ?_ <;> kpc_obj) | exact allNe_lt (by ktr_rel) | exact allNe_lt2 (by ktr_rel) (by kpt_fact) | exact allNe_all (by ktr_rel) | (with_reducible refine List.forall_mem_cons.mpr ⟨?_, ?_⟩; (focus k_ne); kpc_obj) | fail)
local macro_rules | `(tactic| k_offL) => `(tactic| kpc_obj)
local macro_rules | `(tactic| kpc_kind) => `(tactic| first | with_reducible assumption | (with_reducible refine List.forall_mem_cons.mpr ⟨?_, ?_⟩; (focus k_ne); kpc_kind) | kpc_obj | exact List.forall_mem_nil _ | fail)
local macro_rules | `(tactic| k_all) => `(tactic| kpc_kind)
local macro_rules | `(tactic| kpt_hd) => `(tactic| first | exact rfl | assumption)
local macro_rules | `(tactic| kpt_fact) => `(tactic| first | with_reducible assumption | decide | omega)
local macro_rules | `(tactic| kpt_piece) => `(tactic| first | exact BindsTo.of_eq rfl | exact kp_binds (by k_in) (by exact fun _ => rfl) | fail)
local macro_rules | `(tactic| ktr_enter) => `(tactic| first | (refine code_def (by k_asm) (by k_asm) (by k_asm) (by k_asm) (by k_asm) (by exact rfl) (by kpt_hd) (by kpt_hd) (by k_is) (by k_is) (by k_room) (by kpt_piece) (by exact locs rfl) ?_ (by exact rfl) (by exact rfl) (by exact rfl) (by decide); k_whole; intro g' L' h' FG' F' N' B' X' T'; (try dsimp only); (try k_fold)) | (refine code_defC (by k_asm) (by k_asm) (by k_asm) (by k_asm) (by k_asm) (by exact rfl) (by kpt_hd) (by kpt_hd) (by k_is) (by k_is) (by k_room) (by kpt_piece) (by exact rfl) (by decide +kernel) ?_ (by exact rfl) (by exact rfl) (by exact rfl); k_whole; intro g' L' h' tk' cells' FG' F' N' Y' B' X' T' l1; (try k_lt l1); k_cells Y'; (try dsimp only [List.cons_append, List.nil_append] at N'); (try dsimp only); (try k_fold)))
local macro_rules | `(tactic| walk_at "getItem ref int") => `(tactic| (k_here; k_dflt (refine get_led (by k_asm) (by k_mem) (by kpt_fact) (by kpt_fact) (by kpt_hd) ?_; k_whole)))
local macro_rules | `(tactic| walk_at "subscriptTail") => `(tactic| (k_here; (with_reducible show wpAny _ _ (subscriptTail _ _ (Value.ref _) (Value.int _ _)) _ _ _); k_dflt (refine sub_led (by k_asm) (by k_mem) (by kpt_fact) (by kpt_fact) (by kpt_hd) ?_ (by with_unfolding_all rfl); k_whole)))
local macro_rules | `(tactic| walk_at "call builtin:len") => `(tactic| (k_here; k_dflt (refine len_led (by k_asm) (by k_mem) (by assumption) (by omega) ?_; k_whole)))
local macro_rules | `(tactic| kpc_check) => `(tactic| first | exact apNil | (refine apCons ?_ ?_; (focus kpc_obj); kpc_check) | (refine' apSub ?ua ?ub; (case ua => assumption); (case ub => kpc_none)) | (refine apApp ?_ ?_ <;> kpc_check) | fail)
local macro_rules | `(tactic| lcg_src) => `(tactic| kpc_check)
local macro_rules | `(tactic| walk_at "getMethod ref") => `(tactic| (k_here; (with_reducible show wpAny _ _ (getMethod (Value.ref _) (PySem.Str.ofString "parent") _) _ _ _); k_dflt (refine kmu_own (by k_asm) (by k_asm) (by k_inst) (by k_is) (by k_is) ?_; k_whole)))
local macro_rules | `(tactic| walk_at "getMethod ref") => `(tactic| (k_here; (with_reducible show wpAny _ _ (getMethod (Value.ref _) (PySem.Str.ofString "copy") _) _ _ _); k_dflt (refine kl_method (by k_asm) (by k_mem) PySem.F.slot_list_copy PySem.F.type_list_copy ?_)))
local macro_rules | `(tactic| walk_at "call builtin:list.copy") => `(tactic| (k_here; k_dflt (refine copy_led (by k_asm) (by k_asm) (by k_mem) (by (try simp only [List.length_cons]); rw [sizeLine_eq]; omega) ?_; k_whole); intro d' h' l1 F' N'; (try k_lt l1); (try k_sweep)))
local macro_rules | `(tactic| walk_at "compareOp Eq ref ref") => `(tactic| (k_here; k_dflt (refine eq_led (by k_asm) (by k_mem) (by k_mem) (by assumption) (by assumption) (by have hcL9 := cLine_is; k_units) ?_; k_whole)))
local macro_rules | `(tactic| kn_among) => `(tactic| ((iterate 10 (try first | with_reducible assumption | exact rfl | refine lkN rfl ?_)); done))
local macro_rules | `(tactic| kpc_g) => `(tactic| exact ⟨rfl, rfl, rfl⟩)
local macro_rules | `(tactic| kpc_len) => `(tactic| first | exact toName (by kpc_g) (by k_asm) (by kn_among) | exact toInt | exact toCell (by kpc_g) (by rfl) (by k_asm) (by k_mem) (by k_asm) | fail)
local macro_rules | `(tactic| walk_at "ite") => `(tactic| (k_closed; with_reducible (first | refine iteY (by k_dflt (decide)) ?_ | refine iteN (by k_dflt (decide)) ?_)))
local macro_rules | `(tactic| walk_at "spliced") => `(tactic| (k_here; (with_reducible show wpAny _ _ (spliced (backTo _ (starEach (_ :: _) _))) _ _ _); k_dflt (refine PyProof.Rows.args_cons ?_; k_whole)))
local macro_rules | `(tactic| walk_at "spliced") => `(tactic| (k_here; (with_reducible show wpAny _ _ (spliced (backTo _ (starEach [] _))) _ _ _); k_dflt (refine PyProof.Rows.args_nil ?_; k_whole; (try dsimp only [List.cons_append, List.nil_append]))))
local macro_rules | `(tactic| walk_at "eval BinOp") => `(tactic| (k_here; k_dflt (refine binTo (by kpc_len) (by kpc_len) ?_; k_whole)))
local macro_rules | `(tactic| walk_at "eval Compare") => `(tactic| (k_here; k_dflt (refine cmpTo (by kpc_len) (by kpc_len) ?_ (by with_unfolding_all rfl); k_whole)))
local macro_rules | `(tactic| walk_at "isTrue Compare") => `(tactic| (k_here; k_dflt (refine testTo (by kpc_len) (by kpc_len) ?_ (by with_unfolding_all rfl); k_whole)))
local macro_rules | `(tactic| walk_at "eval Subscript") => `(tactic| (k_here; k_dflt (refine subTo (by kpc_len) (by kpc_len) ?_; k_whole)))
local macro_rules | `(tactic| walk_at "eval Attribute Name") => `(tactic| (k_here; k_dflt (refine attrTo (by kpc_g) (by k_asm) (by kn_among) ?_; k_whole)))
local macro_rules | `(tactic| walk_at "eval Name") => `(tactic| (k_here; (with_reducible show wpAny _ _ (eval _ (envOfC _ _ _ _ _)) _ _ _); k_dflt (refine nameG (by kpc_g) (by rfl) (by k_asm) (by k_asm) (by k_asm) (by k_is) ?_; k_whole)))
local macro_rules | `(tactic| walk_at "eval Name") => `(tactic| (k_here; (with_reducible show wpAny _ _ (eval _ (envOfC _ _ _ _ _)) _ _ _); k_dflt (refine nameC (by kpc_g) (by rfl) (by k_asm) (by k_mem) (by k_asm) ?_; k_whole)))
local macro_rules | `(tactic| walk_at "callWith ref") => `(tactic| (k_here; (with_reducible show wpAny _ _ (callWith _ (Value.ref _) _ (backTo _ (starEach [] _)) []) _ _ _); k_dflt (refine' callWith_K0 ?k1 ?k2 ?_; (case k1 => k_in); (case k2 => k_is); k_whole)))
local macro_rules | `(tactic| walk_at "callWith ref") => `(tactic| (k_here; (with_reducible show wpAny _ _ (callWith _ (Value.ref _) _ (backTo _ (starEach (_ :: _) _)) []) _ _ _); kco_any "__call__"; kco_here; k_dflt (refine' kco_callWith ?k1 ?k2 ?k3 ?k4 ?_; (case k1 => k_in); (case k2 => k_inst); (case k3 => rfl); (case k4 => k_is); k_whole)))
local macro_rules | `(tactic| walk_at "eval Name") => `(tactic| (k_here; k_dflt (refine nameL (by kpc_g) (by k_asm) (by kn_among) ?_; k_whole)))
local macro_rules | `(tactic| walk_at "storeName") => `(tactic| (k_here; k_dflt (refine storeC (by k_asm) (by k_asm) (by rfl) (by k_updF) (by k_asm) ?_ (by rfl) (by rfl); k_whole); intro h' o' tk' F' N' d'; (try dsimp only at N'); (try k_sweep)))
local macro_rules | `(tactic| walk_at "storeName") => `(tactic| (k_here; k_dflt (refine storeL (by kpc_g) (by rfl) (by k_asm) (by k_asm) ?_; k_whole); intro h' tk' F' N'; (try k_sweep)))
local macro_rules | `(tactic| walk_at "call ref") => `(tactic| (k_here; with_reducible refine haltCall (by assumption) ?_))
local macro_rules | `(tactic| walk_at "execs cons Assign cons") => `(tactic| (k_here; with_reducible refine stopAssign (by assumption) ?_))
local macro_rules | `(tactic| walk_at "execs cons If") => `(tactic| (k_here; with_reducible refine stopIf (by assumption) ?_))
local macro_rules | `(tactic| walk_at "execs cons For") => `(tactic| (k_here; with_reducible refine stopFor (by assumption) ?_))
section
local macro_rules | `(tactic| omega) => `(tactic| lia)
section
def AllNe (d : Nat) : List (Addr × Obj) → Prop
  | [] => True
  | p :: r => (@Ne Nat p.1 d) ∧ AllNe d r
theorem allNe_of {d : Addr} : ∀ {l : Led}, (∀ p ∈ l, p.1 ≠ d) → AllNe d l
  | [], _ => trivial
  | p :: _, h => ⟨h p (.head _), allNe_of fun q hq => h q (.tail _ hq)⟩
theorem allNe_all {d : Addr} : ∀ {l : Led}, AllNe d l → ∀ p ∈ l, p.1 ≠ d
  | [], _, _, h => nomatch h
  | _ :: _, x, p, h => by
    rcases List.mem_cons.mp h with rfl | h
    · exact x.1
    · exact allNe_all x.2 p h
theorem allNe_append {d : Addr} : ∀ {a b : Led}, AllNe d (a ++ b) ↔ AllNe d a ∧ AllNe d b
  | [], _ => ⟨fun h => ⟨trivial, h⟩, fun h => h.2⟩
  | _ :: _, _ => ⟨fun h => ⟨⟨h.1, (allNe_append.mp h.2).1⟩, (allNe_append.mp h.2).2⟩, fun h => ⟨h.1.1, allNe_append.mpr ⟨h.1.2, h.2⟩⟩⟩
theorem allLt_append {d : Addr} : ∀ {a b : Led}, AllLt d (a ++ b) ↔ AllLt d a ∧ AllLt d b
  | [], _ => ⟨fun h => ⟨trivial, h⟩, fun h => h.2⟩
  | _ :: _, _ => ⟨fun h => ⟨⟨h.1, (allLt_append.mp h.2).1⟩, (allLt_append.mp h.2).2⟩, fun h => ⟨h.1.1, allLt_append.mpr ⟨h.1.2, h.2⟩⟩⟩
/-- what is new is none of what stood -/
theorem neNew {new led : Led} {d : Addr} {o : Obj} (A : ∀ q ∈ new, ∀ p ∈ led, p.1 ≠ q.1) (hm : (d, o) ∈ led) : ∀ q ∈ new, q.1 ≠ d := fun q hq e => A q hq _ hm e.symm
def strKeysIn (K : Frag) (a : Addr) : Bool := match K.lookup a with
  | some ⟨_, _, .dict es _, _⟩ => es.toList.all fun e => match e.key with | .str _ _ => true | _ => false
  | _ => false
theorem ns_of_K {K : Frag} {h : Heap} {a : Addr} (X : K.In h) (e : strKeysIn K a = true) : ∃ m, h.Ns a m := by
  unfold strKeysIn at e
  split at e
  · rename_i c d es n sl hk
    refine ⟨nsFind es, _, es, n, X _ _ hk, rfl, fun x hx => ?_, fun _ => rfl⟩
    have := List.all_eq_true.mp e x (Array.mem_toList_iff.mpr hx)
    split at this
    · rename_i s t hs; exact ⟨s, t, hs⟩
    · cases this
  · cases e
section
variable {prog : Program} {w : World} {A : Around} {E : Value → Shared → Prop} {s : Shared} {h₀ : Heap} {L x y dx dy : Addr} {m : Str → Option Value} {news : Led} {Q : Value → Shared → Prop}
theorem cmpInst233 (F : Fr h₀ L s.heap m) (X : (hd.heap_1 w.params).In h₀) (N : News h₀ L s.heap news) (hm : (x, instObj 233 dx) ∈ news) : s.heap.CmpInst x 233 [.type "object"] := by
  have X' := X.keeps F.keep
  obtain ⟨mN, hn⟩ := ns_of_K (a := 232) X' (by kernel_rfl)
  have e1 := ns_none_of (n := Str.ofString "__eq__") X' hn (by kernel_rfl)
  have e2 := ns_none_of (n := Str.ofString "__ne__") X' hn (by kernel_rfl)
  refine ⟨_, _, _, 232, _, _, _, _, _, _, _, _, _, _, _, _, _, mN, (N _ hm).1, rfl, X' _ _ (by with_unfolding_all rfl), hn, e1, e2⟩
theorem module_ne_same (F : Fr h₀ L s.heap m) (X : (hd.heap_1 w.params).In h₀) (N : News h₀ L s.heap news) (hm : (x, instObj 233 dx) ∈ news) (hu : A.units + 1 < cLine) (h : Q (.bool false) s) : wpAny (model prog w) A (compareOp .NotEq (.ref x) (.ref x)) Q E s := by
  have C := cmpInst233 F X N hm
  obtain ⟨hh, g, d, t, os⟩ := s
  exact compareOp_ne_same PySem.F.cmp_object C hu h
set_option maxHeartbeats 2000000 in
/-- two matrices asked whether they differ: their __eq__ is asked -/
theorem mat_ne {b : Bool} (F : Fr h₀ L s.heap m) (X : (hd.heap_1 w.params).In h₀) (N : News h₀ L s.heap news) (hm : (x, instObj 196 dx) ∈ news) (hm' : (y, instObj 196 dy) ∈ news) {od od' : Obj} (hd : (dx, od) ∈ news) (hd' : (dy, od') ∈ news) (hu : A.units + 1 < cLine)
    (h : wpAny (model prog w) A.in1 (call (.ref 147) [.ref x, .ref y]) (fun v s' => ∃ b, v = .bool b ∧ Q (.bool !b) s') E s) : wpAny (model prog w) A (compareOp .NotEq (.ref x) (.ref y)) Q E s := by
  have X' := X.keeps F.keep
  obtain ⟨mN, hn⟩ := ns_of_K (a := 195) X' (by kernel_rfl)
  have e2 := ns_none_of (n := Str.ofString "__ne__") X' hn (by kernel_rfl)
  have hx := (N _ hm).1
  have hy := (N _ hm').1
  have hx98 : ∃ nm q bs hdct sn sub ab col dd k0 k1 k2 k3 k5 newId, s.heap.get? 196 = some (excClassObj nm q 196 195 bs [.type "object"] hdct sn sub ab col dd k0 k1 k2 k3 k5 newId) := ⟨_, _, _, _, _, _, _, _, _, _, _, _, _, _, _, X' _ _ (by with_unfolding_all rfl)⟩
  obtain ⟨nm, q, bs, hdct, sn, sub, ab, col, dd, k0, k1, k2, k3, k5, newId, hC⟩ := hx98
  have FB := PySem.F.cmp_object
  have hu0 : A.units < cLine := Nat.lt_of_succ_lt hu
  have I : InstAt s.heap x (instObj 196 dx) 196 (some od) := InstAt.of_news N hm hd
  have J : InstAt s.heap y (instObj 196 dy) 196 (some od') := InstAt.of_news N hm' hd'
  have key : wpAny (model prog w) A (tryCompare (.ref x) "__ne__" (.ref y)) (fun r s' => ∃ v, r = some v ∧ Q v s') E s := by
    obtain ⟨hh, g, d, t, os⟩ := s
    simp only [tryCompare]
    refine wpAny_bind (wpAny_callSpecialIfBound?_inst hx rfl hC hn e2 FB.mro FB.ne (wpAny_call (codeAny_call_builtin FB.ne.plain PySem.F.cmpEntry_ne
      (wpAny_check_slot_inst PySem.F.cmpKind_ne PySem.F.cmpSplit_ne (PySem.F.cmpArgs_ne _ _) FB.hasObject hx rfl hC ?_))))
    unfold Builtin.«object.__ne__»
    have hu1 : A.in1.units < cLine := by rw [units_in1]; exact hu
    have h' := fun {Q' : Option Value → Shared → Prop} {E' : Value → Shared → Prop} (k : ∀ b s', Q (.bool !b) s' → Q' (some (.bool b)) s') (ke : ∀ v s', E v s' → E' v s') => ifBound_K (name := "__eq__") (args := [.ref y]) X' I (by k_is) (by k_is) (wpAny_mono h (fun v s' hv => by
      obtain ⟨b, rfl, q⟩ := hv
      exact k b s' q) ke)
    repeat (first | with_reducible refine wpAny_cRoomFor hu1 ?_ | (refine h' ?_ ?_) | wp_step)
    · intro b s' q
      repeat (first | with_reducible refine wpAny_truthy_bool ?_ | wp_step)
      all_goals exact ⟨_, rfl, q⟩
    · exact fun _ _ e => e
  show wpAny _ _ (richCompare .NotEq (.ref x) (.ref y)) _ _ _
  unfold richCompare
  simp only [oneThing_ref]
  refine wpAny_holding (wpAny_bind (wpAny_cRoomFor hu0 ?_))
  refine wpAny_bind (I.type.here (wpAny_bind (J.type.here ?_)))
  simp only [bne_self_eq_false, Bool.false_eq_true, if_false]
  refine wpAny_bind (wpAny_pure ?_)
  simp only [Bool.false_eq_true, if_false]
  refine wpAny_bind (wpAny_mono key (fun r s' z => ?_) fun _ _ e => e)
  obtain ⟨v, rfl, hq⟩ := z
  exact wpAny_pure hq
end
section
variable {prog : Program} {w : World} {A : Around} {E : Value → Shared → Prop} {s : Shared} {h₀ : Heap} {L : Addr} {m : Str → Option Value} {env : Env} {scope : Scope} {cl : List (Str × Addr)}
theorem stores_cell1 {x : Str} {px : Pos} {P : Nat → Value → Heap → Prop} {V : Nat → Value → Prop} (C : Addr) (hkind : scope.kind = .function) (hx : (cenvOf scope cl env C).kindOf x = some .cell) (hcx : (cellsFrom (C + 1) scope.names cl).lookup x = some (C + 1)) (hca : caOf scope C = [C + 1])
    (hP : ∀ i v h, P i v h → V i v) : Stores prog w A (cenvOf scope cl env C) (.Name x px) (caOf scope C) P (HoldsC (C + 1) V) :=
  stores_cell C hkind hx hcx (by rw [hca]; exact List.mem_singleton.mpr rfl) hP (fun c hc => by rw [hca] at hc; rw [List.mem_singleton.mp hc]; exact Nat.ne_of_gt (Nat.lt_succ_self C)) (fun c hc => by rw [hca] at hc; exact List.mem_singleton.mp hc)
theorem smallN {n : Nat} (hn : n < 2 ^ 20) : Builtin.Range.small 0 (n : Int) 1 = true := small_one (by decide) (by decide) (by omega) (by omega)
theorem sizeN (n : Nat) : Builtin.Range.rangeSize 0 (n : Int) 1 = (n : Int) := by rw [rangeSize_nat]; simp
theorem lineN {n : Nat} (hn : n < 2 ^ 20) : n ≤ sizeLine := by rw [sizeLine_eq]; omega
theorem src_rangeN {x : Str} {px : Pos} {elt : Expr} {r : Addr} {t u v : Tok} {n : Nat} {news : Led} {Fin : Shared → Led → (Nat → Value → Led → Prop) → Nat → Prop} (F : Nat → Value → Led → Prop) (Holds : Addr → Nat → Value → Led → Prop)
    (hh : A.handled = none) (F₀ : Fr h₀ L s.heap m) (N : News h₀ L s.heap news) (hr : IsRange s.heap r 0 (n : Int) 1 t u v) (hn : n < 2 ^ 20)
    (hs : ∀ C, Stores prog w A (cenvOf scope cl env C) (.Name x px) (caOf scope C) (fun i v _ => ∃ t, v = .int (i : Int) t) (Holds C))
    (turn : ∀ C I i g, i < n → CompTurn prog w A h₀ L m (cenvOf scope cl env C) (caOf scope C) [I] elt { s with heap := g } news (Holds C) F i)
    (fin : ∀ g, Fin { s with heap := g } news F n) :
    SrcX prog w A h₀ L m env (.Name x px) elt scope cl E Fin (.ref r) s :=
  src_range F Holds hh F₀ N hr (smallN hn) (sizeN n) (lineN hn) (fun C => by simpa using hs C) turn fin
theorem src_rangeL {x : Str} {px : Pos} {elt : Expr} {r : Addr} {t u v : Tok} {n : Nat} {news : Led} {Fin : Shared → Led → (Nat → Value → Led → Prop) → Nat → Prop} (F : Nat → Value → Led → Prop)
    (hh : A.handled = none) (F₀ : Fr h₀ L s.heap m) (N : News h₀ L s.heap news) (hr : IsRange s.heap r 0 (n : Int) 1 t u v) (hn : n < 2 ^ 20)
    (hk : scope.kind = .function) (hx : scope.names.lookup x = some .local) (hca : ∀ C, caOf scope C = [])
    (turn : ∀ C i g t oC m₂ led h tk E', i < n → LCg.NsObj oC m₂ → m₂ x = some (.int (i : Int) t) → (C, oC) ∈ led → (∀ p ∈ news, p ∈ led) → Fr h₀ L h m → News h₀ L h led → wpAny (model prog w) A (eval elt (cenvOf scope cl env C)) (TurnEnd h₀ L m { s with heap := g } led (F i)) E' { s with heap := h, toks := tk })
    (fin : ∀ g, Fin { s with heap := g } news F n) : SrcX prog w A h₀ L m env (.Name x px) elt scope cl E Fin (.ref r) s :=
  src_rangeN F (HoldsL x fun i v => ∃ t, v = .int (i : Int) t) hh F₀ N hr hn (fun C => stores_local hk hx (fun _ _ _ h => by exact h) C (noCa hca)) (fun C _ i g hi => turnL fun t oC m₂ led h tk E' => turn C i g t oC m₂ led h tk E' hi) fin
theorem src_rangeC {x : Str} {px : Pos} {elt : Expr} {r : Addr} {t u v : Tok} {n : Nat} {news : Led} {Fin : Shared → Led → (Nat → Value → Led → Prop) → Nat → Prop} (F : Nat → Value → Led → Prop)
    (hh : A.handled = none) (F₀ : Fr h₀ L s.heap m) (N : News h₀ L s.heap news) (hr : IsRange s.heap r 0 (n : Int) 1 t u v) (hn : n < 2 ^ 20)
    (hk : scope.kind = .function) (hx : ∀ C, (cenvOf scope cl env C).kindOf x = some .cell) (hcx : ∀ C, (cellsFrom (C + 1) scope.names cl).lookup x = some (C + 1)) (hca : ∀ C, caOf scope C = [C + 1])
    (turn : ∀ C i g t oC o led h tk E', i < n → o.data = .cell (some (.int (i : Int) t)) → (C, oC) ∈ led → (C + 1, o) ∈ led → (∀ p ∈ news, p ∈ led) → Fr h₀ L h m → News h₀ L h led → wpAny (model prog w) A (eval elt (cenvOf scope cl env C)) (TurnEnd h₀ L m { s with heap := g } led (F i)) E' { s with heap := h, toks := tk })
    (fin : ∀ g, Fin { s with heap := g } news F n) : SrcX prog w A h₀ L m env (.Name x px) elt scope cl E Fin (.ref r) s :=
  src_rangeN F (fun C => HoldsC (C + 1) fun i v => ∃ t, v = .int (i : Int) t) hh F₀ N hr hn (fun C => stores_cell1 C hk (hx C) (hcx C) (hca C) (fun _ _ _ h => by exact h)) (fun C _ i g hi => turnC (fun t oC o led h tk E' => turn C i g t oC o led h tk E' hi) rfl) fin
end
section
variable {M : Model} {A : Around} {E : Value → Shared → Prop} {s : Shared} {K : Frag} {env : Env} {pos : Pos} {x C : Addr} {ox : Obj} {od : Option Obj} {first : List Value} {Q : Value → Shared → Prop}
/-- an object called with keywords -/
theorem kcoKW {f : Addr} {e : Expr} {rest : List Expr} {kws : List Keyword} (_X : K.In s.heap) (_I : InstAt s.heap x ox C od) (hd : ox.data = .plain) (_hs : findIn K (.ref C) "__call__" = some (some (.ref f)))
    (h : wpAny M A (spliced (backTo pos (starEach (e :: rest) env))) (fun vs s₁ => wpAny M A (evalAll ((backToKw pos (keywordEach kws env)).map (·.2)))
      (fun ks s₂ => kco_P K x C ox od s₂.heap ∧ wpAny M A (call (.ref x) (first ++ vs) (((backToKw pos (keywordEach kws env)).filterMap (·.1)).zip ks)) Q E s₂) E s₁) E s)
    (hall : (backToKw pos (keywordEach kws env)).all (·.1.isSome) = true := by rfl)
    (hplain : ((backTo pos (starEach (e :: rest) env)).any (·.1) || (backToKw pos (keywordEach kws env)).any (·.1.isNone)) = false := by rfl) (he : starEach (e :: rest) env = (false, eval e env) :: starEach rest env := by rfl) :
    wpAny M A (callWith pos (.ref x) first (backTo pos (starEach (e :: rest) env)) (backToKw pos (keywordEach kws env))) Q E s :=
  kco_callWith_of hplain hd (evalArgs_kw2 hall h he)
end
end
section
theorem list_two {l : List Int} (h : l.length = 2) : ∃ a b, l = [a, b] := by
  match l, h with
  | [a, b], _ => exact ⟨a, b, rfl⟩
theorem list_three {l : List Int} (h : l.length = 3) : ∃ a b c, l = [a, b, c] := by
  match l, h with
  | [a, b, c], _ => exact ⟨a, b, c, rfl⟩
/-- the negacyclic product, each number by q -/
def praw : List Int → List Int → List Int
  | [a0, a1], [b0, b1] => [a0 * b0 - a1 * b1, a0 * b1 + a1 * b0]
  | [a0, a1, a2], [b0, b1, b2] => [a0 * b0 - a1 * b2 - a2 * b1, a0 * b1 + a1 * b0 - a2 * b2, a0 * b2 + a1 * b1 + a2 * b0]
  | _, _ => []
def pmul (q : Int) (as bs : List Int) : List Int := (praw as bs).map (· % q)
theorem pmul2 {q a0 a1 b0 b1 : Int} : pmul q [a0, a1] [b0, b1] = [(a0 * b0 - a1 * b1) % q, (a0 * b1 + a1 * b0) % q] := rfl
theorem pmul3 {q a0 a1 a2 b0 b1 b2 : Int} : pmul q [a0, a1, a2] [b0, b1, b2] = [(a0 * b0 - a1 * b2 - a2 * b1) % q, (a0 * b1 + a1 * b0 - a2 * b2) % q, (a0 * b2 + a1 * b1 + a2 * b0) % q] := rfl
abbrev Small (cs : List Int) : Prop := ∀ c ∈ cs, -2 ^ 40 < c ∧ c < 2 ^ 40
theorem pmul_length {q : Int} {as bs : List Int} {n : Int} (ha : (as.length : Int) = n) (hb : (bs.length : Int) = n) (hn : n = 2 ∨ n = 3) : ((pmul q as bs).length : Int) = n := by
  rcases hn with rfl | rfl
  · obtain ⟨a0, a1, rfl⟩ := list_two (Int.ofNat.inj ha)
    obtain ⟨b0, b1, rfl⟩ := list_two (Int.ofNat.inj hb)
    rfl
  · obtain ⟨a0, a1, a2, rfl⟩ := list_three (Int.ofNat.inj ha)
    obtain ⟨b0, b1, b2, rfl⟩ := list_three (Int.ofNat.inj hb)
    rfl
end
section
/-- the helpers, in plain ints -/
def rmod (r n : Int) : Int := if n / 2 < r % n then r % n - n else r % n
def decomp (r a q : Int) : Int × Int := if r % q - rmod (r % q) a = q - 1 then (0, rmod (r % q) a - 1) else ((r % q - rmod (r % q) a) / a, rmod (r % q) a)
def hintOf (z r a q : Int) : Int := if (decomp r a q).1 = (decomp (r + z) a q).1 then 0 else 1
def quickOf (z0 r1 a q : Int) : Int := if z0 ≤ a / 2 ∨ q - a / 2 < z0 ∨ (z0 = q - a / 2 ∧ r1 = 0) then 0 else 1
def useOf (h r a q : Int) : Int := if h = 1 then (if 0 < (decomp r a q).2 then ((decomp r a q).1 + 1) % ((q - 1) / a) else ((decomp r a q).1 - 1) % ((q - 1) / a)) else (decomp r a q).1
def normOf (x q : Int) : Int := if (q - 1) / 2 - x % q < 0 then (q - 1) / 2 + ((q - 1) / 2 - x % q) + 1 else (q - 1) / 2 - ((q - 1) / 2 - x % q)
theorem half_eq (n : Int) : n.fdiv (2 ^ Int.toNat 1) = n / 2 := Int.fdiv_eq_ediv_of_nonneg _ (by decide)
theorem fmod_pos {x q : Int} (hq : 0 < q) : x.fmod q = x % q := Int.fmod_eq_emod_of_nonneg _ (by omega)
theorem fdiv_pos {x q : Int} (hq : 0 < q) : x.fdiv q = x / q := Int.fdiv_eq_ediv_of_nonneg _ (by omega)
theorem xor_abs {x : Int} (h1 : -2 ^ 31 ≤ x) (h2 : x < 2 ^ 31) : Builtin.bitXor x (x.fdiv (2 ^ Int.toNat 31)) = if x < 0 then -x - 1 else x := by
  rw [Int.fdiv_eq_ediv_of_nonneg _ (by decide)]
  by_cases h : x < 0
  · rw [if_pos h]
    have e : x / 2 ^ Int.toNat 31 = -1 := by
      show x / 2147483648 = -1
      omega
    rw [e, bitXor_and, show (-1 : Int) = Builtin.bitNot 0 from rfl, bitAnd_not, bitAnd_zero]
    show x + (-1) - 2 * (x - 0) = _
    omega
  · rw [if_neg h]
    have e : x / 2 ^ Int.toNat 31 = 0 := by
      show x / 2147483648 = 0
      omega
    rw [e]
    exact bitXor_zero x

theorem tupEq {T : Addr} {a b c d : Int} {t1 t2 : Tok} (h1 : a = c) (h2 : b = d) : ∃ T' u1 u2, Value.ref T = .ref T' ∧ [(T, ({ cls := .type "tuple", data := .seq [Value.int a t1, .int b t2].toArray } : Obj))] = [(T', { cls := .type "tuple", data := .seq [Value.int c u1, .int d u2].toArray })] := ⟨T, t1, t2, rfl, by rw [h1, h2]⟩
end
section
/-- the four loops of the product, as the program runs them -/
def cv1 (a b : List Int) (i : Nat) : Nat → List Int → List Int
  | 0, cs => cs
  | j + 1, cs => (cv1 a b i j cs).set (i + j) ((cv1 a b i j cs).getD (i + j) 0 + a.getD i 0 * b.getD j 0)
def cv2 (a b : List Int) (n : Nat) : Nat → List Int → List Int
  | 0, cs => cs
  | i + 1, cs => cv1 a b i (n - i) (cv2 a b n i cs)
def cv3 (a b : List Int) (n j : Nat) : Nat → List Int → List Int
  | 0, cs => cs
  | i + 1, cs => (cv3 a b n j i cs).set i ((cv3 a b n j i cs).getD i 0 - a.getD (n - j + i) 0 * b.getD j 0)
def cv4 (a b : List Int) (n : Nat) : Nat → List Int → List Int
  | 0, cs => cs
  | j + 1, cs => cv3 a b n (j + 1) (j + 1) (cv4 a b n j cs)
theorem cv1_length {a b : List Int} {i : Nat} : ∀ (j : Nat) (cs : List Int), (cv1 a b i j cs).length = cs.length
  | 0, _ => rfl
  | j + 1, cs => by show (List.set _ _ _).length = _; rw [List.length_set, cv1_length j cs]
theorem cv2_length {a b : List Int} {n : Nat} : ∀ (i : Nat) (cs : List Int), (cv2 a b n i cs).length = cs.length
  | 0, _ => rfl
  | i + 1, cs => by show (cv1 _ _ _ _ _).length = _; rw [cv1_length, cv2_length i cs]
theorem cv3_length {a b : List Int} {n j : Nat} : ∀ (i : Nat) (cs : List Int), (cv3 a b n j i cs).length = cs.length
  | 0, _ => rfl
  | i + 1, cs => by show (List.set _ _ _).length = _; rw [List.length_set, cv3_length i cs]
theorem cv4_length {a b : List Int} {n : Nat} : ∀ (j : Nat) (cs : List Int), (cv4 a b n j cs).length = cs.length
  | 0, _ => rfl
  | j + 1, cs => by show (cv3 _ _ _ _ _ _).length = _; rw [cv3_length, cv4_length j cs]
theorem cv_pmul {q : Int} {as bs : List Int} {n : Nat} (hn : n = 2 ∨ n = 3) (ha : as.length = n) (hb : bs.length = n) : (cv4 as bs n (n - 1) (cv2 as bs n n (List.replicate n 0))).map (· % q) = pmul q as bs := by
  rcases hn with rfl | rfl
  · obtain ⟨a0, a1, rfl⟩ := list_two ha
    obtain ⟨b0, b1, rfl⟩ := list_two hb
    simp [cv1, cv2, cv3, cv4, pmul2, List.set, Int.add_comm, Int.sub_eq_add_neg]
  · obtain ⟨a0, a1, a2, rfl⟩ := list_three ha
    obtain ⟨b0, b1, b2, rfl⟩ := list_three hb
    simp only [cv1, cv2, cv3, cv4, pmul3, List.set, List.replicate, List.getD_cons_zero, List.getD_cons_succ, List.map_cons, List.map_nil, List.cons.injEq, and_true]
    refine ⟨?_, ?_, ?_⟩ <;> congr 1 <;> simp <;> omega
theorem small_getD {cs : List Int} (h : Small cs) (i : Nat) : -2 ^ 40 < cs.getD i 0 ∧ cs.getD i 0 < 2 ^ 40 := by
  rw [List.getD_eq_getElem?_getD]
  cases e : cs[i]? with
  | none => simp
  | some x => exact h x (List.mem_of_getElem? e)
theorem ints_get {vs : List Value} {cs : List Int} {k : Int} {i : Nat} (h : IntsAre vs cs) (hk : k.toNat = i) (hi : i < cs.length) : ∃ t, vs[k.toNat]? = some (.int (cs.getD i 0) t) := by
  subst hk
  have hl : k.toNat < vs.length := by rw [h.length]; exact hi
  have e : vs[k.toNat]? = some vs[k.toNat] := List.getElem?_eq_getElem hl
  obtain ⟨_, t, ht⟩ := ints_at h e
  exact ⟨t, by rw [e, ht]⟩
theorem sizeSub {n i : Nat} (h : i ≤ n) : Builtin.Range.rangeSize 0 ((n : Int) - (i : Int)) 1 = ((n - i : Nat) : Int) := by rw [rangeSize_nat]; omega
theorem sizeFrom1 (n : Nat) : Builtin.Range.rangeSize 1 (n : Int) 1 = ((n - 1 : Nat) : Int) := by rw [rangeSize_nat]; omega
theorem sizeTail {n j : Nat} (h : j + 1 ≤ n) : Builtin.Range.rangeSize ((n : Int) - (1 + (j : Int))) (n : Int) 1 = ((j + 1 : Nat) : Int) := by rw [rangeSize_nat]; omega
theorem ownOff {own fix : Led} {I D : Addr} {o : Obj} (hoI : ∀ q ∈ own, q.1 = I) (hnI : ∀ p ∈ (D, o) :: fix, p.1 ≠ I) : ∀ p ∈ own, p.1 ≠ D := fun p hp e => hnI _ List.mem_cons_self (e.symm.trans (hoI p hp))
theorem lt20 {n : Nat} (h : n ≤ 3) : n < 2 ^ 20 := Nat.lt_of_le_of_lt h (by decide)
theorem smallSub {n i : Nat} (h : n ≤ 3) (hi : i < n) : Builtin.Range.small 0 ((n : Int) - (i : Int)) 1 = true := small_one (by decide) (by decide) (by omega) (by omega)
theorem smallOne {n : Nat} (h : n ≤ 3) : Builtin.Range.small 1 (n : Int) 1 = true := small_one (by decide) (by decide) (by omega) (by omega)
theorem smallTail {n j : Nat} (h : n ≤ 3) (hj : j < n - 1) : Builtin.Range.small ((n : Int) - (1 + (j : Int))) (n : Int) 1 = true := small_one (by omega) (by omega) (by omega) (by omega)
/-- an index in a list of at most three -/
theorem ix63 {k : Int} {i n : Nat} (h3 : n ≤ 3) (hi : i < n) (e : k = (i : Int)) : 0 ≤ k ∧ k < 2 ^ 63 ∧ k.toNat = i := by omega
theorem ixAdd {n i j : Nat} (hj : j < n - i) : i + j < n := by omega
theorem ixT1 {n i j : Nat} (hi : i < j + 1) (hj : j < n - 1) : i < n ∧ j + 1 < n ∧ n - (j + 1) + i < n := by omega
theorem ixT2 {n i j : Nat} : (n : Int) - (1 + (j : Int)) + (i : Int) + (1 + (j : Int)) - (n : Int) = (i : Int) := by omega
theorem ixT3 {n i j : Nat} (hj : j < n - 1) : (n : Int) - (1 + (j : Int)) + (i : Int) = ((n - (j + 1) + i : Nat) : Int) := by omega
theorem ixT4 {j : Nat} : 1 + (j : Int) = ((j + 1 : Nat) : Int) := by omega
def N23 (n : Nat) : Prop := n = 2 ∨ n = 3
/-- a turn's end, where the loop's moving part is one list of ints -/
inductive LoopOutL (h₀ : Heap) (L D : Addr) (fs : List Int) (K : (Str → Option Value) → Prop) (led : Led) (st : Heap → Nat → Shared) (s₂ : Shared) : Prop
  | mk (h' : Heap) (tk : Nat) (m₂ : Str → Option Value) (vs : List Value) (e : Nat) (h1 : s₂ = st h' tk) (h2 : Fr h₀ L h' m₂) (h3 : News h₀ L h' ((D, lsO vs e) :: led)) (h4 : IntsAre vs fs) (h5 : K m₂)
def LoopEndL (h₀ : Heap) (L D : Addr) (fs : List Int) (K : (Str → Option Value) → Prop) (led : Led) (s : Shared) (Qr : Value → Shared → Prop) (f : Flow) (s₂ : Shared) : Prop :=
  match f with
  | .ret v => Qr v s₂
  | .brk => False
  | _ => LoopOutL h₀ L D fs K led (fun h tk => { s with heap := h, toks := tk }) s₂
theorem LoopEndL.next {h₀ h' : Heap} {L D : Addr} {fs : List Int} {K : (Str → Option Value) → Prop} {led : Led} {s : Shared} {Qr : Value → Shared → Prop} {tk : Nat} {m₂ : Str → Option Value} {vs : List Value} {e : Nat}
    (F : Fr h₀ L h' m₂) (N : News h₀ L h' ((D, lsO vs e) :: led)) (hI : IntsAre vs fs) (k : K m₂) : LoopEndL h₀ L D fs K led s Qr .next { s with heap := h', toks := tk } := ⟨h', tk, m₂, vs, e, rfl, F, N, hI, k⟩
section
variable {prog : Program} {w : World} {A : Around} {E : Value → Shared → Prop} {s : Shared} {env : Env} {h₀ : Heap} {x : Str} {body : List Stmt} {Q : Flow → Shared → Prop} {m : Str → Option Value} {fix : Led}
theorem for_rangeL {r D : Addr} {a b : Int} {t u v : Tok} {n : Nat} {vs₀ : List Value} {e₀ : Nat} (f : Nat → List Int) (K : Nat → (Str → Option Value) → Prop) (hh : A.handled = none) (F : Fr h₀ env.locals s.heap m) (N : News h₀ env.locals s.heap ((D, lsO vs₀ e₀) :: fix)) (hr : IsRange s.heap r a b 1 t u v) (hsm : Builtin.Range.small a b 1 = true) (hn : Builtin.Range.rangeSize a b 1 = (n : Int))
    (hD : ∀ p ∈ fix, p.1 ≠ D) (hI : IntsAre vs₀ (f 0)) (h0 : K 0 m)
    (step : ∀ i t m₁ vs e led h tk, i < n → IntsAre vs (f i) → K i m₁ → (∀ p ∈ fix, p ∈ led) → (∀ p ∈ led, p.1 ≠ D) → Fr h₀ env.locals h (fun y => if y = x then some (.int (a + (i : Int)) t) else m₁ y) → News h₀ env.locals h ((D, lsO vs e) :: led) →
      wpAny (model prog w) A (execs body env) (LoopEndL h₀ env.locals D (f (i + 1)) (K (i + 1)) led s (fun v s' => Q (.ret v) s')) E { s with heap := h, toks := tk })
    (fin : ∀ h tk m' vs e, Fr h₀ env.locals h m' → News h₀ env.locals h ((D, lsO vs e) :: fix) → IntsAre vs (f n) → K n m' → Q .next { s with heap := h, toks := tk }) :
    wpAny (model prog w) A (pyIter (.ref r)) (fun it s₂ => ForAt prog w A h₀ env x body Q E it s₂) E s := by
  refine for_range (mov₀ := [(D, lsO vs₀ e₀)]) (fix := fix) (fun i m' mov gs => gs = s.gens ∧ (∃ vs e, mov = [(D, lsO vs e)] ∧ IntsAre vs (f i)) ∧ K i m') hh F N hr hsm hn ⟨rfl, ⟨vs₀, e₀, rfl, hI⟩, h0⟩ (fun i v m₁ mov I oI own h tk gs hi hv hJ hIo hoI hnI F₁ N₁ => ?_) (fun h tk gs m' mov F₁ N₁ hJ => ?_)
  · obtain ⟨ti, ev⟩ := hv
    obtain ⟨eg, ⟨vs, e, em, hIi⟩, hK⟩ := hJ
    subst ev eg em
    refine wpAny_mono (step i ti m₁ vs e (own ++ fix) h tk hi hIi hK (fun p hp => List.mem_append_right _ hp) (fun p hp => (List.mem_append.mp hp).elim (ownOff hoI hnI p) (hD p)) F₁ (newsSub N₁ (by lcg_sub))) (fun fl s₂ q => ?_) fun _ _ q => q
    have key : LoopOutL h₀ env.locals D (f (i + 1)) (K (i + 1)) (own ++ fix) (fun h tk => { s with heap := h, toks := tk }) s₂ → LoopOut h₀ env.locals I own fix (fun m' mov gs => gs = s.gens ∧ (∃ vs e, mov = [(D, lsO vs e)] ∧ IntsAre vs (f (i + 1))) ∧ K (i + 1) m') (fun h tk gs => { s with heap := h, toks := tk, gens := gs }) s₂ := fun q => by
      obtain ⟨h', tk', m₂, vs', e', e1, F₂, N₂, hI2, hK2⟩ := q
      exact ⟨h', tk', s.gens, m₂, [(D, lsO vs' e')], e1, F₂, newsSub N₂ (by lcg_sub), (fun p hp => by rw [List.mem_singleton.mp hp]; exact hnI (D, lsO vs e) List.mem_cons_self), rfl, ⟨vs', e', rfl, hI2⟩, hK2⟩
    cases fl with
    | ret v => exact q
    | brk => exact q
    | cont => exact key q
    | next => exact key q
  · obtain ⟨eg, ⟨vs, e, em, hIi⟩, hK⟩ := hJ
    subst eg em
    exact fin h tk m' vs e F₁ N₁ hIi hK
end
end
section
/-- a generator of two clauses -/
abbrev gen2 (elt iter iter2 : Expr) (x x2 : Str) (px px2 : Pos) (scope : Scope) (pos : Pos) : Expr := .GeneratorExp elt [⟨.Name x px, iter, [], 0⟩, ⟨.Name x2 px2, iter2, [], 0⟩] scope pos
theorem compTurn_two0 (elt iter iter2 : Expr) (x x2 : Str) (px px2 : Pos) (scope : Scope) (pos : Pos) (it acc : Value) (env : Env) :
    compTurn (gen2 elt iter iter2 x x2 px px2 scope pos) 0 it acc env = (do
      standAt iter.pos
      match ← pyNext it with
      | none => pure (.done .next)
      | some v =>
        letOwnedTupleGo (.Name x px) it v
        assign (.Name x px) env v
        let xv ← eval iter2 env
        standAt iter2.pos
        let xv ← foldedSetIterable iter2 env xv
        let _ ← runOwn (.compStart (gen2 elt iter iter2 x x2 px px2 scope pos) 1 (← holding [xv] (pyIter xv)) acc env) env
        again (.compLoop (gen2 elt iter iter2 x x2 px px2 scope pos) 0 it acc env)) := by rfl
theorem compTurn_two1 (elt iter iter2 : Expr) (x x2 : Str) (px px2 : Pos) (scope : Scope) (pos : Pos) (it acc : Value) (env : Env) :
    compTurn (gen2 elt iter iter2 x x2 px px2 scope pos) 1 it acc env = (do
      standAt iter2.pos
      match ← pyNext it with
      | none => pure (.done .next)
      | some v =>
        letOwnedTupleGo (.Name x2 px2) it v
        assign (.Name x2 px2) env v
        (do let v ← eval elt env; standAt elt.pos; let _ ← yieldOut env v)
        again (.compLoop (gen2 elt iter iter2 x x2 px px2 scope pos) 1 it acc env)) := by rfl
def Since (s₀ s : Shared) : Prop := ∃ h' tk, s = { s₀ with heap := h', toks := tk }
theorem Since.refl (s : Shared) : Since s s := ⟨s.heap, s.toks, rfl⟩
theorem Since.step {s₀ s : Shared} (x : Since s₀ s) (h' : Heap) (tk : Nat) : Since s₀ { s with heap := h', toks := tk } := by
  obtain ⟨h, t, rfl⟩ := x
  exact ⟨h', tk, rfl⟩
/-- what an all(..) over the generator needs: each item is True, the ledger stands, and what stood at the yield may be taken to stand at the waking -/
def allY (Hold : Heap → Prop) : Protocol := fun _ s₀ v s kap => v = .bool true ∧ Since s₀ s ∧ Hold s.heap ∧ ∀ s'' : Shared, (∀ b o, s.heap.get? b = some o → s''.heap.get? b = some o) → kap (.send .none) s''
abbrev allE (Hold : Heap → Prop) : GenEnd := fun n s₀ r s₁ => r = .ok .next ∧ (n = 0 ∧ Since s₀ s₁ ∧ Hold s₁.heap)
/-- the ledger and the maker's frame -/
def HoldAt (h₀ : Heap) (L : Addr) (m : Str → Option Value) (led : Led) (h : Heap) : Prop := Fr h₀ L h m ∧ News h₀ L h led
theorem HoldAt.keeps {h₀ h h' : Heap} {L : Addr} {m : Str → Option Value} {led : Led} (x : HoldAt h₀ L m led h) (bad : List Addr) (hb : ∀ b ∈ bad, h₀.get? b = none ∧ b ≠ L ∧ ∀ p ∈ led, p.1 ≠ b) (k : ∀ b o, b ∉ bad → h.get? b = some o → h'.get? b = some o) : HoldAt h₀ L m led h' :=
  ⟨⟨x.1.ns.at' fun o e => k _ o (fun h => (hb _ h).2.1 rfl) e, fun b o e => k b o (fun h => by rw [(hb _ h).1] at e; cases e) (x.1.keep b o e), x.1.above⟩,
   fun p hp => ⟨k _ _ (fun h => (hb _ h).2.2 p hp rfl) (x.2 p hp).1, (x.2 p hp).2⟩⟩
section
variable {prog : Program} {w : World} {A : Around} {h₀ : Heap} {L C I : Addr} {m : Str → Option Value} {led : Led} {elt iter iter2 : Expr} {x x2 : Str} {px px2 : Pos} {scope : Scope} {pos : Pos} {cenv : Env} {r : Nat}
/-- what a tree in the generator's frame is shown on: any base that holds the maker's frame -/
def InGen (prog : Program) (w : World) (A : Around) (h₀ : Heap) (L : Addr) (m : Str → Option Value) (C : Addr) (led : Led) (tree : Sem Value) (P : (Str → Option Value) → Prop) (Post : Value → Heap → Prop) : Prop :=
  ∀ (G : Heap) (s : Shared) (mC : Str → Option Value) (rest : Led) (E' : Value → Shared → Prop), P mC → (∀ p ∈ led, p ∈ rest) → (∀ b o, h₀.get? b = some o → G.get? b = some o) → G.Ns L m → Fr G C s.heap mC → News G C s.heap rest →
    wpAny (model prog w) A tree (fun v s' => ∃ h' tk', s' = { s with heap := h', toks := tk' } ∧ Fr G C h' mC ∧ News G C h' rest ∧ Post v h') E' s
theorem inGen_use {A' : Around} {tree : Sem Value} {P : (Str → Option Value) → Prop} {Post : Value → Heap → Prop} (T : InGen prog w A' h₀ L m C led tree P Post) (hLC : L < C) (hC : h₀.objs.size ≤ C) (hCl : ∀ p ∈ led, p.1 ≠ C)
    {s : Shared} {mC : Str → Option Value} (hP : P mC) (Hd : HoldAt h₀ L m led s.heap) (hn : s.heap.Ns C mC) {Q : Value → Shared → Prop} {E' : Value → Shared → Prop}
    (h : ∀ v h' tk', (∀ b o, b ≠ C → s.heap.get? b = some o → h'.get? b = some o) → h'.Ns C mC → Post v h' → Q v { s with heap := h', toks := tk' }) : wpAny (model prog w) A' tree Q E' s := by
  have gG : ∀ b o, h₀.get? b = some o → (genBase h₀ L C s.heap).get? b = some o := fun b o e => genBase_get (Nat.lt_of_lt_of_le (Heap.lt_size e) hC) (Hd.1.keep b o e) (.inl (by rw [e]; exact fun h => nomatch h))
  refine wpAny_mono (T (genBase h₀ L C s.heap) s mC (restOf (genBase h₀ L C s.heap) C s.heap) _ hP (fun p hp => restOf_mem (hCl p hp) (genBase_none (Hd.2 p hp).2.2 (Hd.2 p hp).2.1) (Hd.2 p hp).1) gG (genBase_ns hLC Hd.1.ns) ⟨hn, fun b o e => genBase_of e, genBase_size⟩ restOf_news) (fun v s' h' => ?_) fun _ _ e => e
  obtain ⟨h₁, tk₁, rfl, F₁, N₁, hp⟩ := h'
  refine h v h₁ tk₁ (fun b o hbC e => ?_) F₁.ns hp
  cases hq : (genBase h₀ L C s.heap).get? b with
  | some o₀ =>
    have := genBase_of hq
    rw [e] at this
    exact (Option.some.inj this) ▸ F₁.keep b o₀ hq
  | none => exact (N₁ (b, o) (restOf_mem hbC hq e)).1
def Rdy2 (h₀ : Heap) (L : Addr) (m : Str → Option Value) (led : Led) (C I : Addr) (r i : Nat) (h : Heap) : Prop := IsRangeIter h I (i : Int) ((r : Int) - (i : Nat)) 1 ∧ HoldAt h₀ L m led h ∧ ∃ mC, h.Ns C mC
set_option maxHeartbeats 1000000 in
theorem seg_two (hh : A.handled = none) (hIC : I ≠ cenv.locals) (hI : h₀.get? I = none ∧ I ≠ L ∧ ∀ p ∈ led, p.1 ≠ I) (hC : h₀.get? cenv.locals = none ∧ cenv.locals ≠ L ∧ ∀ p ∈ led, p.1 ≠ cenv.locals) (hLC : L < cenv.locals) (hC₀ : h₀.objs.size ≤ cenv.locals)
    (hx : cenv.kindOf x = some .local) (hx2 : cenv.kindOf x2 = some .local) (hxx : x ≠ x2) (hp : (cenv.scope.kind == .class || (cenv.scope.kind == .module && cenv.locals != cenv.globals)) = false) (hco : cenv.scope.isCoroutine = false)
    (hfold : ∀ xv, foldedSetIterable iter2 cenv xv = pure xv)
    (hiter : InGen prog w (A.over (.compLoop (gen2 elt iter iter2 x x2 px px2 scope pos) 0 (.ref I) .none cenv) []) h₀ L m cenv.locals led (eval iter2 cenv) (fun _ => True) (fun v h => ∃ rr t u t', v = .ref rr ∧ IsRange h rr 0 1 1 t u t'))
    (helt : ∀ (k : Result → Sem PySem.Fin) (l : List Value) (p : Pos) (I2 : Addr) (i : Nat), i < r → InGen prog w (A.over (.compLoop (gen2 elt iter iter2 x x2 px px2 scope pos) 1 (.ref I2) .none cenv) [.ret k none false l (.compLoop (gen2 elt iter iter2 x x2 px px2 scope pos) 0 (.ref I) .none cenv) p []]) h₀ L m cenv.locals led (eval elt cenv) (fun mC => (∃ t, mC x = some (.int (i : Int) t)) ∧ ∃ t, mC x2 = some (.int 0 t)) (fun v _ => v = .bool true)) :
    ∀ (k i : Nat) (s₀ s : Shared), r - i = k → i ≤ r → Rdy2 h₀ L m led cenv.locals I r i s.heap → Since s₀ s →
      Seg (model prog w) A (allE (HoldAt h₀ L m led)) (allY (HoldAt h₀ L m led)) (r - i) s₀ (.compLoop (gen2 elt iter iter2 x x2 px px2 scope pos) 0 (.ref I) .none cenv)
        ((model prog w).den (.compLoop (gen2 elt iter iter2 x x2 px px2 scope pos) 0 (.ref I) .none cenv)) [] s := by
  intro k
  induction k with
  | zero =>
    intro i s₀ s hk hi hr hs
    have hx98 : i = r := by omega
    rcases hx98 with rfl
    obtain ⟨hit, Hd, _⟩ := hr
    rw [Nat.sub_self]
    show Seg _ A _ _ _ s₀ _ ((compTurn (gen2 elt iter iter2 x x2 px px2 scope pos) 0 (.ref I) .none cenv).onRaise (leaving cenv)) [] s
    rw [compTurn_two0, Sem.onRaise_eq_wrap]
    refine seg_bind_wrap (wpAny_standAt ?_)
    refine seg_bind_wrap (wpAny_pyNext_range_end (by exact hh) hit (by omega) fun h' hk' => ?_)
    exact seg_end (.ok .next) ⟨rfl, rfl, hs.step h' _, Hd.keeps [I] (fun b hb => by rw [List.mem_singleton.mp hb]; exact hI) fun b o hb e => hk' b o (fun q => hb (by rw [q]; exact List.mem_singleton.mpr rfl)) e⟩
  | succ k ih =>
    intro i s₀ s hk hi hr hs
    obtain ⟨hit, Hd, mC, hn⟩ := hr
    have hlt : i < r := by omega
    show Seg _ A _ _ _ s₀ _ ((compTurn (gen2 elt iter iter2 x x2 px px2 scope pos) 0 (.ref I) .none cenv).onRaise (leaving cenv)) [] s
    rw [compTurn_two0, Sem.onRaise_eq_wrap]
    refine seg_bind_wrap (wpAny_standAt ?_)
    refine seg_bind_wrap (wpAny_pyNext_range_item hit (by omega) fun h₁ hit₁ hs₁ => ?_)
    refine seg_bind_wrap (wpAny_of_eq (rfl : letOwnedTupleGo (.Name x px) (.ref I) _ = pure ()) ?_)
    refine seg_bind_wrap (wpAny_assign_Name (wpAny_storeName_local hx (hn.sameBut hs₁ (Ne.symm hIC)) (fun h₂ hn₂ hs₂ => ?_) hp))
    have Hd₂ : HoldAt h₀ L m led h₂ := Hd.keeps [I, cenv.locals] (fun b hb => by
      simp only [List.mem_cons, List.not_mem_nil, or_false] at hb
      rcases hb with rfl | rfl
      · exact hI
      · exact hC) fun b o hb e => by
      simp only [List.mem_cons, List.not_mem_nil, or_false, not_or] at hb
      exact hs₂.extBut b o hb.2 (hs₁.extBut b o hb.1 e)
    have hit₂ : IsRangeIter h₂ I ((i : Int) + 1) ((r : Int) - (i : Nat) - 1) 1 := hs₂.extBut I _ hIC hit₁
    dsimp only
    refine seg_bind_wrap (inGen_use hiter hLC hC₀ hC.2.2 trivial Hd₂ hn₂ fun v h₃ tk₃ k₃ hn₃ hv => ?_)
    obtain ⟨rr, t, u, t', rfl, hrr⟩ := hv
    refine seg_bind_wrap (wpAny_standAt ?_)
    refine seg_bind_wrap (wpAny_of_eq (hfold _) ?_)
    refine seg_bind_wrap (wpAny_holding (wpAny_pyIter_range hrr (by decide) ?_))
    have hI2 : h₃.objs.size ≠ cenv.locals := Nat.ne_of_gt (let ⟨_, e, _⟩ := LCg.ns_obj hn₃; Heap.lt_size e)
    dsimp only
    refine seg_call fun p => ?_
    have k₂₃ : ∀ b o, b ≠ cenv.locals → h₂.get? b = some o → h₃.get? b = some o := k₃
    have hI₃ : h₃.get? I = some _ := k₃ I _ hIC hit₂
    have Hd₃ : HoldAt h₀ L m led h₃ := Hd₂.keeps [cenv.locals] (fun b hb => by rw [List.mem_singleton.mp hb]; exact hC) fun b o hb e => k₃ b o (fun q => hb (by rw [q]; exact List.mem_singleton.mpr rfl)) e
    have hI2I : h₃.objs.size ≠ I := Nat.ne_of_gt (Heap.lt_size hI₃)
    have hI2₀ : h₀.get? h₃.objs.size = none ∧ h₃.objs.size ≠ L ∧ ∀ p ∈ led, p.1 ≠ h₃.objs.size := ⟨next_is_new Hd₃.1, Nat.ne_of_gt Hd₃.1.ns.lt, fun p hp => Nat.ne_of_lt (Heap.lt_size (Hd₃.2 p hp).1)⟩
    generalize hH4 : h₃.push { cls := Value.type "range_iterator", data := Data.fields #[rawInt 0, rawInt (Builtin.Range.rangeSize 0 1 1), rawInt 1] } = h₄
    have up : ∀ b o, h₃.get? b = some o → h₄.get? b = some o := fun b o e => hH4 ▸ Heap.get?_push_of_some _ e
    have hit2 : IsRangeIter h₄ h₃.objs.size 0 1 1 := by rw [← hH4]; exact Heap.get?_push_size _ rfl
    have Hd₄ : HoldAt h₀ L m led h₄ := Hd₃.keeps [] (fun b hb => nomatch hb) fun b o _ e => up b o e
    have hn₄ : h₄.Ns cenv.locals _ := hn₃.keeps up
    have hI₄ := up _ _ hI₃
    generalize hI2e : h₃.objs.size = I2 at *
    generalize hF0 : Frame.ret _ none (id false) (id []) (Code.compLoop (gen2 elt iter iter2 x x2 px px2 scope pos) 0 (Value.ref I) Value.none cenv) p [] = F0
    have hpop : ∀ (c' : Code) s₀' s', Rdy2 h₀ L m led cenv.locals I r (i + 1) s'.heap → Since s₀' s' → Seg (model prog w) A (allE (HoldAt h₀ L m led)) (allY (HoldAt h₀ L m led)) (r - (i + 1)) s₀' c' (leafOf (.ok .next)) [F0] s' := fun c' s₀' s' a b => by
      rw [← hF0]
      exact seg_leaf (.ok .next) (seg_again rfl (ih (i + 1) s₀' s' (by omega) hlt a b))
    have he : InGen prog w (A.over (.compLoop (gen2 elt iter iter2 x x2 px px2 scope pos) 1 (.ref I2) .none cenv) [F0]) h₀ L m cenv.locals led (eval elt cenv) (fun mC => (∃ t, mC x = some (.int (i : Int) t)) ∧ ∃ t, mC x2 = some (.int 0 t)) (fun v _ => v = .bool true) := by
      rw [← hF0]; exact helt _ _ _ _ _ hlt
    have hg0 : splitAtGen [F0] = none := by rw [← hF0]; rfl
    have hg1 : [F0].any Frame.guarded = false := by rw [← hF0]; rfl
    have hh2 : (A.over (.compLoop (gen2 elt iter iter2 x x2 px px2 scope pos) 1 (.ref I2) .none cenv) [F0]).handled = none := by rw [← hF0]; exact hh
    clear hF0
    have hs4 : Since s₀ { heap := h₄, gens := s.gens, drawn := s.drawn, toks := tk₃, os := s.os } := hs.step h₄ tk₃
    have inner : Seg (model prog w) A (allE (HoldAt h₀ L m led)) (allY (HoldAt h₀ L m led)) (r - i) s₀ (.compLoop (gen2 elt iter iter2 x x2 px px2 scope pos) 1 (.ref I2) .none cenv)
        ((model prog w).den (.compLoop (gen2 elt iter iter2 x x2 px px2 scope pos) 1 (.ref I2) .none cenv)) [F0] { heap := h₄, gens := s.gens, drawn := s.drawn, toks := tk₃, os := s.os } := by
      show Seg _ A _ _ _ s₀ _ ((compTurn (gen2 elt iter iter2 x x2 px px2 scope pos) 1 (.ref I2) .none cenv).onRaise _) _ _
      rw [compTurn_two1, Sem.onRaise_eq_wrap]
      refine seg_bind_wrap (wpAny_standAt ?_)
      refine seg_bind_wrap (wpAny_pyNext_range_item hit2 (by decide) fun h₅ hit5 hs5 => ?_)
      refine seg_bind_wrap (wpAny_of_eq (rfl : letOwnedTupleGo (.Name x2 px2) (.ref I2) _ = pure ()) ?_)
      refine seg_bind_wrap (wpAny_assign_Name (wpAny_storeName_local hx2 (hn₄.sameBut hs5 (Ne.symm hI2)) (fun h₆ hn₆ hs₆ => ?_) hp))
      have k₆ : ∀ b o, b ≠ I2 → b ≠ cenv.locals → h₄.get? b = some o → h₆.get? b = some o := fun b o h1 h2 e => hs₆.extBut b o h2 (hs5.extBut b o h1 e)
      have Hd₆ : HoldAt h₀ L m led h₆ := Hd₄.keeps [I2, cenv.locals] (fun b hb => by
        simp only [List.mem_cons, List.not_mem_nil, or_false] at hb
        rcases hb with rfl | rfl
        · exact hI2₀
        · exact hC) fun b o hb e => by
        simp only [List.mem_cons, List.not_mem_nil, or_false, not_or] at hb
        exact k₆ b o hb.1 hb.2 e
      have hit6 : IsRangeIter h₆ I2 (0 + 1) (1 - 1) 1 := hs₆.extBut I2 _ hI2 hit5
      have hI₆ := k₆ I _ (Ne.symm hI2I) hIC hI₄
      dsimp only
      have hy : ∀ v, yieldOut cenv v = yieldValue v := fun v => by simp only [yieldOut, hco, Bool.false_eq_true, if_false]
      simp only [hy]
      rw [Sem.bind_eq_wrap', Sem.bind_eq_wrap', Sem.wrap_wrap, Sem.wrap_wrap]
      refine seg_wrap (inGen_use he hLC hC₀ hC.2.2 ⟨⟨_, by simp [hxx]; rfl⟩, ⟨_, by simp; rfl⟩⟩ Hd₆ hn₆ fun v h₇ tk₇ k₇ hn₇ hv => ?_)
      subst hv
      have Hd₇ : HoldAt h₀ L m led h₇ := Hd₆.keeps [cenv.locals] (fun b hb => by rw [List.mem_singleton.mp hb]; exact hC) fun b o hb e => k₇ b o (fun q => hb (by rw [q]; exact List.mem_singleton.mpr rfl)) e
      have hit7 := k₇ I2 _ hI2 hit6
      have hI₇ := k₇ I _ hIC hI₆
      have e1 : r - i = (r - (i + 1)) + 1 := by omega
      rw [e1]
      refine seg_at (seg_yield hg0 rfl hg1 ⟨rfl, hs4.step _ _, Hd₇, fun s'' hal => ?_⟩)
      refine seg_again rfl ?_
      show Seg _ A _ _ _ s'' _ ((compTurn (gen2 elt iter iter2 x x2 px px2 scope pos) 1 (.ref I2) .none cenv).onRaise _) _ _
      rw [compTurn_two1, Sem.onRaise_eq_wrap]
      refine seg_bind_wrap (wpAny_standAt ?_)
      refine seg_bind_wrap (wpAny_pyNext_range_end hh2 (hal _ _ hit7) (by decide) fun h₈ k₈ => ?_)
      refine hpop _ _ _ ⟨?_, ?_, _, (hn₇.keeps hal).at' fun o e => k₈ _ o (Ne.symm hI2) e⟩ ⟨h₈, _, rfl⟩
      · have e2 : IsRangeIter h₈ I ((i : Int) + 1) ((r : Int) - (i : Nat) - 1) 1 := k₈ I _ (Ne.symm hI2I) (hal _ _ hI₇)
        have e3 : ((i + 1 : Nat) : Int) = (i : Int) + 1 := rfl
        have e4 : (r : Int) - ((i + 1 : Nat) : Int) = (r : Int) - (i : Nat) - 1 := by omega
        rw [e4, e3]
        exact e2
      · exact (Hd₇.keeps [] (fun b hb => nomatch hb) fun b o _ e => hal b o e).keeps [I2] (fun b hb => by rw [List.mem_singleton.mp hb]; exact hI2₀) fun b o hb e => k₈ b o (fun q => hb (by rw [q]; exact List.mem_singleton.mpr rfl)) e
    show Seg _ A _ _ _ s₀ _ ((compStart (gen2 elt iter iter2 x x2 px px2 scope pos) 1 (.ref I2) .none cenv).onRaise _) _ _
    unfold compStart
    rw [Sem.onRaise_eq_wrap]
    show Seg _ A _ _ _ s₀ _ ((ask >>= _).wrap _ _ _ _) _ _
    refine seg_bind_wrap (wpAny_askSetting ?_)
    split
    · exact seg_again rfl inner
    · refine seg_bind_wrap (wpAny_rule ?_)
      show Seg _ A _ _ _ s₀ _ ((standAt iter2.pos >>= _).wrap _ _ _ _) _ _
      refine seg_bind_wrap (wpAny_standAt (seg_bind_wrap (wpAny_pyIter_rangeiter hit2 ?_)))
      exact seg_again rfl inner
end
end
section
section
variable {prog : Program} {w : World} {A : Around} {h₀ : Heap} {L C I : Addr} {m : Str → Option Value} {led : Led} {elt iter iter2 : Expr} {x x2 : Str} {px px2 : Pos} {scope : Scope} {pos : Pos} {cenv : Env} {r : Nat}
theorem seg_twoStart (hh : A.handled = none) (hIC : I ≠ cenv.locals) (hI : h₀.get? I = none ∧ I ≠ L ∧ ∀ p ∈ led, p.1 ≠ I) (hC : h₀.get? cenv.locals = none ∧ cenv.locals ≠ L ∧ ∀ p ∈ led, p.1 ≠ cenv.locals) (hLC : L < cenv.locals) (hC₀ : h₀.objs.size ≤ cenv.locals)
    (hx : cenv.kindOf x = some .local) (hx2 : cenv.kindOf x2 = some .local) (hxx : x ≠ x2) (hp : (cenv.scope.kind == .class || (cenv.scope.kind == .module && cenv.locals != cenv.globals)) = false) (hco : cenv.scope.isCoroutine = false)
    (hfold : ∀ xv, foldedSetIterable iter2 cenv xv = pure xv)
    (hiter : InGen prog w (A.over (.compLoop (gen2 elt iter iter2 x x2 px px2 scope pos) 0 (.ref I) .none cenv) []) h₀ L m cenv.locals led (eval iter2 cenv) (fun _ => True) (fun v h => ∃ rr t u t', v = .ref rr ∧ IsRange h rr 0 1 1 t u t'))
    (helt : ∀ (k : Result → Sem PySem.Fin) (l : List Value) (p : Pos) (I2 : Addr) (i : Nat), i < r → InGen prog w (A.over (.compLoop (gen2 elt iter iter2 x x2 px px2 scope pos) 1 (.ref I2) .none cenv) [.ret k none false l (.compLoop (gen2 elt iter iter2 x x2 px px2 scope pos) 0 (.ref I) .none cenv) p []]) h₀ L m cenv.locals led (eval elt cenv) (fun mC => (∃ t, mC x = some (.int (i : Int) t)) ∧ ∃ t, mC x2 = some (.int 0 t)) (fun v _ => v = .bool true))
    (s : Shared) (hr : Rdy2 h₀ L m led cenv.locals I r 0 s.heap) :
      Seg (model prog w) A (allE (HoldAt h₀ L m led)) (allY (HoldAt h₀ L m led)) r s (.compStart (gen2 elt iter iter2 x x2 px px2 scope pos) 0 (.ref I) .none cenv)
        ((model prog w).den (.compStart (gen2 elt iter iter2 x x2 px px2 scope pos) 0 (.ref I) .none cenv)) [] s := by
  have loop := seg_two (prog := prog) (iter := iter) (px := px) (px2 := px2) (scope := scope) (pos := pos) hh hIC hI hC hLC hC₀ hx hx2 hxx hp hco hfold hiter helt r 0 s s rfl (Nat.zero_le _) hr (Since.refl s)
  rw [Nat.sub_zero] at loop
  show Seg _ A _ _ _ s _ ((compStart (gen2 elt iter iter2 x x2 px px2 scope pos) 0 (.ref I) .none cenv).onRaise (leaving cenv)) [] s
  unfold compStart
  rw [Sem.onRaise_eq_wrap]
  show Seg _ A _ _ _ s _ ((ask >>= _).wrap _ _ _ _) [] s
  refine seg_bind_wrap (wpAny_askSetting ?_)
  split
  · exact seg_again rfl loop
  · refine seg_bind_wrap (wpAny_rule ?_)
    show Seg _ A _ _ _ s _ ((standAt iter.pos >>= _).wrap _ _ _ _) [] s
    refine seg_bind_wrap (wpAny_standAt (seg_bind_wrap (wpAny_pyIter_rangeiter hr.1 ?_)))
    exact seg_again rfl loop
end
/-- a generator of two clauses in hand, k items ahead, each of them True -/
def Run2 (prog : Program) (w : World) (A : Around) (h₀ : Heap) (L : Addr) (m : Str → Option Value) (led : Led) (g k : Nat) (h : Heap) (gens : Array GenState) : Prop :=
  ∃ gs, gens[g]? = some gs ∧ ∀ s'' : Shared, (∀ b o, h.get? b = some o → s''.heap.get? b = some o) → gs.Goes (model prog w) A.in1 (allE (HoldAt h₀ L m led)) (allY (HoldAt h₀ L m led)) k (.send .none) s''
section
variable {prog : Program} {w : World} {A : Around} {E : Value → Shared → Prop} {s : Shared} {h₀ : Heap} {L a : Addr} {m : Str → Option Value} {led : Led} {g k : Nat}
theorem run2_item {Q : Option Value → Shared → Prop} (hh : A.handled = none) (hl : s.heap.NoLimit) (hroom : A.depth < recursionLimit) (hg : s.heap.IsGen a g) (bare : AllBare s.gens)
    (X : Run2 prog w A h₀ L m led g (k + 1) s.heap s.gens)
    (hQ : ∀ h' tk' gs', HoldAt h₀ L m led h' → AllBare gs' → Run2 prog w A h₀ L m led g k h' gs' → Q (some (.bool true)) { s with heap := h', toks := tk', gens := gs' }) : wpAny (model prog w) A (pyNext (.ref a)) Q E s := by
  obtain ⟨gs, hgs, hgo⟩ := X
  refine wpAny_pyNext_genexpQ (P := fun n s₀ s₁ => n = 0 ∧ Since s₀ s₁ ∧ HoldAt h₀ L m led s₁.heap) hh hl hroom hg hgs (hgo _ fun _ _ e => e) (fun v s₁ gs' hb hv => ?_) (fun s₁ hp h' hk => ?_)
  · obtain ⟨rfl, ⟨h₁, tk₁, rfl⟩, Hd, hkap⟩ := hv
    refine hQ h₁ tk₁ _ Hd ?_ ⟨gs', setGen_self (gs := .running) (setGen_self hgs), fun s'' hal => ?_⟩
    · exact GenOnlyQ.bare (GenOnlyQ.of ((GenOnly.setGen s g .running).trans (GenOnly.setGen _ g gs')) (setGen_self (gs := .running) (setGen_self hgs)) hb) bare
    · exact hkap s'' hal
  · exact absurd hp.1 (Nat.succ_ne_zero k)
theorem run2_done {Q : Option Value → Shared → Prop} (hh : A.handled = none) (hl : s.heap.NoLimit) (hroom : A.depth < recursionLimit) (hg : s.heap.IsGen a g) (bare : AllBare s.gens)
    (X : Run2 prog w A h₀ L m led g 0 s.heap s.gens)
    (hQ : ∀ h' tk' gs', HoldAt h₀ L m led h' → AllBare gs' → Q none { s with heap := h', toks := tk', gens := gs' }) : wpAny (model prog w) A (pyNext (.ref a)) Q E s := by
  obtain ⟨gs, hgs, hgo⟩ := X
  refine wpAny_pyNext_genexpQ (P := fun n s₀ s₁ => n = 0 ∧ Since s₀ s₁ ∧ HoldAt h₀ L m led s₁.heap) hh hl hroom hg hgs (hgo _ fun _ _ e => e) (fun v s₁ gs' hb hv => ?_) (fun s₁ hp h' hk => ?_)
  · obtain ⟨_, _, _, hkap⟩ := hv
    exact False.elim (hkap s₁ fun _ _ e => e)
  · obtain ⟨_, ⟨h₁, tk₁, rfl⟩, Hd⟩ := hp
    exact hQ h' tk₁ _ (Hd.keeps [] (fun b hb => nomatch hb) fun b o _ e => hk b o e) (GenOnlyQ.bare (GenOnlyQ.of ((GenOnly.setGen s g .running).trans (GenOnly.setGen _ g .finished)) (setGen_self (gs := .running) (setGen_self hgs)) rfl) bare)
theorem all2_loop {R : Result → Shared → Prop} {oa : Obj} (hh : A.handled = none) (hl : h₀.NoLimit) (hroom : A.depth < recursionLimit) (ha : (a, oa) ∈ led) (hg : ∀ h : Heap, h.get? a = some oa → h.IsGen a g) :
    ∀ (k : Nat) (s : Shared), HoldAt h₀ L m led s.heap → AllBare s.gens → Run2 prog w A.in1 h₀ L m led g k s.heap s.gens →
      (∀ h' tk' gs', HoldAt h₀ L m led h' → AllBare gs' → R (.ok (.ret (.bool true))) { s with heap := h', toks := tk', gens := gs' }) →
      codeAny (model prog w) A (.builtin "all.loop" ⟨[.ref a], []⟩) R s := by
  intro k
  induction k with
  | zero =>
    intro s Hd bare X hR
    refine codeAny_builtin PySem.F.entry_all_loop ?_
    rw [Around.under_plainId PySem.F.plain_all_loop _]
    show wpAny _ A.in1 (pyNext (.ref a) >>= _) _ _ s
    refine wpAny_bind (run2_done hh (hl.keeps Hd.1.keep) hroom (hg _ (Hd.2 _ ha).1) bare X fun h' tk' gs' Hd' b' => ?_)
    exact wpAny_bind (wpAny_rule (wpAny_pure (hR h' tk' gs' Hd' b')))
  | succ k ih =>
    intro s Hd bare X hR
    refine codeAny_builtin PySem.F.entry_all_loop ?_
    rw [Around.under_plainId PySem.F.plain_all_loop _]
    show wpAny _ A.in1 (pyNext (.ref a) >>= _) _ _ s
    refine wpAny_bind (run2_item hh (hl.keeps Hd.1.keep) hroom (hg _ (Hd.2 _ ha).1) bare X fun h' tk' gs' Hd' b' X' => ?_)
    refine wpAny_bind (wpAny_holding (wpAny_truthy_bool ?_))
    refine wpAny_bind (wpAny_letGo ?_)
    simp only [if_true]
    exact wpAny_pure ⟨plainId_quiet PySem.F.plain_all_loop _, ih _ Hd' b' X' fun h'' tk'' gs'' Hd'' b'' => hR h'' tk'' gs'' Hd'' b''⟩
theorem gen2_all {Q : Value → Shared → Prop} {oa : Obj} (hh : A.handled = none) (hl : h₀.NoLimit) (hroom : A.depth < recursionLimit) (ha : (a, oa) ∈ led) (hg : ∀ h : Heap, h.get? a = some oa → h.IsGen a g) (Hd : HoldAt h₀ L m led s.heap) (bare : AllBare s.gens)
    (X : Run2 prog w A.in1 h₀ L m led g k s.heap s.gens) (hQ : ∀ h' tk' gs', HoldAt h₀ L m led h' → AllBare gs' → Q (.bool true) { s with heap := h', toks := tk', gens := gs' }) : wpAny (model prog w) A (call (.builtin "all") [.ref a]) Q E s :=
  call_allG (hg _ (Hd.2 _ ha).1) (all2_loop hh hl hroom ha hg k s Hd bare X hQ)
end
theorem eval_gen2 (elt iter iter2 : Expr) (x x2 : Str) (px px2 : Pos) (scope : Scope) (pos : Pos) (env : Env) (hco : scope.isCoroutine = false) :
    eval (gen2 elt iter iter2 x x2 px px2 scope pos) env = (do
      let xv ← eval iter env
      standAt iter.pos
      let xv ← genFold iter env xv
      let it ← holding [xv] (pyIter xv)
      enterFrame
      let cl ← closureFor scope env
      let code ← genexprCode env pos (env.qual ++ "<genexpr>") scope
      let bi ← builtinsFor env.globals env.builtins
      let cenv ← newFunctionEnv scope env.globals cl [(".0", it)] (env.qual ++ "<genexpr>.") none code none bi
      newGenerator (.compStart (gen2 elt iter iter2 x x2 px px2 scope pos) 0 it .none cenv) "<genexpr>" (env.qual ++ "<genexpr>")) := by
  rw [arm_eval_GeneratorExp]
  simp only [hco, Bool.false_eq_true, if_false]
  cases iter <;> rfl
end
section
section
variable {prog : Program} {w : World} {A : Around} {E : Value → Shared → Prop} {s : Shared} {h₀ : Heap} {L P : Addr} {m : Str → Option Value}
theorem InGen.mono {A' : Around} {C : Addr} {led led' : Led} {tree : Sem Value} {Pm : (Str → Option Value) → Prop} {Post : Value → Heap → Prop} (T : InGen prog w A' h₀ L m C led tree Pm Post) (k : ∀ p ∈ led, p ∈ led') : InGen prog w A' h₀ L m C led' tree Pm Post :=
  fun G s mC rest E' hp hs => T G s mC rest E' hp fun p h => hs p (k p h)
theorem gen2_make {p : Program} {loose : List Str} {mean : ExcName → Option Value} {mg mb : Str → Option Value} {env : Env} {elt iter iter2 : Expr} {x x2 : Str} {px px2 : Pos} {scope : Scope} {cl : List (Str × Addr)} {pos : Pos} {c : Addr} {r : Nat} {Q : Value → Shared → Prop}
    (_F₀ : Fr h₀ L s.heap m) (T : Top p loose mean mg mb h₀) (C₀ : CodeHd h₀ c P) (hge : env.globals = mainGlobals) (hcode : env.code = .ref c)
    (hh : A.handled = none) (hco : scope.isCoroutine = false) (hclos : closureFor scope env = pure cl) (hcell : ∀ y ∈ scope.names, y.2 ≠ .cell) (h0 : scope.names.lookup (".0" : Str) = some NameKind.local) (hx : scope.names.lookup x = some .local) (hx2 : scope.names.lookup x2 = some .local) (hxx : x ≠ x2) (hkind : scope.kind = .function) (hroom : A.depth < recursionLimit)
    (hfold : ∀ C code xv, foldedSetIterable iter2 (genEnv scope cl C code builtinsNs env) xv = pure xv)
    (h : wpAny (model prog w) A (eval iter env) (fun xv s₁ => Halt (∃ rr t u v oP led, xv = .ref rr ∧ IsRange s₁.heap rr 0 (r : Int) 1 t u v ∧ r < 2 ^ 20 ∧ Fr h₀ L s₁.heap m ∧ News h₀ L s₁.heap ((P, oP) :: led) ∧ IsTab oP ∧ (∀ p ∈ led, p.1 ≠ P) ∧ AllBare s₁.gens ∧
      (∀ (code : Value) (C I : Addr), InGen prog w (A.in1.in1.over (.compLoop (gen2 elt iter iter2 x x2 px px2 scope pos) 0 (.ref I) .none (genEnv scope cl C code builtinsNs env)) []) h₀ L m C led (eval iter2 (genEnv scope cl C code builtinsNs env)) (fun _ => True) (fun v h => ∃ rr t u t', v = .ref rr ∧ IsRange h rr 0 1 1 t u t')) ∧
      (∀ (code : Value) (C I : Addr) (k : Result → Sem PySem.Fin) (l : List Value) (p : Pos) (I2 : Addr) (i : Nat), i < r → InGen prog w (A.in1.in1.over (.compLoop (gen2 elt iter iter2 x x2 px px2 scope pos) 1 (.ref I2) .none (genEnv scope cl C code builtinsNs env)) [.ret k none false l (.compLoop (gen2 elt iter iter2 x x2 px px2 scope pos) 0 (.ref I) .none (genEnv scope cl C code builtinsNs env)) p []]) h₀ L m C led (eval elt (genEnv scope cl C code builtinsNs env)) (fun mC => (∃ t, mC x = some (.int (i : Int) t)) ∧ ∃ t, mC x2 = some (.int 0 t)) (fun v _ => v = .bool true)) ∧
      ∀ (a : Addr) (oa oP' : Obj) (h' : Heap) (tk g : Nat) (gs : Array GenState), IsTab oP' → HoldAt h₀ L m ((a, oa) :: (P, oP') :: led) h' → (∀ p ∈ (P, oP') :: led, p.1 ≠ a) → AllBare gs → (∀ h : Heap, h.get? a = some oa → h.IsGen a g) → Run2 prog w A.in1 h₀ L m ((a, oa) :: (P, oP') :: led) g r h' gs → Q (.ref a) { s₁ with heap := h', toks := tk, gens := gs })) E s)
    (hs : ∀ x, genFold iter env x = pure x) :
    wpAny (model prog w) A (eval (gen2 elt iter iter2 x x2 px px2 scope pos) env) Q E s := by
  rw [eval_gen2 _ _ _ _ _ _ _ _ _ _ hco, hclos]
  refine wpAny_bind (wpAny_mono h (fun xv s₁ h₁ => ?_) fun _ _ e => e)
  obtain ⟨rr, t, u, v, oP, led, rfl, hr, hn, F₁, N₁, ⟨ps, rfl, hps⟩, hlP, bare, hiter, helt, hQ⟩ := h₁
  refine wpAny_bind (wpAny_standAt ?_)
  refine wpAny_bind (wpAny_of_eq (hs _) ?_)
  refine wpAny_bind (wpAny_holding (wpAny_pyIter_range hr (smallN hn) ?_))
  rw [sizeN]
  generalize hH2 : s₁.heap.push { cls := Value.type "range_iterator", data := Data.fields #[rawInt 0, rawInt (r : Int), rawInt 1] } = h₂
  have up₂ : ∀ b o, s₁.heap.get? b = some o → h₂.get? b = some o := fun b o e => hH2 ▸ Heap.get?_push_of_some _ e
  have hit₂ : IsRangeIter h₂ s₁.heap.objs.size 0 (r : Int) 1 := by rw [← hH2]; exact Heap.get?_push_size _ rfl
  have hI₀ : h₀.get? s₁.heap.objs.size = none := next_is_new F₁
  have hIL : s₁.heap.objs.size ≠ L := Nat.ne_of_gt F₁.ns.lt
  have hIl : ∀ p ∈ (P, tabObj ps) :: led, p.1 ≠ s₁.heap.objs.size := fun p hp => Nat.ne_of_lt (Heap.lt_size (N₁ p hp).1)
  have F₂ := F₁.keeps up₂
  have N₂ := N₁.grown up₂
  generalize s₁.heap.objs.size = I at *
  have hP := N₂ _ List.mem_cons_self
  refine wpAny_bind (wpAny_enterFrame (T.nolimit.keeps F₂.keep) hroom ?_)
  refine wpAny_bind (wpAny_pure ?_)
  refine wpAny_bind (genexprCode_K hcode (C₀.keeps F₂.keep) hP.1 hps fun code h₃ tk₃ ps' hx₃ hP₃ hps' => ?_)
  have hbP : ∀ b o, h₀.get? b = some o → b ≠ P := fun b o e q => by rw [q, hP.2.2] at e; cases e
  have F₃ : Fr h₀ L h₃ m := ⟨F₂.ns.at' fun o e => hx₃ _ o (Ne.symm hP.2.1) e, fun b o e => hx₃ b o (hbP b o e) (F₂.keep b o e), F₂.above⟩
  have N₃ : News h₀ L h₃ ((P, tabObj ps') :: led) := fun p hp => by
    rcases List.mem_cons.mp hp with rfl | hp
    · exact ⟨hP₃, hP.2⟩
    · exact ⟨hx₃ _ _ (hlP p hp) (N₂ p (List.mem_cons_of_mem _ hp)).1, (N₂ p (List.mem_cons_of_mem _ hp)).2⟩
  have hit₃ : IsRangeIter h₃ I 0 (r : Int) 1 := hx₃ I _ (hIl _ List.mem_cons_self).symm hit₂
  obtain ⟨bm, ob, b1, b2, b3, b4, b5, b6⟩ := T.bmain
  refine wpAny_bind (wpAny_builtinsFor (hge ▸ T.g.keeps F₃.keep) b1 b2 (F₃.keep _ _ b3) b4 b5 b6 ?_)
  have hbinds : ∀ y ∈ ([((".0" : Str), Value.ref I)] : List (Str × Value)), scope.names.lookup y.1 = some NameKind.local := by
    intro y hy
    rcases List.mem_cons.mp hy with rfl | hy
    · exact h0
    · cases hy
  refine wpAny_bind (wpAny_newFunctionEnv hcell hbinds (fun h₄ hn₄ hs₄ => ?_) hkind)
  dsimp only at hn₄ hs₄ ⊢
  simp only [newGenerator, newFields]
  refine wpAny_bind (wpAny_newGen (wpAny_bind (wpAny_mkText (wpAny_bind (wpAny_mkText (wpAny_newObj_type ?_ (by size_fits)))))))
  dsimp only
  have e₄ : ∀ b o, h₃.get? b = some o → h₄.get? b = some o := fun b o e => hs₄.extBut b o (Nat.ne_of_lt (Heap.lt_size e)) (Heap.get?_push_of_some _ e)
  have hsz₄ : h₄.objs.size = h₃.objs.size + 1 := by rw [hs₄.1, Heap.size_push]
  have hC₀ : h₀.objs.size ≤ h₃.objs.size := Nat.le_trans F₃.above (Nat.le_of_lt F₃.ns.lt)
  have hLC : L < h₃.objs.size := F₃.ns.lt
  have hC3 : h₃.objs.size < h₄.objs.size := by rw [hsz₄]; exact Nat.lt_succ_self _
  generalize hoa : ({ cls := Value.type "generator", data := Data.fields #[rawInt (s₁.gens.size : Int), Value.str (Str.ofString "<genexpr>") (tk₃ + [(Str.ofString ".0", Value.ref I)].length), Value.str (env.qual ++ Str.ofString "<genexpr>") (tk₃ + [(Str.ofString ".0", Value.ref I)].length + 1)] } : Obj) = oa
  have e₅ : ∀ b o, h₃.get? b = some o → (h₄.push oa).get? b = some o := fun b o e => Heap.get?_push_of_some _ (e₄ b o e)
  have hga : (h₄.push oa).get? h₄.objs.size = some oa := Heap.get?_push_size _ (by rw [← hoa]; rfl)
  have N₅ : News h₀ L (h₄.push oa) ((h₄.objs.size, oa) :: (P, tabObj ps') :: led) := fun p hp => by
    rcases List.mem_cons.mp hp with rfl | hp
    · exact ⟨hga, Nat.ne_of_gt (Nat.lt_trans hLC hC3), Heap.get?_none_of_le (Nat.le_trans hC₀ (Nat.le_of_lt hC3))⟩
    · exact ⟨e₅ _ _ (N₃ p hp).1, (N₃ p hp).2⟩
  have Hd₅ : HoldAt h₀ L m ((h₄.objs.size, oa) :: (P, tabObj ps') :: led) (h₄.push oa) := ⟨F₃.keeps e₅, N₅⟩
  have hI3 : I < h₃.objs.size := Heap.lt_size hit₃
  refine hQ h₄.objs.size oa (tabObj ps') _ _ s₁.gens.size _ ⟨ps', rfl, hps'⟩ Hd₅ (fun p hp => Nat.ne_of_lt (Nat.lt_trans (Heap.lt_size (N₃ p hp).1) hC3)) (fun y hy => ?_) (fun h e => ?_) ⟨_, Array.getElem?_push_size .., fun s'' hal => ⟨rfl, ?_⟩⟩
  · rcases Array.mem_push.mp hy with hy | rfl
    · exact bare y hy
    · rfl
  · subst hoa
    exact ⟨_, _, _, e, rfl, rfl, rfl⟩
  refine seg_twoStart (A := A.in1.in1) (cenv := genEnv scope cl h₃.objs.size code builtinsNs env) hh (Nat.ne_of_lt hI3) ⟨hI₀, hIL, fun p hp => ?_⟩ ⟨Heap.get?_none_of_le hC₀, Nat.ne_of_gt hLC, fun p hp => ?_⟩ hLC hC₀ hx hx2 hxx ?_ hco (hfold _ _) ((hiter code _ I).mono fun p hp => List.mem_cons_of_mem _ (List.mem_cons_of_mem _ hp)) (fun k l p I2 i hi => (helt code _ I k l p I2 i hi).mono fun p hp => List.mem_cons_of_mem _ (List.mem_cons_of_mem _ hp)) s'' ⟨?_, Hd₅.keeps [] (fun b hb => nomatch hb) (fun b o _ e => hal b o e), _, ((hn₄.push oa).keeps hal)⟩
  · rcases List.mem_cons.mp hp with rfl | hp
    · exact Nat.ne_of_gt (Nat.lt_trans hI3 hC3)
    · rcases List.mem_cons.mp hp with rfl | hp
      · exact hIl (P, tabObj ps) List.mem_cons_self
      · exact hIl p (List.mem_cons_of_mem _ hp)
  · rcases List.mem_cons.mp hp with rfl | hp
    · exact Nat.ne_of_gt hC3
    · exact Nat.ne_of_lt (Heap.lt_size (N₃ p hp).1)
  · show (scope.kind == .class || (scope.kind == .module && _)) = false
    rw [hkind]; rfl
  · have := hal _ _ (e₅ I _ hit₃)
    simpa using this
end
theorem inGen_in {prog : Program} {w : World} {A₁ A' : Around} {dp' un' : Nat} {gd' : Option (List Code)} {env envc : Env} {outer : List Env} {h₀ base : Heap} {C : Addr} {scope : Scope} {cl : List (Str × Addr)} {code : Value} {t : Expr} {led : Led} {Pm : (Str → Option Value) → Prop} {Post : Value → Heap → Prop} {L : Addr} {m : Str → Option Value}
    {K : Frag} {p : Program} {loose : List Str} {mean : ExcName → Option Value} {mg mb : Str → Option Value} (B : Below A₁ base outer h₀) (X : K.In h₀) (T : Top p loose mean mg mb h₀) (hL : h₀.objs.size ≤ L) (hge : envc.globals = mainGlobals) (hf : env.frame = some L) (hk : env.scope.kind = .function)
    (hA : A' = gTop dp' un' gd' (gEnv scope cl C code (envc.qual ++ "<genexpr>.")) (env :: outer))
    (h : ∀ (G : Heap) (s : Shared) (mC : Str → Option Value) (rest : Led) (E' : Value → Shared → Prop), Below (gTop 0 0 none env outer) base (env :: outer) G → K.In G → Top p loose mean mg mb G → Pm mC → (∀ p ∈ led, p ∈ rest) → Fr G C s.heap mC → News G C s.heap rest →
      wpAny (model prog w) (gTop dp' un' gd' (gEnv scope cl C code (envc.qual ++ "<genexpr>.")) (env :: outer)) (eval t (gEnv scope cl C code (envc.qual ++ "<genexpr>."))) (fun v s' => Halt (∃ h' tk', s' = { s with heap := h', toks := tk' } ∧ Fr G C h' mC ∧ News G C h' rest ∧ Post v h')) E' s) :
    InGen prog w A' h₀ L m C led (eval t (genEnv scope cl C code builtinsNs envc)) Pm Post := by
  have e : genEnv scope cl C code builtinsNs envc = gEnv scope cl C code (envc.qual ++ "<genexpr>.") := by unfold genEnv gEnv; rw [hge]
  rw [e, hA]
  exact fun G s mC rest E' hp hs up n F N => h G s mC rest E' (below_gen B rfl hf hk hL up n) (X.keeps up) (T.keeps up) hp hs F N
theorem over0 {dp un : Nat} {gd : Option (List Code)} {env : Env} {outer : List Env} {e1 : Expr} {gs1 : List Comprehension} {sc1 : Scope} {p1 : Pos} {it acc : Value} {genv : Env} :
    ((gTop dp un gd env outer).in1.in1.over (.compLoop (.GeneratorExp e1 gs1 sc1 p1) 0 it acc genv) []) = gTop (dp + 1) (un + 5) ((gTop dp un gd env outer).in1.in1.over (.compLoop (.GeneratorExp e1 gs1 sc1 p1) 0 it acc genv) []).guards genv (env :: outer) := rfl
theorem over1 {dp un : Nat} {gd : Option (List Code)} {env : Env} {outer : List Env} {e1 : Expr} {gs1 : List Comprehension} {sc1 : Scope} {p1 p : Pos} {it it2 acc acc2 : Value} {genv : Env} {k : Result → Sem PySem.Fin} {l : List Value} :
    ((gTop dp un gd env outer).in1.in1.over (.compLoop (.GeneratorExp e1 gs1 sc1 p1) 1 it2 acc2 genv) [.ret k none false l (.compLoop (.GeneratorExp e1 gs1 sc1 p1) 0 it acc genv) p []]) = gTop (dp + 1) (un + 5) ((gTop dp un gd env outer).in1.in1.over (.compLoop (.GeneratorExp e1 gs1 sc1 p1) 1 it2 acc2 genv) [.ret k none false l (.compLoop (.GeneratorExp e1 gs1 sc1 p1) 0 it acc genv) p []]).guards genv (env :: outer) := rfl
theorem gname_builtin {M : Model} {A : Around} {E : Value → Shared → Prop} {s : Shared} {h₀ : Heap} {C L : Addr} {m : Str → Option Value} {x : Str} {v : Value} {pos : Pos} {scope : Scope} {cl : List (Str × Addr)} {code : Value} {qual : Str} {Q : Value → Shared → Prop} {K : Frag} {p : Program} {loose : List Str} {mean : ExcName → Option Value} {mg mb : Str → Option Value}
    (F : Fr h₀ L s.heap m) (X : K.In h₀) (T : Top p loose mean mg mb h₀) (e : nsIn K mainGlobals x = some none) (hv : bootBuiltins x = some v) (hn : x ≠ "__name__") (h : Q v s)
    (hk : scope.kind = .function := by rfl) (hx : (gEnv scope cl C code qual).kindOf x = some .globalImplicit := by rfl) (hd : (x == ("__debug__" : Str)) = false := by decide) :
    wpAny M A (eval (.Name x pos) (gEnv scope cl C code qual)) Q E s :=
  Name_function_global hk hx (loadGlobal_builtin (env := gEnv scope cl C code qual) (T.g.keeps F.keep) (mg_none_of X T.g e) (T.b.keeps F.keep) ((T.builtins x hn).trans hv) h) hd
end
section
example : True := by
  w_top off
  trivial
/-- a row, a matrix's data, a module, a matrix -/
inductive RowAt (w : World) (news : Led) (rg l : Addr) (c : Nat) (f : Nat → List Int) : Prop
  | mk (xs : List Addr) (e : Nat) (h1 : (l, lsO (xs.map Value.ref) e) ∈ news) (h2 : xs.length = c) (h3 : ∀ j x, xs[j]? = some x → PolyAt w news rg x (f j))
inductive DataAt (w : World) (news : Led) (rg l : Addr) (r c : Nat) (f : Nat → Nat → List Int) : Prop
  | mk (ls : List Addr) (e : Nat) (h1 : (l, lsO (ls.map Value.ref) e) ∈ news) (h2 : ls.length = r) (h3 : ∀ i x, ls[i]? = some x → RowAt w news rg x c (f i))
inductive ModAt (w : World) (news : Led) (md rg : Addr) : Prop
  | mk (dm : Addr) (t : Tok) (h1 : (md, instObj 233 dm) ∈ news) (h2 : (dm, dictOf [ent w (Str.ofString "ring") t (.ref rg)] 1) ∈ news)
inductive MatAt (w : World) (news : Led) (md rg x : Addr) (r c : Nat) (f : Nat → Nat → List Int) : Prop
  | mk (dx l : Addr) (t1 t2 t3 : Tok) (h1 : (x, instObj 196 dx) ∈ news) (h2 : (dx, dictOf [ent w (Str.ofString "parent") t1 (.ref md), ent w (Str.ofString "_data") t2 (.ref l), ent w (Str.ofString "_transpose") t3 (.bool false)] 3) ∈ news) (h3 : DataAt w news rg l r c f)
theorem RowAt.mono {w : World} {news news' : Led} {rg l : Addr} {c : Nat} {f : Nat → List Int} (h : RowAt w news rg l c f) (k : ∀ p ∈ news, p ∈ news') : RowAt w news' rg l c f :=
  let ⟨xs, e, h1, h2, h3⟩ := h; ⟨xs, e, k _ h1, h2, fun j x hx => (h3 j x hx).mono k⟩
theorem DataAt.mono {w : World} {news news' : Led} {rg l : Addr} {r c : Nat} {f : Nat → Nat → List Int} (h : DataAt w news rg l r c f) (k : ∀ p ∈ news, p ∈ news') : DataAt w news' rg l r c f :=
  let ⟨xs, e, h1, h2, h3⟩ := h; ⟨xs, e, k _ h1, h2, fun j x hx => (h3 j x hx).mono k⟩
theorem ModAt.mono {w : World} {news news' : Led} {md rg : Addr} (h : ModAt w news md rg) (k : ∀ p ∈ news, p ∈ news') : ModAt w news' md rg := let ⟨dm, t, h1, h2⟩ := h; ⟨dm, t, k _ h1, k _ h2⟩
theorem MatAt.mono {w : World} {news news' : Led} {md rg x : Addr} {r c : Nat} {f : Nat → Nat → List Int} (h : MatAt w news md rg x r c f) (k : ∀ p ∈ news, p ∈ news') : MatAt w news' md rg x r c f :=
  let ⟨dx, l, t1, t2, t3, h1, h2, h3⟩ := h; ⟨dx, l, t1, t2, t3, k _ h1, k _ h2, h3.mono k⟩
abbrev tupO (vs : List Value) : Obj := { cls := .type "tuple", data := .seq vs.toArray }
theorem at_ref {xs : List Addr} {i : Nat} (h : i < xs.length) : ∃ x, xs[i]? = some x ∧ (xs.map Value.ref)[i]? = some (.ref x) := ⟨xs[i], by simp [h], by simp [h]⟩
theorem retOne {R : Result → Shared → Prop} {news all : Led} {h₀ h' : Heap} {L : Addr} {m : Str → Option Value} {s : Shared} {tk' : Nat} {l : Addr} {o : Obj} {v : Value} {Out : Led → Value → Prop}
    (hret : ∀ r new h' tk', Fr h₀ L h' m → News h₀ L h' (new ++ news) → (∀ q ∈ new, ∀ p ∈ news, p.1 ≠ q.1) → Out new r → R (.ok (.ret r)) { s with heap := h', toks := tk' })
    (F : Fr h₀ L h' m) (N : News h₀ L h' all) (hl : (l, o) ∈ all) (hs : ∀ p ∈ news, p ∈ all) (a3 : ∀ p ∈ news, p.1 ≠ l) (hi : Out [(l, o)] v) : R (.ok (.ret v)) { s with heap := h', toks := tk' } :=
  hret _ [(l, o)] _ _ F (newsSub N (subCons hl hs)) (apCons a3 apNil) hi
theorem retNil {R : Result → Shared → Prop} {news all : Led} {h₀ h' : Heap} {L : Addr} {m : Str → Option Value} {s : Shared} {tk' : Nat} {v : Value} {Out : Led → Value → Prop}
    (hret : ∀ r new h' tk', Fr h₀ L h' m → News h₀ L h' (new ++ news) → (∀ q ∈ new, ∀ p ∈ news, p.1 ≠ q.1) → Out new r → R (.ok (.ret r)) { s with heap := h', toks := tk' })
    (F : Fr h₀ L h' m) (N : News h₀ L h' all) (hs : ∀ p ∈ news, p ∈ all) (hi : Out [] v) : R (.ok (.ret v)) { s with heap := h', toks := tk' } :=
  hret _ [] _ _ F (newsSub N hs) apNil hi
section
variable {w : World} {loose : List Str} {mean : ExcName → Option Value} {mg mb : Str → Option Value} {news : Led}
set_option maxHeartbeats 1000000 in
theorem mdim {md rg x : Addr} {r c : Nat} {f : Nat → Nat → List Int} (hx : MatAt w news md rg x r c f) (hr : 0 < r) (hr' : r < 2 ^ 20) (hc' : c < 2 ^ 20) :
    Goes w loose mean mg mb news 104 [.ref x] 3 40 (fun new v => ∃ T t1 t2, v = .ref T ∧ new = [(T, tupO [.int r t1, .int c t2])]) := by
  intro dp un gd env outer A₀ base h₀ L m s R B F X N T hf hk hdp hun hret
  obtain ⟨dx, l, t1, t2, t3, hx1, hx2, ls, e, hx3, hx4, hx5⟩ := hx
  obtain ⟨l0, hl0, hl0'⟩ := at_ref (xs := ls) (i := 0) (by omega)
  obtain ⟨xs, e', hx6, hx7, hx8⟩ := hx5 0 l0 hl0
  have hlen : ((ls.map Value.ref).length : Int) = r := by rw [List.length_map, hx4]
  have hlen' : ((xs.map Value.ref).length : Int) = c := by rw [List.length_map, hx7]
  k_dflt ktr_enter
  k_steps
  refine' retOne hret ?F ?N ?c ?s ?z ⟨_, _, _, rfl, rfl⟩
  (case F => assumption)
  (case N => assumption)
  (case c => k_mem)
  (case s => lcg_sub)
  (case z => k_offL)
set_option maxHeartbeats 1000000 in
theorem mget {old : Led} {md rg x T : Addr} {r c i j : Nat} {ti tj : Tok} {f : Nat → Nat → List Int} (hx : MatAt w old md rg x r c f) (ko : ∀ p ∈ old, p ∈ news) (hT : (T, tupO [.int i ti, .int j tj]) ∈ news) (hi : i < r) (hj : j < c) (hr : r < 2 ^ 20) (hc : c < 2 ^ 20) :
    Goes w loose mean mg mb news 133 [.ref x, .ref T] 3 40 (fun new v => new = [] ∧ ∃ y, v = .ref y ∧ PolyAt w old rg y (f i j)) := by
  intro dp un gd env outer A₀ base h₀ L m s R B F X N T hf hk hdp hun hret
  obtain ⟨dx, l, t1, t2, t3, hx1, hx2, ls, e, hx3, hx4, hx5⟩ := hx
  obtain ⟨l0, hl0, hl0'⟩ := at_ref (xs := ls) (i := i) (by omega)
  obtain ⟨xs, e', hx6, hx7, hx8⟩ := hx5 i l0 hl0
  obtain ⟨y, hy0, hy0'⟩ := at_ref (xs := xs) (i := j) (by omega)
  have hp := hx8 j y hy0
  have hx1 := ko _ hx1
  have hx2 := ko _ hx2
  have hx3 := ko _ hx3
  have hx6 := ko _ hx6
  k_dflt ktr_enter
  k_steps
  refine' retNil hret ?F ?N ?s ⟨rfl, _, rfl, hp⟩
  (case F => assumption)
  (case N => assumption)
  (case s => lcg_sub)
end
end
section
example : True := by
  w_top off
  trivial
theorem firstMet_one {val : Nat → Int} {c : Int} : ∀ n, (∀ i, i < n + 1 → val i = c) → PyProof.Rows.firstMet val (n + 1) = [c]
  | 0, h => by rw [firstMet_succ, firstMet_zero, h 0 (Nat.lt_succ_self _)]; rfl
  | n + 1, h => by
    rw [firstMet_succ, firstMet_one n (fun i hi => h i (Nat.lt_succ_of_lt hi)), h (n + 1) (Nat.lt_succ_self _)]
    simp [step_dedup]
def OneSet (o : Obj) : Prop := o.ExactSet ∧ ∃ es ep t, o.data = .set es ep t ∧ t.fits es.size = true ∧ es.size = 1
theorem set_led {prog : Program} {w : World} {A : Around} {E : Value → Shared → Prop} {s : Shared} {h₀ : Heap} {L l : Addr} {m : Str → Option Value} {news : Led} {vs : List Value} {e : Nat} {c : Int} {n : Nat} {Q : Value → Shared → Prop}
    (hh : A.handled = none) (F : Fr h₀ L s.heap m) (N : News h₀ L s.heap news) (hm : (l, lsO vs e) ∈ news) (hi : IntsAre vs (List.replicate (n + 1) c)) (hn : n < 2048)
    (h : ∀ D o h' tk, Fr h₀ L h' m → News h₀ L h' ((D, o) :: news) → (∀ p ∈ news, p.1 < D) → OneSet o → Q (.ref D) { s with heap := h', toks := tk }) : wpAny (model prog w) A (call (.type "set") [.ref l]) Q E s := by
  have hlen : vs.length = n + 1 := by have := hi.length; simpa using this
  refine call_set_list (items := vs.toArray) (ns := List.replicate (n + 1) c) hh ⟨_, (N _ hm).1, rfl, _, rfl⟩ (by simpa using hi) (by simp only [List.size_toArray, hlen]; exact Nat.lt_of_lt_of_le (Nat.succ_lt_succ (Nat.succ_lt_succ hn)) (by decide)) fun h' tk hS hk => ?_
  simp only [List.size_toArray, hlen] at hS
  rw [firstMet_one n (c := c) (fun i hi => by simp [List.getD_eq_getElem?_getD, List.getElem?_replicate, hi])] at hS
  obtain ⟨o, es, ep, t, ho, hex, hd, _, _, _, hf, hsz⟩ := hS
  have kp : ∀ b o, s.heap.get? b = some o → h'.get? b = some o := fun b o e => hk b o (Heap.lt_size e) e
  refine h _ o h' tk (F.keeps kp) (fun p hp => ?_) (fun p hp => Heap.lt_size (N p hp).1) ⟨hex, es, ep, t, hd, hf, hsz⟩
  rcases List.mem_cons.mp hp with rfl | hp
  · exact ⟨ho, Nat.ne_of_gt F.ns.lt, next_is_new F⟩
  · exact ⟨kp _ _ (N p hp).1, (N p hp).2⟩
theorem lenset_led {prog : Program} {w : World} {A : Around} {E : Value → Shared → Prop} {s : Shared} {h₀ : Heap} {L l : Addr} {news : Led} {o : Obj} {Q : Value → Shared → Prop}
    (N : News h₀ L s.heap news) (hm : (l, o) ∈ news) (ho : OneSet o) (h : Q (.int 1 (s.toks + 1)) { s with toks := s.toks + 1 + 1 }) : wpAny (model prog w) A (call (.builtin "len") [.ref l]) Q E s := by
  obtain ⟨hex, es, ep, t, hd, hf, hsz⟩ := ho
  refine call_len_set (N _ hm).1 hex hd hf (by omega) ?_
  rw [hsz]
  exact h
section
variable {w : World} {loose : List Str} {mean : ExcName → Option Value} {mg mb : Str → Option Value} {news : Led}
local macro_rules | `(tactic| walk_at "eval ListComp") => `(tactic| (k_here; refine halt ?_))
local macro_rules | `(tactic| walk_at "call type:set") => `(tactic| (k_here; refine halt ?_))
local macro_rules | `(tactic| walk_at "call builtin:len") => `(tactic| (k_here; k_dflt (refine lenset_led (by k_asm) (by k_mem) (by assumption) ?_; k_whole)))
set_option maxHeartbeats 1000000 in
theorem mcheck {md rg x : Addr} {r c : Nat} {f : Nat → Nat → List Int} (hx : MatAt w news md rg x r c f) (hr : 0 < r) (hr' : r < 2 ^ 11) (hc' : c < 2 ^ 20) :
    Goes w loose mean mg mb news 97 [.ref x] 6 60 (fun new v => new = [] ∧ v = .bool true) := by
  intro dp un gd env outer A₀ base h₀ L m s R B F X N T hf hk hdp hun hret
  obtain ⟨dx, l, t1, t2, t3, hx1, hx2, ls, e, hx3, hx4, hx5⟩ := hx
  k_dflt ktr_enter
  k_steps
  refine Halt.go ?_
  k_dflt (refine comp_expr (by k_asm) (by with_unfolding_all rfl) (by rfl) (by decide) ?_)
  k_steps
  refine src_listR (IntEl fun _ => (c : Int)) (by rfl) (by k_asm) (by k_asm) (by k_mem) hx4 (by omega) (by rfl) (by rfl) (fun _ => by rfl) ?turn ?fin
  (case turn =>
    intro C i g y oC m₂ led h tk E' hi hy hC hm2 qC hs F' N'
    obtain ⟨xs, e', hx6, hx7, hx8⟩ := hx5 i y hy
    have hlen' : ((xs.map Value.ref).length : Int) = c := by rw [List.length_map, hx7]
    k_steps
    exact ⟨_, _, [], rfl, by assumption, by assumption, apNil, rfl, _, rfl⟩)
  intro g
  unfold FinG
  intro D h tk ys new F' N' oD ap hd
  have hx98 : ∃ n, r = n + 1 := ⟨r - 1, by omega⟩
  obtain ⟨n, rfl⟩ := hx98
  have hI : IntsAre ys (List.replicate (n + 1) (c : Int)) := hd.ints (by rw [List.length_replicate]) fun i hi => by
    simp [List.getD_eq_getElem?_getD, List.getElem?_replicate, hi]
  k_steps
  refine Halt.go ?_
  k_dflt (refine set_led (by rfl) (by k_asm) (by k_asm) (by k_mem) hI (by omega) ?_)
  intro D2 o2 h2 tk2 F2 N2 l2 hO
  clear N' F'
  k_steps
  refine' retNil hret ?F ?N ?s ⟨rfl, rfl⟩
  (case F => assumption)
  (case N => assumption)
  (case s => lcg_sub)
end
end
section
section
variable {w : World} {rg D : Addr}
abbrev PolyEl (w : World) (rg : Addr) (f : Nat → List Int) (j : Nat) (y : Value) (part : Led) : Prop := ∃ z, y = .ref z ∧ PolyAt w part rg z (f j)
abbrev RowEl (w : World) (rg : Addr) (c : Nat) (f : Nat → Nat → List Int) (i : Nat) (y : Value) (part : Led) : Prop := ∃ D, y = .ref D ∧ RowAt w part rg D c (f i)
theorem refs_of {P : Nat → Addr → Prop} : ∀ {ys : List Value}, (∀ i y, ys[i]? = some y → ∃ z, y = Value.ref z ∧ P i z) → ∃ xs : List Addr, ys = xs.map Value.ref ∧ ∀ i z, xs[i]? = some z → P i z := by
  intro ys
  induction ys generalizing P with
  | nil => intro _; exact ⟨[], rfl, fun i z h => by simp at h⟩
  | cons y ys ih =>
    intro h
    obtain ⟨z, rfl, hz⟩ := h 0 y rfl
    obtain ⟨xs, rfl, hx⟩ := ih (P := fun i => P (i + 1)) fun i y hy => h (i + 1) y (by simpa using hy)
    refine ⟨z :: xs, rfl, fun i u hu => ?_⟩
    cases i with
    | zero => simp at hu; subst hu; exact hz
    | succ i => exact hx i u (by simpa using hu)
theorem rowOf {c : Nat} {f : Nat → List Int} {ys : List Value} {new : Led} (hd : CompDone (PolyEl w rg f) c ys new) : RowAt w ((D, LCg.lst ys) :: new) rg D c f := by
  obtain ⟨hl, hy⟩ := hd
  obtain ⟨xs, rfl, hx⟩ := refs_of (P := fun i z => PolyAt w ((D, LCg.lst ys) :: new) rg z (f i)) fun i y h => by
    obtain ⟨part, hp, z, e, hz⟩ := hy i y h
    exact ⟨z, e, hz.mono fun p hq => List.mem_cons_of_mem _ (hp p hq)⟩
  exact ⟨xs, _, List.mem_cons_self, by rw [← hl, List.length_map], hx⟩
theorem dataOf {r c : Nat} {f : Nat → Nat → List Int} {ys : List Value} {new : Led} (hd : CompDone (RowEl w rg c f) r ys new) : DataAt w ((D, LCg.lst ys) :: new) rg D r c f := by
  obtain ⟨hl, hy⟩ := hd
  obtain ⟨xs, rfl, hx⟩ := refs_of (P := fun i z => RowAt w ((D, LCg.lst ys) :: new) rg z c (f i)) fun i y h => by
    obtain ⟨part, hp, z, e, hz⟩ := hy i y h
    exact ⟨z, e, hz.mono fun p hq => List.mem_cons_of_mem _ (hp p hq)⟩
  exact ⟨xs, _, List.mem_cons_self, by rw [← hl, List.length_map], hx⟩
end
section
variable {h₀ : Heap} {L : Addr} {m : Str → Option Value} {s : Shared} {led led' : Led} {F : Value → Led → Prop}
theorem turnEnd_new {h' : Heap} {tk' : Nat} {new : Led} {y : Value} (F' : Fr h₀ L h' m) (N' : News h₀ L h' (new ++ led')) (A : ∀ q ∈ new, ∀ p ∈ led', p.1 ≠ q.1) (k : ∀ p ∈ led, p ∈ led') (hy : F y new) : TurnEnd h₀ L m s led F y { s with heap := h', toks := tk' } :=
  ⟨_, _, new, rfl, F', newsSub N' (fun p hp => (List.mem_append.mp hp).elim (List.mem_append_left _) fun h => List.mem_append_right _ (k p h)), fun p hp q hq => A p hp q (k q hq), hy⟩
/-- a turn whose element is a comprehension -/
theorem turnEnd_comp {w : World} {rg D : Addr} {c : Nat} {f : Nat → Nat → List Int} {i : Nat} {h' : Heap} {tk' : Nat} {ys : List Value} {new : Led} (F' : Fr h₀ L h' m) (N' : News h₀ L h' ((D, LCg.lst ys) :: (new ++ led'))) (oD : ∀ p ∈ new ++ led', p.1 ≠ D) (ap : ∀ p ∈ new, ∀ q ∈ led', q.1 ≠ p.1) (k : ∀ p ∈ led, p ∈ led') (hd : CompDone (PolyEl w rg (f i)) c ys new) :
    TurnEnd h₀ L m s led (RowEl w rg c f i) (.ref D) { s with heap := h', toks := tk' } :=
  ⟨_, _, (D, LCg.lst ys) :: new, rfl, F', newsSub N' (fun p hp => (List.mem_cons.mp hp).elim (fun e => e ▸ List.mem_cons_self) fun hp => List.mem_cons_of_mem _ ((List.mem_append.mp hp).elim (List.mem_append_left _) fun h => List.mem_append_right _ (k p h))),
    fun p hp q hq => (List.mem_cons.mp hp).elim (fun e => by rw [e]; exact oD q (List.mem_append_right _ (k q hq))) fun hp => ap p hp q (k q hq), D, rfl, rowOf hd⟩
end
end
section
section
variable {prog : Program} {w : World} {A : Around} {E : Value → Shared → Prop} {s : Shared} {h₀ : Heap} {L x dx : Addr} {m : Str → Option Value} {news : Led} {Q : Value → Shared → Prop}
theorem int_add_other {o : Obj} {a : Int} {t : Tok} (hx : s.heap.get? x = some o) (hd : o.data = .plain) {Q : Value → Shared → Prop} (hq : Q .notImplemented s) : wpAny (model prog w) A (Builtin.«int.__add__» ⟨[.int a t, .ref x], []⟩) (fun fin s' => ∃ v, fin = .done (.ret v) ∧ Q v s') E s := by
  have e : asInt? (.ref x) = (do match (← load x).data with | .prim (.int i _) => pure (some i) | _ => pure none) := rfl
  have e2 : Builtin.«int.__add__» ⟨[.int a t, .ref x], []⟩ = (do
     let some y ← asInt? (.ref x) | rule "int.binary.not-an-int"; ret .notImplemented
     retInt (a + y)) := rfl
  rw [e2, e]
  refine wpAny_bind (wpAny_bind (wpAny_load hx ?_))
  rw [hd]
  exact wpAny_pure (wpAny_bind (wpAny_rule (wpAny_pure ⟨_, rfl, hq⟩)))
theorem int_add_call {o : Obj} {a : Int} {t : Tok} (hx : s.heap.get? x = some o) (hd : o.data = .plain) {Q : Value → Shared → Prop} (hq : Q .notImplemented s) : wpAny (model prog w) A (call (.builtin "int.__add__") [.int a t, .ref x]) Q E s := by
  refine wpAny_call_entry (T := "int") (name := PySem.dunder "add") (id := "int.__add__") (b := Builtin.«int.__add__») (self := .int a t) (rest := [.ref x]) ?_ ?_ ?_ ?_ ?_
  · exact PySem.slot_int_add
  · exact PySem.typeIs_int s a t
  · exact PySem.entry_int_add
  · exact int_add_other hx hd hq
  · exact PySem.args_int_add _ _
theorem int_add_declines {o : Obj} {a : Int} {t : Tok} {Q : Option Value → Shared → Prop} (hx : s.heap.get? x = some o) (hd : o.data = .plain) (hq : Q none s) : wpAny (model prog w) A (tryMethod (.int a t) (PySem.dunder "add") (.ref x)) Q E s := by
  refine wpAny_tryMethod_declines (T := "int") (id := "int.__add__") ?_ ?_ ?_
  · exact PySem.typeIs_int s a t
  · exact PySem.slot_int_add
  · exact int_add_call hx hd ⟨rfl, hq⟩
theorem wIteN {M : Model} {α : Type} {c : Prop} [Decidable c] {a b : Sem α} {Q : α → Shared → Prop} (hc : ¬c) (h : wpAny M A b Q E s) : wpAny M A (if c then a else b) Q E s := by rw [if_neg hc]; exact h
theorem wIteY {M : Model} {α : Type} {c : Prop} [Decidable c] {a b : Sem α} {Q : α → Shared → Prop} (hc : c) (h : wpAny M A a Q E s) : wpAny M A (if c then a else b) Q E s := by rw [if_pos hc]; exact h
set_option maxHeartbeats 1000000 in
/-- an int and a polynomial: the polynomial's __radd__ is asked -/
theorem radd_int {od : Obj} {a : Int} {t : Tok} (F : Fr h₀ L s.heap m) (X₀ : (hd.heap_1 w.params).In h₀) (N : News h₀ L s.heap news) (hm : (x, instObj 445 dx) ∈ news) (hd : (dx, od) ∈ news)
    (h : wpAny (model prog w) A (call (.ref 369) [.ref x, .int a t]) (PySem.W.CmpBack Q) E s) : wpAny (model prog w) A (binaryOp .Add (.int a t) (.ref x)) Q E s := by
  have X := X₀.keeps F.keep
  have I : InstAt s.heap x (instObj 445 dx) 445 (some od) := InstAt.of_news N hm hd
  obtain ⟨cd, rest, hcd, hmro⟩ := ksp_first (K := Mine.hd.heap_1 w.params) (C := 445) (by k_is)
  have hs : findIn (Mine.hd.heap_1 w.params) (.ref 445) (PySem.dunder "add") = some (some (.ref 362)) := by k_is
  have hr : findIn (Mine.hd.heap_1 w.params) (.ref 445) (dunderR "add") = some (some (.ref 369)) := by k_is
  have hf : isFn (Mine.hd.heap_1 w.params) (.ref 369) = true := by k_is
  have hsub : subIn (Mine.hd.heap_1 w.params) (.ref 445) (.type "int") = some false := by k_is
  have one := ksp_try (name := dunderR "add") X I hr hf h
  unfold binaryOp
  refine wpAny_holding (wpAny_bind ?_)
  unfold binaryOp1
  refine wpAny_bind (wpAny_of_eq (a := .type "int") rfl ?_)
  refine wpAny_bind (I.type.here ?_)
  refine wpAny_bind (wpAny_of_eq fills_int_add ?_)
  have hne : ¬ (Value.type "int" == Value.ref 445) = true := fun q => by cases beq_iff_eq.mp q
  refine wIteN hne ?_
  refine wpAny_bind ((fills_K X hcd hmro hs).here ?_)
  refine (wIteY rfl ?_)
  refine wpAny_bind ((looks_subIn X hsub).here ?_)
  refine (wIteN Bool.false_ne_true ?_)
  refine (wIteN Bool.false_ne_true ?_)
  refine wIteY rfl ?_
  refine wpAny_bind (wpAny_of_eq (a := false) rfl ?_)
  refine (wIteN Bool.false_ne_true ?_)
  refine (wIteY rfl ?_)
  refine wpAny_bind (int_add_declines (N _ hm).1 rfl ?_)
  refine wpAny_bind (wpAny_mono one (fun r s' z => ?_) fun _ _ e => e)
  obtain ⟨v, rfl, hq⟩ := z
  exact wpAny_bind (wpAny_rule (wpAny_pure (wpAny_pure hq)))
end
end
section
example : True := by
  w_top off
  trivial
section
variable {w : World} {loose : List Str} {mean : ExcName → Option Value} {mg mb : Str → Option Value} {news : Led}
set_option maxHeartbeats 1000000 in
theorem addmod {rg x : Addr} {q n a b : Int} {cs : List Int} {ta tb : Tok} (hR : RingAt w news rg q n) (hx : PolyAt w news rg x cs) (hq : 0 < q) :
    Goes w loose mean mg mb news 333 [.ref x, .int a ta, .int b tb] 3 20 (fun new r => new = [] ∧ ∃ t, r = .int ((a + b) % q) t) := by
  intro dp un gd env outer A₀ base h₀ L m s R B F X N T hf hk hdp hun hret
  obtain ⟨dr, r1, r2, r3, r4, hr1, hr2⟩ := hR
  obtain ⟨dx, lx, ex, x1, x2, vx, hx1, hx2, hx3, hx4⟩ := hx
  have hq0 : q ≠ 0 := by omega
  k_dflt ktr_enter
  k_steps
  refine' hret _ [] _ _ ?F ?N apNil ⟨rfl, _, ?e⟩
  (case F => assumption)
  (case N => assumption)
  (case e => rw [Int.fmod_eq_emod_of_nonneg _ (by omega)])
set_option maxHeartbeats 1000000 in
theorem submod {rg x : Addr} {q n a b : Int} {cs : List Int} {ta tb : Tok} (hR : RingAt w news rg q n) (hx : PolyAt w news rg x cs) (hq : 0 < q) :
    Goes w loose mean mg mb news 340 [.ref x, .int a ta, .int b tb] 3 20 (fun new r => new = [] ∧ ∃ t, r = .int ((a - b) % q) t) := by
  intro dp un gd env outer A₀ base h₀ L m s R B F X N T hf hk hdp hun hret
  obtain ⟨dr, r1, r2, r3, r4, hr1, hr2⟩ := hR
  obtain ⟨dx, lx, ex, x1, x2, vx, hx1, hx2, hx3, hx4⟩ := hx
  have hq0 : q ≠ 0 := by omega
  k_dflt ktr_enter
  k_steps
  refine' hret _ [] _ _ ?F ?N apNil ⟨rfl, _, ?e⟩
  (case F => assumption)
  (case N => assumption)
  (case e => rw [Int.fmod_eq_emod_of_nonneg _ (by omega)])
end
end
section
local macro_rules | `(tactic| walk_at "pad") => `(tactic| skip)
example : True := by
  w_top off
  trivial
section
variable {w : World} {loose : List Str} {mean : ExcName → Option Value} {mg mb : Str → Option Value} {news : Led}
set_option maxHeartbeats 1000000 in
theorem ringCall {rg l : Addr} {q n : Int} {vs : List Value} {e : Nat} {cs : List Int} (hR : RingAt w news rg q n) (hl : (l, lsO vs e) ∈ news) (hi : IntsAre vs cs) (hlen : (cs.length : Int) = n) (hn : n < 2 ^ 62) :
    Goes w loose mean mg mb news 272 [.ref rg, .ref l] 6 40 (fun new r => ∃ x dx t1 t2, r = .ref x ∧ new = [(x, instObj 445 dx), (dx, dictOf [ent w (Str.ofString "parent") t1 (.ref rg), ent w (Str.ofString "coeffs") t2 (.ref l)] 2)]) := by
  intro dp un gd env outer A₀ base h₀ L m s R B F X N T hf hk hdp hun hret
  obtain ⟨dr, r1, r2, r3, r4, hr1, hr2⟩ := hR
  have hvl : (vs.length : Int) = n := by rw [hi.length]; exact hlen
  k_dflt ktr_enter
  k_steps
  refine' hret _ [_, _] _ _ ?F ?N ?A ⟨_, _, _, _, rfl, rfl⟩
  (case F => assumption)
  (case N => assumption)
  (case A => lcg_src)
theorem useRing {dp un : Nat} {gd : Option (List Code)} {env : Env} {outer : List Env} {A₀ : Around} {base h₀ : Heap} {L : Addr} {m : Str → Option Value} {s : Shared} {R : Result → Shared → Prop} {rg l : Addr} {q n : Int} {vs : List Value} {e : Nat} {cs : List Int}
    (F : Fr h₀ L s.heap m) (B : Below A₀ base outer h₀) (X : (hd.heap_1 w.params).In h₀) (N : News h₀ L s.heap news) (T : Top topProg loose mean mg mb h₀) (hf : env.frame = some L) (hk : env.scope.kind = .function) (hR : RingAt w news rg q n) (hl : (l, lsO vs e) ∈ news) (hi : IntsAre vs cs) (hlen : (cs.length : Int) = n) (hn : n < 2 ^ 62) (hd : dp + 6 < recursionLimit) (hu : un + 40 < cLine)
    (ret : ∀ x dx t1 t2 h' tk', Fr h₀ L h' m → News h₀ L h' ((x, instObj 445 dx) :: (dx, dictOf [ent w (Str.ofString "parent") t1 (.ref rg), ent w (Str.ofString "coeffs") t2 (.ref l)] 2) :: news) → (∀ p ∈ news, p.1 ≠ x) → (∀ p ∈ news, p.1 ≠ dx) → R (.ok (.ret (.ref x))) { s with heap := h', toks := tk' }) :
    codeAny (model PySem.Challenge.pw_ay0011_01 w) (gTop dp un gd env outer) (.call (.ref 272) ⟨[.ref rg, .ref l], []⟩) R s :=
  useGoesC B F X N T hf hk (ringCall hR hl hi hlen hn) hd hu fun _ _ h' tk' F N A ⟨x, dx, t1, t2, e1, e2⟩ => by
    subst e1 e2
    exact ret x dx t1 t2 h' tk' F N (A _ List.mem_cons_self) (A _ (.tail _ List.mem_cons_self))
end
end
section
example : True := by
  w_top off
  trivial
section
variable {w : World} {loose : List Str} {mean : ExcName → Option Value} {mg mb : Str → Option Value} {news : Led}
local macro_rules | `(tactic| walk_at "call ref") => `(tactic| (k_here; kco_any "__call__"; kco_here; k_dflt (refine wpAny_call ?_; refine kco_code (by k_in) (by k_inst) rfl (by k_is) (by k_is) (by k_is) ?_; (try dsimp only); refine halt ?_)))
local macro_rules | `(tactic| walk_at "exec Assign cons ListComp") => `(tactic| (k_here; refine halt ?_))
local macro_rules | `(tactic| walk_at "call type:zip") => `(tactic| (k_here; refine halt ?_))
set_option maxHeartbeats 1000000 in
theorem addp {rg x y : Addr} {q n : Int} {as bs : List Int} (hR : RingAt w news rg q n) (hx : PolyAt w news rg x as) (hy : PolyAt w news rg y bs) (hq : 0 < q) (ha : (as.length : Int) = n) (hb : (bs.length : Int) = n) (hn : n < 2 ^ 20) :
    Goes w loose mean mg mb news 362 [.ref x, .ref y] 12 90 (fun new r => ∃ z, r = .ref z ∧ PolyAt w new rg z (List.zipWith (fun a b => (a + b) % q) as bs)) := by
  intro dp un gd env outer A₀ base h₀ L m s R B F X N T hf hk hdp hun hret
  have hxc333 : HaltCall 333 := .mk
  have hR' := hR
  have hx' := hx
  obtain ⟨dr, r1, r2, r3, r4, hr1, hr2⟩ := hR
  obtain ⟨dx, lx, ex, x1, x2, vx, hx1, hx2, hx3, hx4⟩ := hx
  obtain ⟨dy, ly, ey, y1, y2, vy, hy1, hy2, hy3, hy4⟩ := hy
  k_dflt ktr_enter
  k_steps <;> repeat' (first | (refine Halt.go ?_; (with_reducible show wpAny _ _ (call (Value.ref 333) _) _ _ _); k_dflt (refine useNilA (by k_asm) (by k_asm) (by k_asm) (by k_asm) (by k_asm) (by kpt_hd) (by kpt_hd) (addmod (by exact RingAt.mono (by with_reducible assumption) (by lcg_sub)) (by exact PolyAt.mono (by with_reducible assumption) (by lcg_sub)) (by with_reducible assumption)) (by k_room) (by k_units) ?_; k_whole); k_dflt (intro t9 h9 tk9 F9 N9; (try dsimp only [List.nil_append, List.cons_append] at N9); (try k_sweep)); k_steps) | (refine Halt.go ?_; (with_reducible show codeAny _ _ (.call (.ref 272) _) _ _); k_dflt (refine useRing (by k_asm) (by k_asm) (by k_asm) (by k_asm) (by k_asm) (by kpt_hd) (by kpt_hd) (by exact RingAt.mono (by assumption) (by lcg_sub)) (by k_mem) (by first | assumption | exact IntsAre.cons _ _ (by assumption) | exact IntsAre.cons _ _ (IntsAre.cons _ _ .nil) | exact IntsAre.cons _ _ (IntsAre.cons _ _ (IntsAre.cons _ _ .nil))) (by first | assumption | (simp only [List.length_cons, List.length_nil] at *; omega)) (by omega) (by k_room) (by k_units) ?_; k_whole); k_dflt (intro x9 d9 t9 u9 h9 tk9 F9 N9 b9 c9; (try k_sweep)); k_steps))
  refine Halt.go ?_
  k_dflt (refine comp_assign (by k_asm) (by rfl) (by with_unfolding_all rfl) (by with_unfolding_all rfl) (by rfl) (by decide) (by rfl) (by rfl) ?_)
  k_steps <;> repeat' (first | (refine Halt.go ?_; (with_reducible show wpAny _ _ (call (Value.ref 333) _) _ _ _); k_dflt (refine useNilA (by k_asm) (by k_asm) (by k_asm) (by k_asm) (by k_asm) (by kpt_hd) (by kpt_hd) (addmod (by exact RingAt.mono (by with_reducible assumption) (by lcg_sub)) (by exact PolyAt.mono (by with_reducible assumption) (by lcg_sub)) (by with_reducible assumption)) (by k_room) (by k_units) ?_; k_whole); k_dflt (intro t9 h9 tk9 F9 N9; (try dsimp only [List.nil_append, List.cons_append] at N9); (try k_sweep)); k_steps) | (refine Halt.go ?_; (with_reducible show codeAny _ _ (.call (.ref 272) _) _ _); k_dflt (refine useRing (by k_asm) (by k_asm) (by k_asm) (by k_asm) (by k_asm) (by kpt_hd) (by kpt_hd) (by exact RingAt.mono (by assumption) (by lcg_sub)) (by k_mem) (by first | assumption | exact IntsAre.cons _ _ (by assumption) | exact IntsAre.cons _ _ (IntsAre.cons _ _ .nil) | exact IntsAre.cons _ _ (IntsAre.cons _ _ (IntsAre.cons _ _ .nil))) (by first | assumption | (simp only [List.length_cons, List.length_nil] at *; omega)) (by omega) (by k_room) (by k_units) ?_; k_whole); k_dflt (intro x9 d9 t9 u9 h9 tk9 F9 N9 b9 c9; (try k_sweep)); k_steps))
  refine Halt.go ?_
  have hvx := hx4.length
  have hvy := hy4.length
  have hlen : (((List.zipWith (fun a b => (a + b) % q) as bs)).length : Int) = n := by rw [List.length_zipWith]; omega
  refine src_zipI (n := as.length) (IntEl fun i => (as.getD i 0 + bs.getD i 0) % q) (by rfl) (by k_asm) (by k_asm) (by k_mem) (by k_mem) hx4 hy4 rfl (by omega) (by omega) (by rfl) (by rfl) (by rfl) (by decide) (fun _ => by rfl) ?turn ?fin
  (case turn =>
    intro C i g t1 t2 oC m₂ led h tk E' hi hC hx1 hx2 qC hs F' N'
    k_steps <;> repeat' (first | (refine Halt.go ?_; (with_reducible show wpAny _ _ (call (Value.ref 333) _) _ _ _); k_dflt (refine useNilA (by k_asm) (by k_asm) (by k_asm) (by k_asm) (by k_asm) (by kpt_hd) (by kpt_hd) (addmod (by exact RingAt.mono (by with_reducible assumption) (by lcg_sub)) (by exact PolyAt.mono (by with_reducible assumption) (by lcg_sub)) (by with_reducible assumption)) (by k_room) (by k_units) ?_; k_whole); k_dflt (intro t9 h9 tk9 F9 N9; (try dsimp only [List.nil_append, List.cons_append] at N9); (try k_sweep)); k_steps) | (refine Halt.go ?_; (with_reducible show codeAny _ _ (.call (.ref 272) _) _ _); k_dflt (refine useRing (by k_asm) (by k_asm) (by k_asm) (by k_asm) (by k_asm) (by kpt_hd) (by kpt_hd) (by exact RingAt.mono (by assumption) (by lcg_sub)) (by k_mem) (by first | assumption | exact IntsAre.cons _ _ (by assumption) | exact IntsAre.cons _ _ (IntsAre.cons _ _ .nil) | exact IntsAre.cons _ _ (IntsAre.cons _ _ (IntsAre.cons _ _ .nil))) (by first | assumption | (simp only [List.length_cons, List.length_nil] at *; omega)) (by omega) (by k_room) (by k_units) ?_; k_whole); k_dflt (intro x9 d9 t9 u9 h9 tk9 F9 N9 b9 c9; (try k_sweep)); k_steps))
    exact ⟨_, _, [], rfl, by assumption, by assumption, apNil, rfl, _, rfl⟩)
  intro g
  unfold FinGA
  intro D h tk ys new F' N' oD ap hd
  have hI : IntsAre ys (List.zipWith (fun a b => (a + b) % q) as bs) := hd.ints (by rw [List.length_zipWith]; omega) fun i hi => by
    simp only [List.getD_eq_getElem?_getD, List.getElem?_zipWith]
    have h1 : i < as.length := hi
    have h2 : i < bs.length := by omega
    simp [List.getElem?_eq_getElem h1, List.getElem?_eq_getElem h2]
  k_steps <;> repeat' (first | (refine Halt.go ?_; (with_reducible show wpAny _ _ (call (Value.ref 333) _) _ _ _); k_dflt (refine useNilA (by k_asm) (by k_asm) (by k_asm) (by k_asm) (by k_asm) (by kpt_hd) (by kpt_hd) (addmod (by exact RingAt.mono (by with_reducible assumption) (by lcg_sub)) (by exact PolyAt.mono (by with_reducible assumption) (by lcg_sub)) (by with_reducible assumption)) (by k_room) (by k_units) ?_; k_whole); k_dflt (intro t9 h9 tk9 F9 N9; (try dsimp only [List.nil_append, List.cons_append] at N9); (try k_sweep)); k_steps) | (refine Halt.go ?_; (with_reducible show codeAny _ _ (.call (.ref 272) _) _ _); k_dflt (refine useRing (by k_asm) (by k_asm) (by k_asm) (by k_asm) (by k_asm) (by kpt_hd) (by kpt_hd) (by exact RingAt.mono (by assumption) (by lcg_sub)) (by k_mem) (by first | assumption | exact IntsAre.cons _ _ (by assumption) | exact IntsAre.cons _ _ (IntsAre.cons _ _ .nil) | exact IntsAre.cons _ _ (IntsAre.cons _ _ (IntsAre.cons _ _ .nil))) (by first | assumption | (simp only [List.length_cons, List.length_nil] at *; omega)) (by omega) (by k_room) (by k_units) ?_; k_whole); k_dflt (intro x9 d9 t9 u9 h9 tk9 F9 N9 b9 c9; (try k_sweep)); k_steps))
  refine' retPoly hret ?F ?N ?a ?b ?c hI ?s ?x ?y ?z
  (case F => assumption)
  (case N => assumption)
  (case a => k_mem)
  (case b => k_mem)
  (case c => k_mem)
  (case s => lcg_sub)
  (case x => k_offL)
  (case y => k_offL)
  (case z => k_offL)
end
end
section
example : True := by
  w_top off
  trivial
section
variable {w : World} {loose : List Str} {mean : ExcName → Option Value} {mg mb : Str → Option Value} {news : Led}
set_option maxHeartbeats 1000000 in
theorem isElem {rg x : Addr} {q n : Int} (hR : RingAt w news rg q n) (hx : PolyIs news x) :
    Goes w loose mean mg mb news 279 [.ref rg, .ref x] 3 30 (fun new r => new = [] ∧ r = .bool true) := by
  intro dp un gd env outer A₀ base h₀ L m s R B F X N T hf hk hdp hun hret
  obtain ⟨dr, r1, r2, r3, r4, hr1, hr2⟩ := hR
  obtain ⟨dx, es, ne, hx1, hx2⟩ := hx
  k_dflt ktr_enter
  k_steps
  exact hret _ [] _ _ (by assumption) (by assumption) apNil ⟨rfl, rfl⟩
set_option maxHeartbeats 1000000 in
theorem polyEq {rg x y : Addr} {as bs : List Int} (hx : PolyAt w news rg x as) (hy : PolyAt w news rg y bs) (hl : as.length < 2 ^ 20) (hl' : bs.length < 2 ^ 20) :
    Goes w loose mean mg mb news 435 [.ref x, .ref y] 3 130 (fun new r => new = [] ∧ r = .bool (decide (as = bs))) := by
  intro dp un gd env outer A₀ base h₀ L m s R B F X N T hf hk hdp hun hret
  obtain ⟨dx, lx, ex, x1, x2, vx, hx1, hx2, hx3, hx4⟩ := hx
  obtain ⟨dy, ly, ey, y1, y2, vy, hy1, hy2, hy3, hy4⟩ := hy
  k_dflt ktr_enter
  k_steps
  exact hret _ [] _ _ (by assumption) (by assumption) apNil ⟨rfl, rfl⟩
end
end
section
example : True := by
  w_top off
  trivial
/-- a call that may run generators: the three code tables move -/
def GoesG (w : World) (loose : List Str) (mean : ExcName → Option Value) (mg mb : Str → Option Value) (news : Led) (f : Addr) (args : Args) (d u : Nat) (Out : Led → Value → Prop) : Prop :=
  ∀ (dp un : Nat) (gd : Option (List Code)) (env : Env) (outer : List Env) (A₀ : Around) (base h₀ : Heap) (L : Addr) (m : Str → Option Value) (s : Shared) (R : Result → Shared → Prop) (o1 o2 o3 : Obj),
    IsTab o1 → IsTab o2 → IsTab o3 → Below A₀ base outer h₀ → Fr h₀ L s.heap m → (hd.heap_1 w.params).In h₀ → News h₀ L s.heap ((142, o1) :: (178, o2) :: (225, o3) :: news) → (∀ p ∈ news, p.1 ≠ 142) → (∀ p ∈ news, p.1 ≠ 178) → (∀ p ∈ news, p.1 ≠ 225) → AllBare s.gens →
    Top topProg loose mean mg mb h₀ → env.frame = some L → env.scope.kind = .function → dp + d < recursionLimit → un + u < cLine →
    (∀ r new h' tk' gs' o1' o2' o3', IsTab o1' → IsTab o2' → IsTab o3' → Fr h₀ L h' m → News h₀ L h' (new ++ ((142, o1') :: (178, o2') :: (225, o3') :: news)) → (∀ q ∈ new, ∀ p ∈ (142, o1) :: (178, o2) :: (225, o3) :: news, p.1 ≠ q.1) → AllBare gs' → Out new r → R (.ok (.ret r)) { s with heap := h', toks := tk', gens := gs' }) →
    codeAny (model PySem.Challenge.pw_ay0011_01 w) (gTop dp un gd env outer) (.call (.ref f) args) R s
def CallArgs (w : World) (args : Args) (md d : Addr) : Prop := ∀ (s : Shared) (oc : Value) (od : Option Addr) (fd : FuncData) (osl : Array (Option Value)), (hd.heap_1 w.params).lookup 230 = some ⟨oc, od, .func fd, osl⟩ → (hd.heap_1 w.params).In s.heap →
  BindsTo s fd args [(Str.ofString "self", .ref md), (Str.ofString "matrix_elements", .ref d), (Str.ofString "transpose", .bool false)]
section
variable {w : World} {loose : List Str} {mean : ExcName → Option Value} {mg mb : Str → Option Value} {news : Led}
local macro_rules | `(tactic| walk_at "exec For") => `(tactic| (k_here; refine halt ?_))
local macro_rules | `(tactic| walk_at "eval GeneratorExp") => `(tactic| (k_here; refine halt ?_))
local macro_rules | `(tactic| walk_at "pyIter ref") => `(tactic| (k_here; refine halt ?_))
local macro_rules | `(tactic| walk_at "call builtin:all") => `(tactic| (k_here; refine halt ?_))
local macro_rules | `(tactic| walk_at "eval Name") => `(tactic| (k_here; (with_reducible show wpAny _ _ (eval (Expr.Name _ _) (gEnv _ _ _ _ _)) _ _ _); k_dflt (first | (refine gname_free (by k_asm) (by rfl) (by k_mem) (by k_asm) ?_ (by rfl) (by rfl); k_whole) | (refine gname_local (by k_asm) (by assumption) ?_ (by rfl) (by rfl); k_whole))))
set_option maxHeartbeats 1000000 in
theorem mcallO {old : Led} {md rg d : Addr} {q n : Int} {r c : Nat} {f : Nat → Nat → List Int} {args : Args} (ko : ∀ p ∈ old, p ∈ news) (ha : CallArgs w args md d) (hM : ModAt w old md rg) (hR : RingAt w old rg q n) (hx : DataAt w old rg d r c f) (hr : 0 < r) (hr' : r < 2 ^ 11) (hc' : c < 2 ^ 20) :
    GoesG w loose mean mg mb news 230 args 20 200 (fun new v => ∃ z, v = .ref z ∧ MatAt w (new ++ old) md rg z r c f) := by
  intro dp un gd env outer A₀ base h₀ L m s R o1 o2 o3 tb1 tb2 tb3 B F X N n1 n2 n3 bare T hf hk hdp hun hret
  have hxc279 : HaltCall 279 := .mk
  have hxc97 : HaltCall 97 := .mk
  have hx₀ := hx
  replace hM := hM.mono ko
  replace hR := hR.mono ko
  replace hx := hx.mono ko
  obtain ⟨dm, tm, hm1, hm2⟩ := hM
  have hx' := hx
  obtain ⟨ls, e, hx3, hx4, hx5⟩ := hx
  obtain ⟨l0, hl0, hl0'⟩ := at_ref (xs := ls) (i := 0) (by omega)
  obtain ⟨xs, e', hx6, hx7, hx8⟩ := hx5 0 l0 hl0
  (refine' code_defC ?k1 ?k2 ?k3 ?k4 ?k5 ?kA ?kF ?kK ?k6 ?k7 ?k8 ?k9 ?kB ?kD ?_ ?c2 ?c3 ?c4; (case kA => exact rfl); (case kF => first | exact rfl | assumption); (case kK => first | exact rfl | assumption); (case k1 => k_asm); (case k2 => k_asm); (case k3 => k_asm); (case k4 => k_asm); (case k5 => k_asm); (case k6 => k_is); (case k7 => k_is); (case k8 => k_room); (case k9 => exact ha _ _ _ _ _ (by k_is) (by k_in)); (case kB => exact rfl); (case kD => decide +kernel); (case c2 => exact rfl); (case c3 => exact rfl); (case c4 => exact rfl); k_whole; intro g' L' h' tk' cells' FG' F' N' Y' B' X' T' l1; (try k_lt l1); k_cells Y'; (try dsimp only [List.cons_append, List.nil_append] at N'); (try dsimp only); (try k_fold))
  k_steps <;> repeat' (first | (refine Halt.go ?_; (with_reducible show wpAny _ _ (call (Value.ref 279) _) _ _ _); k_dflt (refine useNil (by k_asm) (by k_asm) (by k_asm) (by k_asm) (by k_asm) (by kpt_hd) (by kpt_hd) (isElem (by exact RingAt.mono (by with_reducible assumption) (by lcg_sub)) (by exact PolyIs.mono (by with_reducible assumption) (by lcg_sub))) (by k_room) (by k_units) ?_; k_whole); k_dflt (intro h9 tk9 F9 N9; (try dsimp only [List.nil_append, List.cons_append] at N9); (try k_sweep)); k_steps) | (refine Halt.go ?_; (with_reducible show wpAny _ _ (call (Value.ref 97) _) _ _ _); k_dflt (refine useNil (by k_asm) (by k_asm) (by k_asm) (by k_asm) (by k_asm) (by kpt_hd) (by kpt_hd) (mcheck (by exact ⟨_, _, _, _, _, by k_mem, by k_mem, DataAt.mono (by assumption) (by lcg_sub)⟩) (by with_reducible assumption) (by with_reducible assumption) (by with_reducible assumption)) (by k_room) (by k_units) ?_; k_whole); k_dflt (intro h9 tk9 F9 N9; (try dsimp only [List.nil_append, List.cons_append] at N9); (try k_sweep)); k_steps))
  refine Halt.go ?_
  rename_i oc doc tk1 tk2
  k_dflt (refine For_G g' (by rfl) (by rfl) ?_)
  k_steps <;> repeat' (first | (refine Halt.go ?_; (with_reducible show wpAny _ _ (call (Value.ref 279) _) _ _ _); k_dflt (refine useNil (by k_asm) (by k_asm) (by k_asm) (by k_asm) (by k_asm) (by kpt_hd) (by kpt_hd) (isElem (by exact RingAt.mono (by with_reducible assumption) (by lcg_sub)) (by exact PolyIs.mono (by with_reducible assumption) (by lcg_sub))) (by k_room) (by k_units) ?_; k_whole); k_dflt (intro h9 tk9 F9 N9; (try dsimp only [List.nil_append, List.cons_append] at N9); (try k_sweep)); k_steps) | (refine Halt.go ?_; (with_reducible show wpAny _ _ (call (Value.ref 97) _) _ _ _); k_dflt (refine useNil (by k_asm) (by k_asm) (by k_asm) (by k_asm) (by k_asm) (by kpt_hd) (by kpt_hd) (mcheck (by exact ⟨_, _, _, _, _, by k_mem, by k_mem, DataAt.mono (by assumption) (by lcg_sub)⟩) (by with_reducible assumption) (by with_reducible assumption) (by with_reducible assumption)) (by k_room) (by k_units) ?_; k_whole); k_dflt (intro h9 tk9 F9 N9; (try dsimp only [List.nil_append, List.cons_append] at N9); (try k_sweep)); k_steps))
  refine Halt.go ?_
  refine for_list (mov₀ := [(142, o1), (178, o2), (225, o3)]) (fix := (L' + 1, oc) :: news) (fun i m' mov gs => ∃ p3, IsTab p3 ∧ mov = [(142, o1), (178, o2), (225, p3)] ∧ AllBare gs ∧ ∀ y, y ≠ Str.ofString "element_list" → m' y = bindL (envOfC (Str.ofString "ModuleGeneric.__call__") _ L' 230 (Value.ref 229)).kindOf [(Str.ofString "self", Value.ref md), (Str.ofString "matrix_elements", Value.ref d), (Str.ofString "transpose", Value.bool false)] (fun x => none) y) (by rfl) (by k_asm) (newsSub N' (subApp (subCons (by k_mem) (subCons (by k_mem) (subCons (by k_mem) (List.forall_mem_nil _)))) (subCons (by k_mem) (by lcg_sub)))) (by k_mem) ⟨o3, tb3, rfl, bare, fun y _ => rfl⟩ ?step ?fin
  (case step =>
    rintro i v m₁ mov I oI own h tk gs hi hv ⟨p3, tp3, rfl, bare', hm⟩ hIo hoI hnI F₁ N₁
    have hx98 : ∃ y, v = .ref y ∧ ls[i]? = some y := by
      simp only [List.getElem?_map, Option.map_eq_some_iff] at hv
      obtain ⟨y, h1, h2⟩ := hv
      exact ⟨y, h2.symm, h1⟩
    obtain ⟨lr, rfl, hlr⟩ := hx98
    obtain ⟨ys, ey, hy6, hy7, hy8⟩ := hx5 i lr hlr
    dsimp only [List.cons_append, List.nil_append] at N₁
    clear N' F'
    k_steps <;> repeat' (first | (refine Halt.go ?_; (with_reducible show wpAny _ _ (call (Value.ref 279) _) _ _ _); k_dflt (refine useNil (by k_asm) (by k_asm) (by k_asm) (by k_asm) (by k_asm) (by kpt_hd) (by kpt_hd) (isElem (by exact RingAt.mono (by with_reducible assumption) (by lcg_sub)) (by exact PolyIs.mono (by with_reducible assumption) (by lcg_sub))) (by k_room) (by k_units) ?_; k_whole); k_dflt (intro h9 tk9 F9 N9; (try dsimp only [List.nil_append, List.cons_append] at N9); (try k_sweep)); k_steps) | (refine Halt.go ?_; (with_reducible show wpAny _ _ (call (Value.ref 97) _) _ _ _); k_dflt (refine useNil (by k_asm) (by k_asm) (by k_asm) (by k_asm) (by k_asm) (by kpt_hd) (by kpt_hd) (mcheck (by exact ⟨_, _, _, _, _, by k_mem, by k_mem, DataAt.mono (by assumption) (by lcg_sub)⟩) (by with_reducible assumption) (by with_reducible assumption) (by with_reducible assumption)) (by k_room) (by k_units) ?_; k_whole); k_dflt (intro h9 tk9 F9 N9; (try dsimp only [List.nil_append, List.cons_append] at N9); (try k_sweep)); k_steps))
    refine Halt.go ?_
    k_dflt (refine gen_make (by k_asm) T' (codeHd_of_K (c := 229) (P := 225) X' (by kernel_rfl)) rfl rfl rfl rfl (by with_unfolding_all rfl) (by decide) (by rfl) (by rfl) (by rfl) (by k_room) ?_ (fun _ => rfl))
    k_steps <;> repeat' (first | (refine Halt.go ?_; (with_reducible show wpAny _ _ (call (Value.ref 279) _) _ _ _); k_dflt (refine useNil (by k_asm) (by k_asm) (by k_asm) (by k_asm) (by k_asm) (by kpt_hd) (by kpt_hd) (isElem (by exact RingAt.mono (by with_reducible assumption) (by lcg_sub)) (by exact PolyIs.mono (by with_reducible assumption) (by lcg_sub))) (by k_room) (by k_units) ?_; k_whole); k_dflt (intro h9 tk9 F9 N9; (try dsimp only [List.nil_append, List.cons_append] at N9); (try k_sweep)); k_steps) | (refine Halt.go ?_; (with_reducible show wpAny _ _ (call (Value.ref 97) _) _ _ _); k_dflt (refine useNil (by k_asm) (by k_asm) (by k_asm) (by k_asm) (by k_asm) (by kpt_hd) (by kpt_hd) (mcheck (by exact ⟨_, _, _, _, _, by k_mem, by k_mem, DataAt.mono (by assumption) (by lcg_sub)⟩) (by with_reducible assumption) (by with_reducible assumption) (by with_reducible assumption)) (by k_room) (by k_units) ?_; k_whole); k_dflt (intro h9 tk9 F9 N9; (try dsimp only [List.nil_append, List.cons_append] at N9); (try k_sweep)); k_steps))
    refine Halt.go ?_
    have oL : ∀ p ∈ own, p.1 ≠ 225 := fun p hp => by
      rcases hoI p hp with e | e
      · rw [e]; exact fun q => hnI (225, p3) (by k_mem) q.symm
      · rw [e]; exact n3 _ hx3
    refine gsrc_list (led := own ++ ((142, o1) :: (178, o2) :: (L' + 1, oc) :: news)) (fun i v new => v = .bool true ∧ new = []) (by rfl) (by k_asm) (newsSub N₁ ?sub) tp3 (by k_mem) ?off bare' ?gturn ?gfin
    (case sub => lcg_sub)
    (case off =>
      intro p hp
      rcases List.mem_append.mp hp with hp | hp
      · exact oL p hp
      · simp only [List.mem_cons] at hp
        rcases hp with rfl | rfl | rfl | hp
        · exact (by decide : (142 : Nat) ≠ 225)
        · exact (by decide : (178 : Nat) ≠ 225)
        · exact fun q => Nat.lt_irrefl _ (Nat.lt_trans (faL l1 mm2) (q ▸ Nat.lt_succ_self _))
        · exact n3 p hp)
    (case gturn =>
      intro code C I2 j hj
      refine genTurn_in (dp := dp + 1) (un := un + 3) (outer := env :: outer) B' X' T' F₁.above rfl rfl rfl rfl ?_
      intro gd' qual G s' v mC rest E' B₂ X₂ T₂ hv hmC hsub F₃ N₃
      have hsubN : ∀ p ∈ news, p ∈ rest := fun p hp => hsub p (List.mem_append_right _ (List.mem_cons_of_mem _ (List.mem_cons_of_mem _ (List.mem_cons_of_mem _ hp))))
      have hcell : (L' + 1, oc) ∈ rest := hsub _ (List.mem_append_right _ (List.mem_cons_of_mem _ (List.mem_cons_of_mem _ List.mem_cons_self)))
      have hx98 : ∃ y, v = .ref y ∧ ys[j]? = some y := by
        simp only [List.getElem?_map, Option.map_eq_some_iff] at hv
        obtain ⟨y, h1, h2⟩ := hv
        exact ⟨y, h2.symm, h1⟩
      obtain ⟨y, rfl, hy⟩ := hx98
      have hP : PolyIs rest y := ((hy8 j y hy).mono hsubN).is
      have hm1' := hsubN _ hm1
      have hm2' := hsubN _ hm2
      have hR' := hR.mono hsubN
      obtain ⟨dr, r1, r2, r3, r4, hr1, hr2⟩ := hR.mono hsubN
      have N₄ : News G C s'.heap ((L' + 1, oc) :: rest) := newsSub N₃ (subCons hcell (fun _ h => h))
      clear hsub N₁ F₁ N₃ hcell
      k_steps <;> repeat' (first | (refine Halt.go ?_; (with_reducible show wpAny _ _ (call (Value.ref 279) _) _ _ _); k_dflt (refine useNil (by k_asm) (by k_asm) (by k_asm) (by k_asm) (by k_asm) (by kpt_hd) (by kpt_hd) (isElem (by exact RingAt.mono (by with_reducible assumption) (by lcg_sub)) (by exact PolyIs.mono (by with_reducible assumption) (by lcg_sub))) (by k_room) (by k_units) ?_; k_whole); k_dflt (intro h9 tk9 F9 N9; (try dsimp only [List.nil_append, List.cons_append] at N9); (try k_sweep)); k_steps) | (refine Halt.go ?_; (with_reducible show wpAny _ _ (call (Value.ref 97) _) _ _ _); k_dflt (refine useNil (by k_asm) (by k_asm) (by k_asm) (by k_asm) (by k_asm) (by kpt_hd) (by kpt_hd) (mcheck (by exact ⟨_, _, _, _, _, by k_mem, by k_mem, DataAt.mono (by assumption) (by lcg_sub)⟩) (by with_reducible assumption) (by with_reducible assumption) (by with_reducible assumption)) (by k_room) (by k_units) ?_; k_whole); k_dflt (intro h9 tk9 F9 N9; (try dsimp only [List.nil_append, List.cons_append] at N9); (try k_sweep)); k_steps))
      exact ⟨_, _, [], rfl, by assumption, newsSub (by assumption) (fun p hp => List.mem_cons_of_mem _ hp), apNil, rfl, rfl⟩)
    intro ag oag oP' h2 tk2 gs2 tT F2 N2 ap2 bare2 GR
    clear N₁ F₁
    k_steps <;> repeat' (first | (refine Halt.go ?_; (with_reducible show wpAny _ _ (call (Value.ref 279) _) _ _ _); k_dflt (refine useNil (by k_asm) (by k_asm) (by k_asm) (by k_asm) (by k_asm) (by kpt_hd) (by kpt_hd) (isElem (by exact RingAt.mono (by with_reducible assumption) (by lcg_sub)) (by exact PolyIs.mono (by with_reducible assumption) (by lcg_sub))) (by k_room) (by k_units) ?_; k_whole); k_dflt (intro h9 tk9 F9 N9; (try dsimp only [List.nil_append, List.cons_append] at N9); (try k_sweep)); k_steps) | (refine Halt.go ?_; (with_reducible show wpAny _ _ (call (Value.ref 97) _) _ _ _); k_dflt (refine useNil (by k_asm) (by k_asm) (by k_asm) (by k_asm) (by k_asm) (by kpt_hd) (by kpt_hd) (mcheck (by exact ⟨_, _, _, _, _, by k_mem, by k_mem, DataAt.mono (by assumption) (by lcg_sub)⟩) (by with_reducible assumption) (by with_reducible assumption) (by with_reducible assumption)) (by k_room) (by k_units) ?_; k_whole); k_dflt (intro h9 tk9 F9 N9; (try dsimp only [List.nil_append, List.cons_append] at N9); (try k_sweep)); k_steps))
    refine Halt.go ?_
    k_dflt (refine gen_all GR (by k_asm) N2 rfl T'.nolimit (by k_room) bare2 (fun i v new _ h => h.1) ?_)
    intro h3 tk3 gs3 F3 N3 bare3
    clear N2 F2
    k_steps <;> repeat' (first | (refine Halt.go ?_; (with_reducible show wpAny _ _ (call (Value.ref 279) _) _ _ _); k_dflt (refine useNil (by k_asm) (by k_asm) (by k_asm) (by k_asm) (by k_asm) (by kpt_hd) (by kpt_hd) (isElem (by exact RingAt.mono (by with_reducible assumption) (by lcg_sub)) (by exact PolyIs.mono (by with_reducible assumption) (by lcg_sub))) (by k_room) (by k_units) ?_; k_whole); k_dflt (intro h9 tk9 F9 N9; (try dsimp only [List.nil_append, List.cons_append] at N9); (try k_sweep)); k_steps) | (refine Halt.go ?_; (with_reducible show wpAny _ _ (call (Value.ref 97) _) _ _ _); k_dflt (refine useNil (by k_asm) (by k_asm) (by k_asm) (by k_asm) (by k_asm) (by kpt_hd) (by kpt_hd) (mcheck (by exact ⟨_, _, _, _, _, by k_mem, by k_mem, DataAt.mono (by assumption) (by lcg_sub)⟩) (by with_reducible assumption) (by with_reducible assumption) (by with_reducible assumption)) (by k_room) (by k_units) ?_; k_whole); k_dflt (intro h9 tk9 F9 N9; (try dsimp only [List.nil_append, List.cons_append] at N9); (try k_sweep)); k_steps))
    refine' LoopEnd.next (mov := [(142, o1), (178, o2), (225, oP')]) (by assumption) (newsSub N3 ?subE) ?nI ⟨oP', tT, rfl, bare3, ?nm⟩
    (case subE => lcg_sub)
    (case nI =>
      intro p hp
      simp only [List.mem_cons, List.not_mem_nil, or_false] at hp
      rcases hp with rfl | rfl | rfl
      · exact hnI (142, o1) (by k_mem)
      · exact hnI (178, o2) (by k_mem)
      · exact hnI (225, p3) (by k_mem))
    (case nm =>
      intro y hy
      rw [if_neg hy]
      exact hm y hy))
  intro h3 tk3 gs3 m3 mov3 F3 N3 J3
  obtain ⟨p3, tp3, rfl, bare3, hm3⟩ := J3
  obtain ⟨el, F4⟩ := fr_if hm3 F3
  clear F3 hm3
  dsimp only [List.cons_append, List.nil_append] at N3
  clear N' F'
  k_steps <;> repeat' (first | (refine Halt.go ?_; (with_reducible show wpAny _ _ (call (Value.ref 279) _) _ _ _); k_dflt (refine useNil (by k_asm) (by k_asm) (by k_asm) (by k_asm) (by k_asm) (by kpt_hd) (by kpt_hd) (isElem (by exact RingAt.mono (by with_reducible assumption) (by lcg_sub)) (by exact PolyIs.mono (by with_reducible assumption) (by lcg_sub))) (by k_room) (by k_units) ?_; k_whole); k_dflt (intro h9 tk9 F9 N9; (try dsimp only [List.nil_append, List.cons_append] at N9); (try k_sweep)); k_steps) | (refine Halt.go ?_; (with_reducible show wpAny _ _ (call (Value.ref 97) _) _ _ _); k_dflt (refine useNil (by k_asm) (by k_asm) (by k_asm) (by k_asm) (by k_asm) (by kpt_hd) (by kpt_hd) (mcheck (by exact ⟨_, _, _, _, _, by k_mem, by k_mem, DataAt.mono (by assumption) (by lcg_sub)⟩) (by with_reducible assumption) (by with_reducible assumption) (by with_reducible assumption)) (by k_room) (by k_units) ?_; k_whole); k_dflt (intro h9 tk9 F9 N9; (try dsimp only [List.nil_append, List.cons_append] at N9); (try k_sweep)); k_steps))
  refine' hret _ [(_, _), (_, _)] _ _ _ _ _ _ tb1 tb2 tp3 ?F (newsSub (by assumption) ?s) ?ap bare3 ⟨_, rfl, _, d, _, _, _, List.Mem.head _, List.Mem.tail _ (List.Mem.head _), hx₀.mono (fun p hp => List.mem_append_right _ hp)⟩
  (case F => assumption)
  (case s => lcg_sub)
  (case ap => lcg_src)
theorem mcall {md rg d : Addr} {q n : Int} {r c : Nat} {f : Nat → Nat → List Int} {args : Args} (ha : CallArgs w args md d) (hM : ModAt w news md rg) (hR : RingAt w news rg q n) (hx : DataAt w news rg d r c f) (hr : 0 < r) (hr' : r < 2 ^ 11) (hc' : c < 2 ^ 20) :
    GoesG w loose mean mg mb news 230 args 20 200 (fun new v => ∃ z, v = .ref z ∧ MatAt w (new ++ news) md rg z r c f) := mcallO (fun _ h => h) ha hM hR hx hr hr' hc'
end
end
section
theorem useGoesGC {w : World} {loose : List Str} {mean : ExcName → Option Value} {mg mb : Str → Option Value} {all news : Led} {f : Addr} {args : Args} {d u : Nat} {Out : Led → Value → Prop} {o1 o2 o3 : Obj}
    {dp un : Nat} {gd : Option (List Code)} {env : Env} {outer : List Env} {A₀ : Around} {base h₀ : Heap} {L : Addr} {m : Str → Option Value} {s : Shared} {R : Result → Shared → Prop}
    (B : Below A₀ base outer h₀) (F : Fr h₀ L s.heap m) (X : (hd.heap_1 w.params).In h₀) (N : News h₀ L s.heap all) (hs : ∀ p ∈ (142, o1) :: (178, o2) :: (225, o3) :: news, p ∈ all) (t1 : IsTab o1) (t2 : IsTab o2) (t3 : IsTab o3)
    (n1 : ∀ p ∈ news, p.1 ≠ 142) (n2 : ∀ p ∈ news, p.1 ≠ 178) (n3 : ∀ p ∈ news, p.1 ≠ 225) (bare : AllBare s.gens) (T : Top topProg loose mean mg mb h₀) (hf : env.frame = some L) (hk : env.scope.kind = .function) (G : GoesG w loose mean mg mb news f args d u Out) (hd : dp + d < recursionLimit) (hu : un + u < cLine)
    (ret : ∀ r new h' tk' gs' o1' o2' o3', IsTab o1' → IsTab o2' → IsTab o3' → Fr h₀ L h' m → News h₀ L h' (new ++ ((142, o1') :: (178, o2') :: (225, o3') :: news)) → (∀ q ∈ new, ∀ p ∈ (142, o1) :: (178, o2) :: (225, o3) :: news, p.1 ≠ q.1) → AllBare gs' → Out new r → R (.ok (.ret r)) { s with heap := h', toks := tk', gens := gs' }) :
    codeAny (model PySem.Challenge.pw_ay0011_01 w) (gTop dp un gd env outer) (.call (.ref f) args) R s :=
  G dp un gd env outer A₀ base h₀ L m s R o1 o2 o3 t1 t2 t3 B F X (newsSub N hs) n1 n2 n3 bare T hf hk hd hu ret
theorem useGoesZ {w : World} {loose : List Str} {mean : ExcName → Option Value} {mg mb : Str → Option Value} {all news : Led} {f : Addr} {args : Args} {d u : Nat} {p91 : Led → Addr → Prop} {o1 o2 o3 : Obj}
    {dp un : Nat} {gd : Option (List Code)} {env : Env} {outer : List Env} {A₀ : Around} {base h₀ : Heap} {L : Addr} {m : Str → Option Value} {s : Shared} {R : Result → Shared → Prop}
    (B : Below A₀ base outer h₀) (F : Fr h₀ L s.heap m) (X : (hd.heap_1 w.params).In h₀) (N : News h₀ L s.heap all) (hs : ∀ p ∈ (142, o1) :: (178, o2) :: (225, o3) :: news, p ∈ all) (t1 : IsTab o1) (t2 : IsTab o2) (t3 : IsTab o3)
    (n1 : ∀ p ∈ news, p.1 ≠ 142) (n2 : ∀ p ∈ news, p.1 ≠ 178) (n3 : ∀ p ∈ news, p.1 ≠ 225) (bare : AllBare s.gens) (T : Top topProg loose mean mg mb h₀) (hf : env.frame = some L) (hk : env.scope.kind = .function) (G : GoesG w loose mean mg mb news f args d u (fun new v => ∃ z, v = .ref z ∧ p91 new z)) (hd : dp + d < recursionLimit) (hu : un + u < cLine)
    (ret : ∀ z new h' tk' gs' o1' o2' o3', IsTab o1' → IsTab o2' → IsTab o3' → Fr h₀ L h' m → News h₀ L h' (new ++ ((142, o1') :: (178, o2') :: (225, o3') :: news)) → (∀ q ∈ new, ∀ p ∈ (142, o1) :: (178, o2) :: (225, o3) :: news, p.1 ≠ q.1) → AllBare gs' → p91 new z → R (.ok (.ret (.ref z))) { s with heap := h', toks := tk', gens := gs' }) :
    codeAny (model PySem.Challenge.pw_ay0011_01 w) (gTop dp un gd env outer) (.call (.ref f) args) R s :=
  G dp un gd env outer A₀ base h₀ L m s R o1 o2 o3 t1 t2 t3 B F X (newsSub N hs) n1 n2 n3 bare T hf hk hd hu fun _ new h' tk' gs' p1 p2 p3 u1 u2 u3 F' N' A' b' ⟨z, e, h⟩ => by subst e; exact ret z new h' tk' gs' p1 p2 p3 u1 u2 u3 F' N' A' b' h
theorem useGoesG {w : World} {loose : List Str} {mean : ExcName → Option Value} {mg mb : Str → Option Value} {all news : Led} {f : Addr} {vs : List Value} {d u : Nat} {Out : Led → Value → Prop} {o1 o2 o3 : Obj}
    {dp un : Nat} {gd : Option (List Code)} {env : Env} {outer : List Env} {A₀ : Around} {base h₀ : Heap} {L : Addr} {m : Str → Option Value} {s : Shared} {Q E : Value → Shared → Prop}
    (B : Below A₀ base outer h₀) (F : Fr h₀ L s.heap m) (X : (hd.heap_1 w.params).In h₀) (N : News h₀ L s.heap all) (hs : ∀ p ∈ (142, o1) :: (178, o2) :: (225, o3) :: news, p ∈ all) (t1 : IsTab o1) (t2 : IsTab o2) (t3 : IsTab o3)
    (n1 : ∀ p ∈ news, p.1 ≠ 142) (n2 : ∀ p ∈ news, p.1 ≠ 178) (n3 : ∀ p ∈ news, p.1 ≠ 225) (bare : AllBare s.gens) (T : Top topProg loose mean mg mb h₀) (hf : env.frame = some L) (hk : env.scope.kind = .function) (G : GoesG w loose mean mg mb news f ⟨vs, []⟩ d u Out) (hd : dp + d < recursionLimit) (hu : un + u < cLine)
    (ret : ∀ r new h' tk' gs' o1' o2' o3', IsTab o1' → IsTab o2' → IsTab o3' → Fr h₀ L h' m → News h₀ L h' (new ++ ((142, o1') :: (178, o2') :: (225, o3') :: news)) → (∀ q ∈ new, ∀ p ∈ (142, o1) :: (178, o2) :: (225, o3) :: news, p.1 ≠ q.1) → AllBare gs' → Out new r → Q r { s with heap := h', toks := tk', gens := gs' }) :
    wpAny (model PySem.Challenge.pw_ay0011_01 w) (gTop dp un gd env outer) (call (.ref f) vs) Q E s := wpAny_call (useGoesGC B F X N hs t1 t2 t3 n1 n2 n3 bare T hf hk G hd hu ret)
theorem callArgs_of {w : World} {md d : Addr} {args : Args} (h : ∃ oc od fd osl, (hd.heap_1 w.params).lookup 230 = some ⟨oc, od, .func fd, osl⟩ ∧ ∀ s : Shared, (hd.heap_1 w.params).In s.heap → BindsTo s fd args [(Str.ofString "self", .ref md), (Str.ofString "matrix_elements", .ref d), (Str.ofString "transpose", .bool false)]) : CallArgs w args md d := fun s oc od fd osl hl hin => by
  obtain ⟨oc', od', fd', osl', e, k⟩ := h
  rw [hl] at e
  cases e
  exact k s hin
theorem callArgs3 {w : World} {md d : Addr} : CallArgs w ⟨[.ref md, .ref d, .bool false], []⟩ md d := callArgs_of ⟨_, _, _, _, by k_is, fun s hin => by
  refine' kp_binds ?kx ?ke
  (case kx => k_in)
  (case ke => exact fun _ => rfl)⟩
theorem callArgs2 {w : World} {md d : Addr} : CallArgs w ⟨[.ref md, .ref d], []⟩ md d := callArgs_of ⟨_, _, _, _, by k_is, fun s hin => by
  refine' kp_binds ?kx ?ke
  (case kx => k_in)
  (case ke => exact fun _ => rfl)⟩
/-- the ledger behind a matrix's rows, and none of it a table -/
theorem newsOff {D c : Addr} {o : Obj} {new led news : Led} (oD : ∀ p ∈ new ++ led, p.1 ≠ D) (ap : ∀ p ∈ new, ∀ q ∈ led, q.1 ≠ p.1) (hm : (c, o) ∈ led) (hn : ∀ p ∈ news, p.1 ≠ c) {x : Obj} : ∀ p ∈ (D, x) :: (new ++ news), p.1 ≠ c := fun p hp => by
  rcases List.mem_cons.mp hp with rfl | hp
  · exact (oD _ (List.mem_append_right _ hm)).symm
  · rcases List.mem_append.mp hp with hp | hp
    · exact (ap p hp _ hm).symm
    · exact hn p hp
theorem newsOff2 {D c : Addr} {o o' : Obj} {new led led' news : Led} (oD : ∀ p ∈ new ++ led, p.1 ≠ D) (ap : ∀ p ∈ new, ∀ q ∈ led', q.1 ≠ p.1) (hm : (c, o) ∈ led) (hm' : (c, o') ∈ led') (hn : ∀ p ∈ news, p.1 ≠ c) {x : Obj} : ∀ p ∈ (D, x) :: (new ++ news), p.1 ≠ c := fun p hp => by
  rcases List.mem_cons.mp hp with rfl | hp
  · exact (oD _ (List.mem_append_right _ hm)).symm
  · rcases List.mem_append.mp hp with hp | hp
    · exact (ap p hp _ hm').symm
    · exact hn p hp
theorem tabsIn {led news : Led} {o1 o2 o3 a b c : Obj} (h1 : (142, a) ∈ led) (h2 : (178, b) ∈ led) (h3 : (225, c) ∈ led) (hn : ∀ p ∈ news, p ∈ led) : ∀ p ∈ (142, o1) :: (178, o2) :: (225, o3) :: news, ∃ p' ∈ led, p'.1 = p.1 := fun p hp => by
  rcases List.mem_cons.mp hp with rfl | hp
  · exact ⟨_, h1, rfl⟩
  · rcases List.mem_cons.mp hp with rfl | hp
    · exact ⟨_, h2, rfl⟩
    · rcases List.mem_cons.mp hp with rfl | hp
      · exact ⟨_, h3, rfl⟩
      · exact ⟨p, hn p hp, rfl⟩
theorem midOff {D : Addr} {x : Obj} {new led led' l : Led} (oD : ∀ p ∈ new ++ led, p.1 ≠ D) (ap : ∀ p ∈ new, ∀ q ∈ led', q.1 ≠ p.1) (k : ∀ p ∈ l, ∃ p' ∈ led, p'.1 = p.1) (k' : ∀ p ∈ l, ∃ p' ∈ led', p'.1 = p.1) : ∀ q ∈ (D, x) :: new, ∀ p ∈ l, p.1 ≠ q.1 := fun q hq p hp => by
  rcases List.mem_cons.mp hq with rfl | hq
  · obtain ⟨p', h, e⟩ := k p hp
    exact e ▸ oD p' (List.mem_append_right _ h)
  · obtain ⟨p', h, e⟩ := k' p hp
    exact e ▸ ap q hq p' h
theorem retMat {w : World} {R : Result → Shared → Prop} {h₀ h' : Heap} {L : Addr} {m : Str → Option Value} {s : Shared} {tk' : Nat} {gs' : Array GenState} {o1 o2 o3 a1 a2 a3 p1 p2 p3 : Obj} {news new1 new9 : Led} {D z md rg : Addr} {o : Obj} {r c : Nat} {f : Nat → Nat → List Int}
    (hret : ∀ v new h' tk' gs' o1' o2' o3', IsTab o1' → IsTab o2' → IsTab o3' → Fr h₀ L h' m → News h₀ L h' (new ++ ((142, o1') :: (178, o2') :: (225, o3') :: news)) → (∀ q ∈ new, ∀ p ∈ (142, o1) :: (178, o2) :: (225, o3) :: news, p.1 ≠ q.1) → AllBare gs' → (∃ z, v = .ref z ∧ MatAt w (new ++ news) md rg z r c f) → R (.ok (.ret v)) { s with heap := h', toks := tk', gens := gs' })
    (F : Fr h₀ L h' m) (N : News h₀ L h' (new9 ++ ((142, p1) :: (178, p2) :: (225, p3) :: ((D, o) :: (new1 ++ news))))) (A9 : ∀ q ∈ new9, ∀ p ∈ (142, a1) :: (178, a2) :: (225, a3) :: ((D, o) :: (new1 ++ news)), p.1 ≠ q.1)
    (hmid : ∀ q ∈ (D, o) :: new1, ∀ p ∈ (142, o1) :: (178, o2) :: (225, o3) :: news, p.1 ≠ q.1) (tp1 : IsTab p1) (tp2 : IsTab p2) (tp3 : IsTab p3) (bare : AllBare gs') (hz : MatAt w (new9 ++ ((D, o) :: (new1 ++ news))) md rg z r c f) :
    R (.ok (.ret (.ref z))) { s with heap := h', toks := tk', gens := gs' } := by
  refine hret _ (new9 ++ ((D, o) :: new1)) _ _ _ p1 p2 p3 tp1 tp2 tp3 F (newsSub N fun p hp => ?_) (fun q hq p hp => ?_) bare ⟨z, rfl, hz.mono fun p hp => ?_⟩
  · simp only [List.mem_append, List.mem_cons] at hp ⊢
    grind
  · rcases List.mem_append.mp hq with hq | hq
    · obtain ⟨p', h, e⟩ := tabsIn (led := (142, a1) :: (178, a2) :: (225, a3) :: ((D, o) :: (new1 ++ news))) (a := a1) (b := a2) (c := a3) (by simp) (by simp) (by simp) (fun p hp => by simp [hp]) p hp
      exact e ▸ A9 q hq p' h
    · exact hmid q hq p hp
  · simp only [List.mem_append, List.mem_cons] at hp ⊢
    grind
theorem callArgsKw {w : World} {md d : Addr} {kw : List (Str × Value)} (hkw : kw = [(Str.ofString "transpose", .bool false)]) : CallArgs w ⟨[.ref md, .ref d], kw⟩ md d := by
  subst hkw
  exact callArgs_of ⟨_, _, _, _, by k_is, fun s hin => by
    refine' kp_binds ?kx ?ke
    (case kx => k_in)
    (case ke => exact fun _ => rfl)⟩
end
section
/-- a generator's turn, made within a comprehension: its maker's names stand in envc, the frame is env's -/
theorem genTurn_in2 {prog : Program} {w : World} {A A₁ : Around} {dp un : Nat} {gd : Option (List Code)} {env envc : Env} {outer : List Env} {e1 : Expr} {gs1 : List Comprehension} {sc1 : Scope} {p1 : Pos} {it acc : Value} {h₀ base : Heap} {C : Addr} {scope : Scope} {cl : List (Str × Addr)} {code : Value} {elt : Expr} {x : Str} {led : Led} {V : Nat → Value → Prop} {F : Nat → Value → Led → Prop} {i : Nat} {L : Addr} {m : Str → Option Value}
    {K : Frag} {p : Program} {loose : List Str} {mean : ExcName → Option Value} {mg mb : Str → Option Value} (B : Below A₁ base outer h₀) (X : K.In h₀) (T : Top p loose mean mg mb h₀) (hL : h₀.objs.size ≤ L)
    (hA : A = gTop dp un gd env outer) (hge : envc.globals = mainGlobals) (hf : env.frame = some L) (hk : env.scope.kind = .function)
    (h : ∀ gd' qual (G : Heap) (s : Shared) (v : Value) (mC : Str → Option Value) (rest : Led) (E' : Value → Shared → Prop), Below A base (env :: outer) G → K.In G → Top p loose mean mg mb G → V i v → mC x = some v → (∀ p ∈ led, p ∈ rest) → Fr G C s.heap mC → News G C s.heap rest →
      wpAny (model prog w) (gTop (dp + 1) (un + 5) gd' (gEnv scope cl C code qual) (env :: outer)) (eval elt (gEnv scope cl C code qual)) (TurnEnd G C mC s rest (F i)) E' s) :
    GenTurn prog w (A.in1.in1.over (.compLoop (.GeneratorExp e1 gs1 sc1 p1) 0 it acc (genEnv scope cl C code builtinsNs envc)) []) h₀ L m C (genEnv scope cl C code builtinsNs envc) elt x led V F i := by
  subst hA
  have e : genEnv scope cl C code builtinsNs envc = gEnv scope cl C code (envc.qual ++ "<genexpr>.") := by unfold genEnv gEnv; rw [hge]
  rw [e]
  have e2 : ((gTop dp un gd env outer).in1.in1.over (.compLoop (.GeneratorExp e1 gs1 sc1 p1) 0 it acc (gEnv scope cl C code (envc.qual ++ "<genexpr>."))) []) = gTop (dp + 1) (un + 5) ((gTop dp un gd env outer).in1.in1.over (.compLoop (.GeneratorExp e1 gs1 sc1 p1) 0 it acc (gEnv scope cl C code (envc.qual ++ "<genexpr>."))) []).guards (gEnv scope cl C code (envc.qual ++ "<genexpr>.")) (env :: outer) := rfl
  rw [e2]
  exact fun G s v mC rest E' hv hm hs up n F N => h _ _ G s v mC rest E' (below_gen B rfl hf hk hL up n) (X.keeps up) (T.keeps up) hv hm hs F N
section
variable {prog : Program} {w : World} {A : Around} {E : Value → Shared → Prop} {s : Shared} {h₀ : Heap} {L : Addr} {m : Str → Option Value} {env : Env} {scope : Scope} {cl : List (Str × Addr)}
theorem srcY_rangeN {x : Str} {px : Pos} {r : Addr} {t u v : Tok} {n : Nat} {news : Led} {Rest : RestT} (F : Nat → Value → Led → Prop) (Holds : Addr → Nat → Value → Led → Prop)
    (hh : A.handled = none) (F₀ : Fr h₀ L s.heap m) (N : News h₀ L s.heap news) (hr : IsRange s.heap r 0 (n : Int) 1 t u v) (hn : n < 2 ^ 20)
    (hs : ∀ C, Stores prog w A (cenvOf scope cl env C) (.Name x px) (caOf scope C) (fun i v _ => ∃ t, v = .int (i : Int) t) (Holds C))
    (rest : ∀ fp I g, (∀ b ∈ fp, s.heap.objs.size ≤ b) → Rest fp [I] { s with heap := g } news Holds F n) :
    SrcY prog w A h₀ L m env (.Name x px) scope cl E Rest (.ref r) s :=
  srcY_range F Holds hh F₀ N hr (smallN hn) (sizeN n) (lineN hn) (fun C => by simpa using hs C) fun fp I g hb => rest fp I g fun b h => (hb b h).elim id fun h => nomatch h
theorem offMov {names own new fix mov : Led} {D c : Addr} {o p : Obj} (hm : (c, p) ∈ mov) (oD : ∀ p ∈ own ++ (new ++ (mov ++ fix)), p.1 ≠ D) (oNq : ∀ p ∈ names, ∀ q ∈ own ++ (new ++ (mov ++ fix)), q.1 ≠ p.1) (omv : ∀ p ∈ mov, ∀ q ∈ own ++ (new ++ fix), q.1 ≠ p.1) :
    ∀ p ∈ names ++ ((D, o) :: (own ++ (new ++ fix))), p.1 ≠ c := fun r hr => by
  have hmm : (c, p) ∈ own ++ (new ++ (mov ++ fix)) := List.mem_append_right _ (List.mem_append_right _ (List.mem_append_left _ hm))
  rcases List.mem_append.mp hr with hr | hr
  · exact (oNq r hr _ hmm).symm
  · rcases List.mem_cons.mp hr with rfl | hr
    · exact (oD _ hmm).symm
    · exact omv _ hm r hr
/-- the moving part is one code table -/
def OneTab (c : Addr) (_ : Nat) (mov : Led) : Prop := ∃ o, IsTab o ∧ mov = [(c, o)]
theorem restTab {fp : List Addr} {I : Addr} {news fix : Led} {Holds : Addr → Nat → Value → Led → Prop} {F : Nat → Value → Led → Prop} {n : Nat} {elt : Expr} {c : Addr} {o : Obj} {g : Heap}
    {Fin : Shared → (Array GenState → Array GenState → Prop) → Led → Led → (Nat → Led → Prop) → (Nat → Value → Led → Prop) → Nat → Prop}
    (he : news = (c, o) :: fix) (ht : IsTab o) (hne : ∀ q ∈ fix, q.1 ≠ c) (hc : c < s.heap.objs.size) (hfp : ∀ b ∈ fp, s.heap.objs.size ≤ b)
    (turn : ∀ C i, i < n → CompTurnM prog w A h₀ L m (cenvOf scope cl env C) (caOf scope C) [I] elt { s with heap := g } fix (fun a b => AllBare a → AllBare b) (OneTab c) (Holds C) F i)
    (fin : Fin { s with heap := g } (fun a b => AllBare a → AllBare b) [(c, o)] fix (OneTab c) F n) :
    RestM prog w A h₀ L m env elt scope cl Fin fp [I] { s with heap := g } news Holds F n :=
  ⟨[(c, o)], fix, fun a b => AllBare a → AllBare b, OneTab c, he, fun _ _ _ h k x => k (h x), fun _ x => x, ⟨o, ht, rfl⟩, fun p hp q hq => by rw [List.mem_singleton] at hp; subst hp; exact hne q hq,
    fun p hp h => by rw [List.mem_singleton] at hp; subst hp; exact Nat.lt_irrefl _ (Nat.lt_of_lt_of_le hc (hfp _ h)), turn, fin⟩
/-- a turn's end that has written the code table -/
inductive TurnOutT (h₀ : Heap) (L : Addr) (m : Str → Option Value) (st : Heap → Nat → Array GenState → Shared) (c : Addr) (led : Led) (F : Value → Led → Prop) (y : Value) (s' : Shared) : Prop
  | mk (h' : Heap) (tk' : Nat) (gs' : Array GenState) (new' : Led) (o' : Obj) (h1 : s' = st h' tk' gs') (h2 : AllBare gs') (h3 : IsTab o') (h4 : Fr h₀ L h' m) (h5 : News h₀ L h' (new' ++ ((c, o') :: led))) (h6 : ∀ p ∈ new', ∀ q ∈ (c, o') :: led, q.1 ≠ p.1) (h7 : F y new')
def TurnEndT (h₀ : Heap) (L : Addr) (m : Str → Option Value) (s : Shared) (c : Addr) (led : Led) (F : Value → Led → Prop) (y : Value) (s' : Shared) : Prop := TurnOutT h₀ L m (fun h' tk' gs' => { s with heap := h', toks := tk', gens := gs' }) c led F y s'
theorem srcY_tabC {x : Str} {px : Pos} {r : Addr} {t u v : Tok} {n : Nat} {fix : Led} {elt : Expr} {c : Addr} {o : Obj} (F : Nat → Value → Led → Prop)
    {Fin : Shared → (Array GenState → Array GenState → Prop) → Led → Led → (Nat → Led → Prop) → (Nat → Value → Led → Prop) → Nat → Prop}
    (hh : A.handled = none) (F₀ : Fr h₀ L s.heap m) (N : News h₀ L s.heap ((c, o) :: fix)) (hr : IsRange s.heap r 0 (n : Int) 1 t u v) (hn : n < 2 ^ 20)
    (hk : scope.kind = .function) (hx : ∀ C, (cenvOf scope cl env C).kindOf x = some .cell) (hcx : ∀ C, (cellsFrom (C + 1) scope.names cl).lookup x = some (C + 1)) (hca : ∀ C, caOf scope C = [C + 1]) (ht : IsTab o) (hne : ∀ q ∈ fix, q.1 ≠ c) (bare : AllBare s.gens)
    (turn : ∀ g C i t oC oi led o' h tk gs E', i < n → oi.data = .cell (some (.int (i : Int) t)) → (C, oC) ∈ led → (C + 1, oi) ∈ led → (∀ p ∈ fix, p ∈ led) → (∀ p ∈ led, p.1 ≠ c) → IsTab o' → AllBare gs → Fr h₀ L h m → News h₀ L h ((c, o') :: led) →
      wpAny (model prog w) A (eval elt (cenvOf scope cl env C)) (TurnEndT h₀ L m { s with heap := g } c led (F i)) E' { s with heap := h, toks := tk, gens := gs })
    (fin : ∀ g, Fin { s with heap := g } (fun a b => AllBare a → AllBare b) [(c, o)] fix (OneTab c) F n) :
    SrcY prog w A h₀ L m env (.Name x px) scope cl E (RestM prog w A h₀ L m env elt scope cl Fin) (.ref r) s := by
  refine srcY_rangeN F (fun C => HoldsC (C + 1) fun i v => ∃ t, v = .int (i : Int) t) hh F₀ N hr hn (fun C => stores_cell1 C hk (hx C) (hcx C) (hca C) (fun _ _ _ h => by exact h)) fun _ _ g hfp => restTab rfl ht hne (Heap.lt_size (N _ List.mem_cons_self).1) hfp (fun C i hi v h tk gs own names new mov D ys E' hH hna _ _ hG hJ F₁ N₁ oD _ oNq omv _ => ?_) (fin g)
  obtain ⟨⟨t, e'⟩, oi, hm, hd⟩ := hH
  obtain ⟨o', ht', em⟩ := hJ
  subst e' em
  have hx98 : ∃ oC, (C, oC) ∈ names := mem_keys (by rw [hna]; exact List.mem_cons_self)
  obtain ⟨oC, hC⟩ := hx98
  have off' := offMov (o := LCg.lst ys) (List.mem_singleton.mpr rfl) oD oNq omv
  have sub : ∀ o : Obj, ∀ p ∈ names ++ ((D, LCg.lst ys) :: (own ++ (new ++ ([(c, o)] ++ fix)))), p ∈ (c, o) :: (names ++ ((D, LCg.lst ys) :: (own ++ (new ++ fix)))) := fun o => by lcg_sub
  have sub' : ∀ o : Obj, ∀ p ∈ (c, o) :: (names ++ ((D, LCg.lst ys) :: (own ++ (new ++ fix)))), p ∈ names ++ ((D, LCg.lst ys) :: (own ++ (new ++ ([(c, o)] ++ fix)))) := fun o => by lcg_sub
  refine wpAny_mono (turn g C i t oC oi _ o' h tk gs E' hi hd (List.mem_append_left _ hC) (List.mem_append_left _ hm) (fun p hp => List.mem_append_right _ (List.mem_cons_of_mem _ (List.mem_append_right _ (List.mem_append_right _ hp)))) off' ht' (hG bare) F₁ (newsSub N₁ (sub' _))) (fun y s' q => ?_) fun _ _ q => q
  obtain ⟨h', tk', gs', new', o2, e3, b2, ht2, F2, N2, ap, hF⟩ := q
  refine ⟨h', tk', gs', new', [(c, o2)], e3, fun _ => b2, rfl, ⟨o2, ht2, rfl⟩, F2, newsSub N2 (fun p hp => ?_), (fun p hp q hq => ?_), hF⟩
  · rcases List.mem_append.mp hp with hp | hp
    · exact List.mem_append_left _ hp
    · exact List.mem_append_right _ (sub _ p hp)
  · rcases List.mem_cons.mp (sub _ q hq) with rfl | hq
    · exact ap p hp (c, o2) List.mem_cons_self
    · exact ap p hp q (List.mem_cons_of_mem _ hq)
theorem finTab {fix : Led} {F : Nat → Value → Led → Prop} {n : Nat} {c : Addr} {o : Obj} {Q : Value → Shared → Prop} (bare : AllBare s.gens)
    (k : ∀ D h tk gs ys new o', AllBare gs → IsTab o' → Fr h₀ L h m → News h₀ L h ((D, LCg.lst ys) :: (new ++ ((c, o') :: fix))) → (∀ p ∈ new ++ ((c, o') :: fix), p.1 ≠ D) → (∀ p ∈ new, ∀ q ∈ (c, o') :: fix, q.1 ≠ p.1) → CompDone F n ys new → Q (.ref D) { s with heap := h, toks := tk, gens := gs }) :
    FinGM h₀ L m s (fun a b => AllBare a → AllBare b) [(c, o)] fix (OneTab c) F n Q := fun D h tk gs ys new mov hG _ hJ F₁ N₁ oD ap d => by
  obtain ⟨o', ht, em⟩ := hJ
  subst em
  refine k D h tk gs ys new o' (hG bare) ht F₁ N₁ oD (fun p hp q hq => ?_) d
  rcases List.mem_cons.mp hq with rfl | hq
  · exact ap p hp (c, o) List.mem_cons_self
  · exact ap p hp q (List.mem_cons_of_mem _ hq)
theorem gsrc_rangeN {P : Addr} {elt gexp : Expr} {x : Str} {Q : Value → Shared → Prop} {led : Led} {oP : Obj} {r : Addr} {t u v : Tok} {n : Nat} (F : Nat → Value → Led → Prop) (hh : A.handled = none) (F₁ : Fr h₀ L s.heap m) (N₁ : News h₀ L s.heap ((P, oP) :: led)) (hT : IsTab oP) (hr : IsRange s.heap r 0 (n : Int) 1 t u v) (hn : n < 2 ^ 20) (hlP : ∀ p ∈ led, p.1 ≠ P) (bare : AllBare s.gens)
    (turn : ∀ (code : Value) (C I : Addr) (i : Nat), i < n → GenTurn prog w (A.in1.in1.over (.compLoop gexp 0 (.ref I) .none (genEnv scope cl C code builtinsNs env)) []) h₀ L m C (genEnv scope cl C code builtinsNs env) elt x led (fun i v => ∃ t, v = .int (i : Int) t) F i)
    (fin : ∀ (a : Addr) (oa oP' : Obj) (h' : Heap) (tk : Nat) (gs : Array GenState), IsTab oP' → Fr h₀ L h' m → News h₀ L h' ((a, oa) :: (P, oP') :: led) → (∀ p ∈ (P, oP') :: led, p.1 ≠ a) → AllBare gs → GenRun prog w A h₀ L m a ((a, oa) :: (P, oP') :: led) n F h' gs → Q (.ref a) { s with heap := h', toks := tk, gens := gs }) :
    wpAny (model prog w) A (pyIter (.ref r)) (GSrc prog w A h₀ L P m env elt gexp x scope cl Q) E s :=
  gsrc_range F hh F₁ N₁ hT hr (smallN hn) (sizeN n) hlP bare (fun code C I i hi => by simpa using turn code C I i hi) fin
end
/-- the sum of the first k products, as sum() adds them up -/
def msum (q : Int) (p : Nat → List Int) : Nat → List Int
  | 0 => []
  | 1 => p 0
  | k + 2 => List.zipWith (fun a b => (a + b) % q) (msum q p (k + 1)) (p (k + 1))
def SumAcc (w : World) (rg : Addr) (q : Int) (p : Nat → List Int) (k : Nat) (v : Value) (l : Led) : Prop :=
  match k with
  | 0 => (∃ t, v = .int 0 t) ∧ l = []
  | k + 1 => ∃ z, v = .ref z ∧ PolyAt w l rg z (msum q p (k + 1))
theorem msum_length {q n : Int} {p : Nat → List Int} : ∀ (k : Nat), (∀ i, i < k + 1 → ((p i).length : Int) = n) → ((msum q p (k + 1)).length : Int) = n
  | 0, h => h 0 (Nat.lt_succ_self _)
  | k + 1, h => by
    have h1 := msum_length (q := q) k fun i hi => h i (Nat.lt_succ_of_lt hi)
    have h2 := h (k + 1) (Nat.lt_succ_self _)
    show ((List.zipWith _ (msum q p (k + 1)) (p (k + 1))).length : Int) = n
    rw [List.length_zipWith]
    omega
theorem sumAcc_pos {w : World} {rg : Addr} {q : Int} {p : Nat → List Int} {c : Nat} {v : Value} {l : Led} (h0 : 0 < c) (h : SumAcc w rg q p c v l) : ∃ z, v = .ref z ∧ PolyAt w l rg z (msum q p c) := by
  cases c with
  | zero => exact absurd h0 (Nat.lt_irrefl _)
  | succ k => exact h
theorem pmul_mod {q : Int} {as bs : List Int} : ∀ x ∈ pmul q as bs, x % q = x := fun x hx => by
  obtain ⟨y, _, rfl⟩ := List.mem_map.mp hx
  exact Int.emod_emod_of_dvd _ (Int.dvd_refl _)
theorem n23lt {n : Int} (h : n = 2 ∨ n = 3) : n < 2 ^ 20 ∧ 0 < n := by lia
end
section
section
variable {prog : Program} {w : World} {A : Around} {E : Value → Shared → Prop} {s : Shared} {h₀ : Heap} {L D : Addr} {m : Str → Option Value} {news news' : Led} {Q : Value → Shared → Prop}
/-- pool.pop(0) -/
theorem pop0 {v : Value} {rest : List Value} {e : Nat} {u : Tok} (F : Fr h₀ L s.heap m) (N : News h₀ L s.heap news) (U : Upd D (lsO (v :: rest) e) (lsO rest (e + 1)) news news') (hz : rest.length < 2 ^ 20)
    (h : ∀ h', Fr h₀ L h' m → News h₀ L h' news' → Q v { s with heap := h' }) : wpAny (model prog w) A (call (.builtin "list.pop") [.ref D, .int 0 u]) Q E s :=
  kl_popAt (its := (v :: rest).toArray) (k := 0) (p := []) (y := v) (q := rest) F N (by decide) (by simp [seqIndex?]) rfl U (by simp only [List.length_cons]; rw [sizeLine_eq]; omega) h
end
theorem ints_drop {vs : List Value} {ps : List Int} {k : Nat} (h : IntsAre vs (ps.drop k)) (hk : k < ps.length) : ∃ t vs', vs = .int (ps.getD k 0) t :: vs' ∧ IntsAre vs' (ps.drop (k + 1)) := by
  have e : ps.drop k = ps.getD k 0 :: ps.drop (k + 1) := by
    rw [List.getD_eq_getElem?_getD, List.getElem?_eq_getElem hk]
    exact List.drop_eq_getElem_cons hk
  rw [e] at h
  cases h with
  | cons _ t h => exact ⟨t, _, rfl, h⟩
/-- the moving part is the pool -/
def PoolAt (pl : Addr) (ps : List Int) (k : Nat) (mov : Led) : Prop := ∃ vs e, mov = [(pl, lsO vs e)] ∧ IntsAre vs (ps.drop k)
section
variable {prog : Program} {w : World} {A : Around} {E : Value → Shared → Prop} {s : Shared} {h₀ : Heap} {L : Addr} {m : Str → Option Value} {env : Env} {scope : Scope} {cl : List (Str × Addr)}
theorem restPool {fp : List Addr} {I : Addr} {news fix : Led} {Holds : Addr → Nat → Value → Led → Prop} {F : Nat → Value → Led → Prop} {n : Nat} {elt : Expr} {pl : Addr} {ps : List Int} {vs : List Value} {e : Nat} {g : Heap} (b : Nat) (st : Nat)
    {Fin : Shared → (Array GenState → Array GenState → Prop) → Led → Led → (Nat → Led → Prop) → (Nat → Value → Led → Prop) → Nat → Prop}
    (he : news = (pl, lsO vs e) :: fix) (hi : IntsAre vs (ps.drop b)) (hne : ∀ q ∈ fix, q.1 ≠ pl) (hc : pl < s.heap.objs.size) (hfp : ∀ b ∈ fp, s.heap.objs.size ≤ b)
    (turn : ∀ C i, i < n → CompTurnM prog w A h₀ L m (cenvOf scope cl env C) (caOf scope C) [I] elt { s with heap := g } fix (fun a b => a = b) (fun i => PoolAt pl ps (b + i * st)) (Holds C) F i)
    (fin : Fin { s with heap := g } (fun a b => a = b) [(pl, lsO vs e)] fix (fun i => PoolAt pl ps (b + i * st)) F n) :
    RestM prog w A h₀ L m env elt scope cl Fin fp [I] { s with heap := g } news Holds F n :=
  ⟨[(pl, lsO vs e)], fix, fun a b => a = b, fun i => PoolAt pl ps (b + i * st), he, fun _ _ _ h k => h.trans k, fun _ => rfl, ⟨vs, e, rfl, by simpa using hi⟩, fun p hp q hq => by rw [List.mem_singleton] at hp; subst hp; exact hne q hq,
    fun p hp h => by rw [List.mem_singleton] at hp; subst hp; exact Nat.lt_irrefl _ (Nat.lt_of_lt_of_le hc (hfp _ h)), turn, fin⟩
end
/-- a turn's end that has taken from the pool -/
inductive TurnOutP (h₀ : Heap) (L : Addr) (m : Str → Option Value) (st : Heap → Nat → Shared) (pl : Addr) (ps : List Int) (led : Led) (F : Value → Led → Prop) (y : Value) (s' : Shared) : Prop
  | mk (h' : Heap) (tk' : Nat) (new' : Led) (vs' : List Value) (e' : Nat) (h1 : s' = st h' tk') (h2 : IntsAre vs' ps) (h3 : Fr h₀ L h' m) (h4 : News h₀ L h' (new' ++ ((pl, lsO vs' e') :: led))) (h5 : ∀ p ∈ new', ∀ q ∈ (pl, lsO vs' e') :: led, q.1 ≠ p.1) (h6 : F y new')
def TurnEndP (h₀ : Heap) (L : Addr) (m : Str → Option Value) (s : Shared) (pl : Addr) (ps : List Int) (led : Led) (F : Value → Led → Prop) (y : Value) (s' : Shared) : Prop := TurnOutP h₀ L m (fun h' tk' => { s with heap := h', toks := tk' }) pl ps led F y s'
section
variable {prog : Program} {w : World} {A : Around} {E : Value → Shared → Prop} {s : Shared} {h₀ : Heap} {L : Addr} {m : Str → Option Value} {env : Env} {scope : Scope} {cl : List (Str × Addr)}
theorem restPoolL {x : Str} {fp : List Addr} {I : Addr} {news fix : Led} {F : Nat → Value → Led → Prop} {n : Nat} {elt : Expr} {pl : Addr} {ps : List Int} {vs : List Value} {e : Nat} {g : Heap} {f : Nat → Tok → Value} (b : Nat) (st : Nat)
    {Fin : Shared → (Array GenState → Array GenState → Prop) → Led → Led → (Nat → Led → Prop) → (Nat → Value → Led → Prop) → Nat → Prop}
    (he : news = (pl, lsO vs e) :: fix) (hi : IntsAre vs (ps.drop b)) (hne : ∀ q ∈ fix, q.1 ≠ pl) (hc : pl < s.heap.objs.size) (hfp : ∀ b ∈ fp, s.heap.objs.size ≤ b)
    (turn : ∀ C i t oC m₂ led vs' e' h tk E', i < n → LCg.NsObj oC m₂ → m₂ x = some (f i t) → (C, oC) ∈ led → (∀ p ∈ fix, p ∈ led) → (∀ p ∈ led, p.1 ≠ pl) → IntsAre vs' (ps.drop (b + i * st)) → Fr h₀ L h m → News h₀ L h ((pl, lsO vs' e') :: led) →
      wpAny (model prog w) A (eval elt (cenvOf scope cl env C)) (TurnEndP h₀ L m { s with heap := g } pl (ps.drop (b + (i + 1) * st)) led (F i)) E' { s with heap := h, toks := tk })
    (fin : Fin { s with heap := g } (fun a b => a = b) [(pl, lsO vs e)] fix (fun i => PoolAt pl ps (b + i * st)) F n) :
    RestM prog w A h₀ L m env elt scope cl Fin fp [I] { s with heap := g } news (HoldsL x fun i v => ∃ t, v = f i t) F n := by
  refine restPool b st he hi hne hc hfp (fun C i hi v h tk gs own names new mov D ys E' hH _ _ _ hG hJ F₁ N₁ oD _ oNq omv _ => ?_) fin
  obtain ⟨⟨t, e'⟩, oC, m₂, r, e, hC, hm⟩ := hH
  obtain ⟨vs', e'', em, hI⟩ := hJ
  subst e e' em
  subst hG
  have off' := offMov (o := LCg.lst ys) (List.mem_singleton.mpr rfl) oD oNq omv
  have sub : ∀ o : Obj, ∀ p ∈ (C, oC) :: r ++ ((D, LCg.lst ys) :: (own ++ (new ++ ([(pl, o)] ++ fix)))), p ∈ (pl, o) :: ((C, oC) :: r ++ ((D, LCg.lst ys) :: (own ++ (new ++ fix)))) := fun o => by lcg_sub
  have sub' : ∀ o : Obj, ∀ p ∈ (pl, o) :: ((C, oC) :: r ++ ((D, LCg.lst ys) :: (own ++ (new ++ fix)))), p ∈ (C, oC) :: r ++ ((D, LCg.lst ys) :: (own ++ (new ++ ([(pl, o)] ++ fix)))) := fun o => by lcg_sub
  refine wpAny_mono (turn C i t oC m₂ _ vs' e'' h tk E' hi hC hm (List.mem_append_left _ List.mem_cons_self) (fun p hp => List.mem_append_right _ (List.mem_cons_of_mem _ (List.mem_append_right _ (List.mem_append_right _ hp)))) off' hI F₁ (newsSub N₁ (sub' _))) (fun y s' q => ?_) fun _ _ q => q
  obtain ⟨h', tk', new', vs2, e2, e3, hI2, F2, N2, ap, hF⟩ := q
  refine ⟨h', tk', s.gens, new', [(pl, lsO vs2 e2)], e3, rfl, rfl, ⟨vs2, e2, rfl, hI2⟩, F2, newsSub N2 (fun p hp => ?_), (fun p hp q hq => ?_), hF⟩
  · rcases List.mem_append.mp hp with hp | hp
    · exact List.mem_append_left _ hp
    · exact List.mem_append_right _ (sub _ p hp)
  · rcases List.mem_cons.mp (sub _ q hq) with rfl | hq
    · exact ap p hp (pl, lsO vs2 e2) List.mem_cons_self
    · exact ap p hp q (List.mem_cons_of_mem _ hq)
/-- a comprehension over range(n) that takes from the pool -/
theorem srcY_pool {x : Str} {px : Pos} {r : Addr} {t u v : Tok} {n : Nat} {fix : Led} {elt : Expr} {pl : Addr} {ps : List Int} {vs : List Value} {e : Nat} (F : Nat → Value → Led → Prop) (b : Nat) (st : Nat)
    {Fin : Shared → (Array GenState → Array GenState → Prop) → Led → Led → (Nat → Led → Prop) → (Nat → Value → Led → Prop) → Nat → Prop}
    (hh : A.handled = none) (F₀ : Fr h₀ L s.heap m) (N : News h₀ L s.heap ((pl, lsO vs e) :: fix)) (hr : IsRange s.heap r 0 (n : Int) 1 t u v) (hn : n < 2 ^ 20)
    (hk : scope.kind = .function) (hx : scope.names.lookup x = some .local) (hca : ∀ C, caOf scope C = []) (hi : IntsAre vs (ps.drop b)) (hne : ∀ q ∈ fix, q.1 ≠ pl)
    (turn : ∀ g C i t oC m₂ led vs' e' h tk E', i < n → LCg.NsObj oC m₂ → m₂ x = some (.int (i : Int) t) → (C, oC) ∈ led → (∀ p ∈ fix, p ∈ led) → (∀ p ∈ led, p.1 ≠ pl) → IntsAre vs' (ps.drop (b + i * st)) → Fr h₀ L h m → News h₀ L h ((pl, lsO vs' e') :: led) →
      wpAny (model prog w) A (eval elt (cenvOf scope cl env C)) (TurnEndP h₀ L m { s with heap := g } pl (ps.drop (b + (i + 1) * st)) led (F i)) E' { s with heap := h, toks := tk })
    (fin : ∀ g, Fin { s with heap := g } (fun a b => a = b) [(pl, lsO vs e)] fix (fun i => PoolAt pl ps (b + i * st)) F n) :
    SrcY prog w A h₀ L m env (.Name x px) scope cl E (RestM prog w A h₀ L m env elt scope cl Fin) (.ref r) s :=
  srcY_rangeN F (HoldsL x fun i v => ∃ t, v = .int (i : Int) t) hh F₀ N hr hn (fun C => stores_local hk hx (fun _ _ _ h => by exact h) C (noCa hca)) fun _ _ g hfp =>
    restPoolL b st rfl hi hne (Heap.lt_size (N _ List.mem_cons_self).1) hfp (turn g) (fin g)
end
section
variable {s : Shared} {h₀ : Heap} {L pl : Addr} {m : Str → Option Value} {fix : Led} {F : Nat → Value → Led → Prop} {n b st : Nat} {ps : List Int} {vs : List Value} {e : Nat}
theorem pool_ap {new : Led} {o o' : Obj} (ap : ∀ p ∈ new, ∀ q ∈ [(pl, o)] ++ fix, q.1 ≠ p.1) : ∀ p ∈ new, ∀ q ∈ (pl, o') :: fix, q.1 ≠ p.1 := fun p hp q hq => by
  rcases List.mem_cons.mp hq with rfl | hq
  · exact ap p hp (pl, o) List.mem_cons_self
  · exact ap p hp q (List.mem_cons_of_mem _ hq)
theorem finPool {Q : Value → Shared → Prop}
    (k : ∀ D h tk ys new vs' e', IntsAre vs' (ps.drop (b + n * st)) → Fr h₀ L h m → News h₀ L h ((D, LCg.lst ys) :: (new ++ ((pl, lsO vs' e') :: fix))) → (∀ p ∈ new ++ ((pl, lsO vs' e') :: fix), p.1 ≠ D) → (∀ p ∈ new, ∀ q ∈ (pl, lsO vs' e') :: fix, q.1 ≠ p.1) → CompDone F n ys new → Q (.ref D) { s with heap := h, toks := tk }) :
    FinGM h₀ L m s (fun a b => a = b) [(pl, lsO vs e)] fix (fun i => PoolAt pl ps (b + i * st)) F n Q := fun D h tk gs ys new mov hG _ hJ F₁ N₁ oD ap d => by
  obtain ⟨vs', e', em, hI⟩ := hJ
  subst em hG
  exact k D h tk ys new vs' e' hI F₁ N₁ oD (pool_ap ap) d
theorem finPoolA {y : Str} {Q : Flow → Shared → Prop}
    (k : ∀ D h tk ys new vs' e', IntsAre vs' (ps.drop (b + n * st)) → Fr h₀ L h (fun z => if z = y then some (.ref D) else m z) → News h₀ L h ((D, LCg.lst ys) :: (new ++ ((pl, lsO vs' e') :: fix))) → (∀ p ∈ new ++ ((pl, lsO vs' e') :: fix), p.1 ≠ D) → (∀ p ∈ new, ∀ q ∈ (pl, lsO vs' e') :: fix, q.1 ≠ p.1) → CompDone F n ys new → Q .next { s with heap := h, toks := tk }) :
    FinGAM h₀ L m s (fun a b => a = b) [(pl, lsO vs e)] fix (fun i => PoolAt pl ps (b + i * st)) F n y Q := fun D h tk gs ys new mov hG _ hJ F₁ N₁ oD ap d => by
  obtain ⟨vs', e', em, hI⟩ := hJ
  subst em hG
  exact k D h tk ys new vs' e' hI F₁ N₁ oD (pool_ap ap) d
end
/-- a call that also takes from the pool's head -/
def GoesP (w : World) (loose : List Str) (mean : ExcName → Option Value) (mg mb : Str → Option Value) (news : Led) (pl : Addr) (ps : List Int) (used : Nat) (f : Addr) (args : Args) (d u : Nat) (Out : Led → Value → Prop) : Prop :=
  ∀ (dp un : Nat) (gd : Option (List Code)) (env : Env) (outer : List Env) (A₀ : Around) (base h₀ : Heap) (L : Addr) (m : Str → Option Value) (s : Shared) (R : Result → Shared → Prop) (o1 o2 o3 : Obj) (vs : List Value) (e : Nat),
    IsTab o1 → IsTab o2 → IsTab o3 → IntsAre vs ps → Below A₀ base outer h₀ → Fr h₀ L s.heap m → (hd.heap_1 w.params).In h₀ → News h₀ L s.heap ((142, o1) :: (178, o2) :: (225, o3) :: (pl, lsO vs e) :: news) → (∀ p ∈ news, p.1 ≠ 142) → (∀ p ∈ news, p.1 ≠ 178) → (∀ p ∈ news, p.1 ≠ 225) → (∀ p ∈ news, p.1 ≠ pl) →
    @Ne Nat pl 142 → @Ne Nat pl 178 → @Ne Nat pl 225 → AllBare s.gens → Top topProg loose mean mg mb h₀ → env.frame = some L → env.scope.kind = .function → dp + d < recursionLimit → un + u < cLine →
    (∀ r new h' tk' gs' o1' o2' o3' vs' e', IsTab o1' → IsTab o2' → IsTab o3' → IntsAre vs' (ps.drop used) → Fr h₀ L h' m → News h₀ L h' (new ++ ((142, o1') :: (178, o2') :: (225, o3') :: (pl, lsO vs' e') :: news)) → (∀ q ∈ new, ∀ p ∈ (142, o1) :: (178, o2) :: (225, o3) :: (pl, lsO vs e) :: news, p.1 ≠ q.1) → AllBare gs' → Out new r → R (.ok (.ret r)) { s with heap := h', toks := tk', gens := gs' }) →
    codeAny (model PySem.Challenge.pw_ay0011_01 w) (gTop dp un gd env outer) (.call (.ref f) args) R s
theorem idx_lt {i j k r c n len : Nat} (hi : i < r) (hj : j < c) (hk : k < n) (h : r * (c * n) ≤ len) : i * (c * n) + j * n + k < len := by
  have h1 : (i + 1) * (c * n) ≤ r * (c * n) := Nat.mul_le_mul_right _ hi
  have h2 : (j + 1) * n ≤ c * n := Nat.mul_le_mul_right _ hj
  rw [Nat.add_one_mul] at h1 h2
  omega
theorem tabsIn4 {led news : Led} {o1 o2 o3 x a b c y : Obj} {pl : Addr} (h1 : (142, a) ∈ led) (h2 : (178, b) ∈ led) (h3 : (225, c) ∈ led) (h4 : (pl, y) ∈ led) (hn : ∀ p ∈ news, p ∈ led) : ∀ p ∈ (142, o1) :: (178, o2) :: (225, o3) :: (pl, x) :: news, ∃ p' ∈ led, p'.1 = p.1 := fun p hp => by
  rcases List.mem_cons.mp hp with rfl | hp
  · exact ⟨_, h1, rfl⟩
  · rcases List.mem_cons.mp hp with rfl | hp
    · exact ⟨_, h2, rfl⟩
    · rcases List.mem_cons.mp hp with rfl | hp
      · exact ⟨_, h3, rfl⟩
      · rcases List.mem_cons.mp hp with rfl | hp
        · exact ⟨_, h4, rfl⟩
        · exact ⟨p, hn p hp, rfl⟩
end
section
/-- what the verifier reckons is rest + low -/
theorem told_eq {q : Int} {n c : Nat} {A f mk : Nat → List Int} {s lo ch : List Int} (hn : n = 2 ∨ n = 3) (hc : c = 1 ∨ c = 2) (lA : ∀ k, k < c → (A k).length = n) (lf : ∀ k, k < c → (f k).length = n) (lm : ∀ k, k < c → (mk k).length = n) (ls : s.length = n) (ll : lo.length = n) (lc : ch.length = n) :
    List.zipWith (fun a b => (a - b) % q) (msum q (fun k => pmul q (A k) (List.zipWith (fun a b => (a + b) % q) (mk k) (pmul q ch (f k)))) c) (pmul q ch (List.zipWith (fun a b => a - b) (List.zipWith (fun a b => (a + b) % q) (msum q (fun k => pmul q (A k) (f k)) c) s) lo))
      = List.zipWith (fun a b => (a + b) % q) (List.zipWith (fun a b => (a - b) % q) (msum q (fun k => pmul q (A k) (mk k)) c) (pmul q ch s)) (pmul q ch lo) := by
  rcases hn with rfl | rfl
  · obtain ⟨s0, s1, rfl⟩ := list_two ls
    obtain ⟨l0, l1, rfl⟩ := list_two ll
    obtain ⟨c0, c1, rfl⟩ := list_two lc
    rcases hc with rfl | rfl
    · obtain ⟨a0, a1, eA⟩ := list_two (lA 0 (by omega))
      obtain ⟨f0, f1, eF⟩ := list_two (lf 0 (by omega))
      obtain ⟨m0, m1, eM⟩ := list_two (lm 0 (by omega))
      simp only [msum, eA, eF, eM, pmul2, pmul3, List.zipWith, List.cons.injEq, and_true]
      refine ⟨?_, ?_⟩ <;> (refine' eqMod (by (repeat first | apply EqM.modL | apply EqM.sub | apply EqM.add | apply EqM.mul | exact EqM.rfl')) (by (repeat first | apply EqM.modL | apply EqM.sub | apply EqM.add | apply EqM.mul | exact EqM.rfl')) ?_) <;> grind
    · obtain ⟨a0, a1, eA⟩ := list_two (lA 0 (by omega))
      obtain ⟨f0, f1, eF⟩ := list_two (lf 0 (by omega))
      obtain ⟨m0, m1, eM⟩ := list_two (lm 0 (by omega))
      obtain ⟨a2, a3, eA'⟩ := list_two (lA 1 (by omega))
      obtain ⟨f2, f3, eF'⟩ := list_two (lf 1 (by omega))
      obtain ⟨m2, m3, eM'⟩ := list_two (lm 1 (by omega))
      simp only [msum, Nat.zero_add, eA, eF, eM, eA', eF', eM', pmul2, pmul3, List.zipWith, List.cons.injEq, and_true]
      refine ⟨?_, ?_⟩ <;> (refine' eqMod (by (repeat first | apply EqM.modL | apply EqM.sub | apply EqM.add | apply EqM.mul | exact EqM.rfl')) (by (repeat first | apply EqM.modL | apply EqM.sub | apply EqM.add | apply EqM.mul | exact EqM.rfl')) ?_) <;> grind
  · obtain ⟨s0, s1, s2, rfl⟩ := list_three ls
    obtain ⟨l0, l1, l2, rfl⟩ := list_three ll
    obtain ⟨c0, c1, c2, rfl⟩ := list_three lc
    rcases hc with rfl | rfl
    · obtain ⟨a0, a1, a2, eA⟩ := list_three (lA 0 (by omega))
      obtain ⟨f0, f1, f2, eF⟩ := list_three (lf 0 (by omega))
      obtain ⟨m0, m1, m2, eM⟩ := list_three (lm 0 (by omega))
      simp only [msum, eA, eF, eM, pmul2, pmul3, List.zipWith, List.cons.injEq, and_true]
      refine ⟨?_, ?_, ?_⟩ <;> (refine' eqMod (by (repeat first | apply EqM.modL | apply EqM.sub | apply EqM.add | apply EqM.mul | exact EqM.rfl')) (by (repeat first | apply EqM.modL | apply EqM.sub | apply EqM.add | apply EqM.mul | exact EqM.rfl')) ?_) <;> grind
    · obtain ⟨a0, a1, a2, eA⟩ := list_three (lA 0 (by omega))
      obtain ⟨f0, f1, f2, eF⟩ := list_three (lf 0 (by omega))
      obtain ⟨m0, m1, m2, eM⟩ := list_three (lm 0 (by omega))
      obtain ⟨a3, a4, a5, eA'⟩ := list_three (lA 1 (by omega))
      obtain ⟨f3, f4, f5, eF'⟩ := list_three (lf 1 (by omega))
      obtain ⟨m3, m4, m5, eM'⟩ := list_three (lm 1 (by omega))
      simp only [msum, Nat.zero_add, eA, eF, eM, eA', eF', eM', pmul2, pmul3, List.zipWith, List.cons.injEq, and_true]
      refine ⟨?_, ?_, ?_⟩ <;> (refine' eqMod (by (repeat first | apply EqM.modL | apply EqM.sub | apply EqM.add | apply EqM.mul | exact EqM.rfl')) (by (repeat first | apply EqM.modL | apply EqM.sub | apply EqM.add | apply EqM.mul | exact EqM.rfl')) ?_) <;> grind
end
section
example : True := by
  w_top off
  trivial
section
variable {w : World} {loose : List Str} {mean : ExcName → Option Value} {mg mb : Str → Option Value} {news : Led}
local macro_rules | `(tactic| walk_at "call ref") => `(tactic| (k_here; kco_any "__call__"; kco_here; k_dflt (refine wpAny_call ?_; refine kco_code (by k_in) (by k_inst) rfl (by k_is) (by k_is) (by k_is) ?_; (try dsimp only); refine halt ?_)))
local macro_rules | `(tactic| walk_at "exec Assign cons ListComp") => `(tactic| (k_here; refine halt ?_))
local macro_rules | `(tactic| walk_at "call type:zip") => `(tactic| (k_here; refine halt ?_))
set_option maxHeartbeats 1000000 in
theorem subp {rg x y : Addr} {q n : Int} {as bs : List Int} (hR : RingAt w news rg q n) (hx : PolyAt w news rg x as) (hy : PolyAt w news rg y bs) (hq : 0 < q) (ha : (as.length : Int) = n) (hb : (bs.length : Int) = n) (hn : n < 2 ^ 20) :
    Goes w loose mean mg mb news 388 [.ref x, .ref y] 12 90 (fun new r => ∃ z, r = .ref z ∧ PolyAt w new rg z (List.zipWith (fun a b => (a - b) % q) as bs)) := by
  intro dp un gd env outer A₀ base h₀ L m s R B F X N T hf hk hdp hun hret
  have hxc340 : HaltCall 340 := .mk
  have hR' := hR
  have hx' := hx
  obtain ⟨dr, r1, r2, r3, r4, hr1, hr2⟩ := hR
  obtain ⟨dx, lx, ex, x1, x2, vx, hx1, hx2, hx3, hx4⟩ := hx
  obtain ⟨dy, ly, ey, y1, y2, vy, hy1, hy2, hy3, hy4⟩ := hy
  k_dflt ktr_enter
  k_steps <;> repeat' (first | (refine Halt.go ?_; (with_reducible show wpAny _ _ (call (Value.ref 340) _) _ _ _); k_dflt (refine useNilA (by k_asm) (by k_asm) (by k_asm) (by k_asm) (by k_asm) (by kpt_hd) (by kpt_hd) (submod (by exact RingAt.mono (by with_reducible assumption) (by lcg_sub)) (by exact PolyAt.mono (by with_reducible assumption) (by lcg_sub)) (by with_reducible assumption)) (by k_room) (by k_units) ?_; k_whole); k_dflt (intro t9 h9 tk9 F9 N9; (try dsimp only [List.nil_append, List.cons_append] at N9); (try k_sweep)); k_steps) | (refine Halt.go ?_; (with_reducible show codeAny _ _ (.call (.ref 272) _) _ _); k_dflt (refine useRing (by k_asm) (by k_asm) (by k_asm) (by k_asm) (by k_asm) (by kpt_hd) (by kpt_hd) (by exact RingAt.mono (by assumption) (by lcg_sub)) (by k_mem) (by first | assumption | exact IntsAre.cons _ _ (by assumption) | exact IntsAre.cons _ _ (IntsAre.cons _ _ .nil) | exact IntsAre.cons _ _ (IntsAre.cons _ _ (IntsAre.cons _ _ .nil))) (by first | assumption | (simp only [List.length_cons, List.length_nil] at *; omega)) (by omega) (by k_room) (by k_units) ?_; k_whole); k_dflt (intro x9 d9 t9 u9 h9 tk9 F9 N9 b9 c9; (try k_sweep)); k_steps))
  refine Halt.go ?_
  k_dflt (refine comp_assign (by k_asm) (by rfl) (by with_unfolding_all rfl) (by with_unfolding_all rfl) (by rfl) (by decide) (by rfl) (by rfl) ?_)
  k_steps <;> repeat' (first | (refine Halt.go ?_; (with_reducible show wpAny _ _ (call (Value.ref 340) _) _ _ _); k_dflt (refine useNilA (by k_asm) (by k_asm) (by k_asm) (by k_asm) (by k_asm) (by kpt_hd) (by kpt_hd) (submod (by exact RingAt.mono (by with_reducible assumption) (by lcg_sub)) (by exact PolyAt.mono (by with_reducible assumption) (by lcg_sub)) (by with_reducible assumption)) (by k_room) (by k_units) ?_; k_whole); k_dflt (intro t9 h9 tk9 F9 N9; (try dsimp only [List.nil_append, List.cons_append] at N9); (try k_sweep)); k_steps) | (refine Halt.go ?_; (with_reducible show codeAny _ _ (.call (.ref 272) _) _ _); k_dflt (refine useRing (by k_asm) (by k_asm) (by k_asm) (by k_asm) (by k_asm) (by kpt_hd) (by kpt_hd) (by exact RingAt.mono (by assumption) (by lcg_sub)) (by k_mem) (by first | assumption | exact IntsAre.cons _ _ (by assumption) | exact IntsAre.cons _ _ (IntsAre.cons _ _ .nil) | exact IntsAre.cons _ _ (IntsAre.cons _ _ (IntsAre.cons _ _ .nil))) (by first | assumption | (simp only [List.length_cons, List.length_nil] at *; omega)) (by omega) (by k_room) (by k_units) ?_; k_whole); k_dflt (intro x9 d9 t9 u9 h9 tk9 F9 N9 b9 c9; (try k_sweep)); k_steps))
  refine Halt.go ?_
  have hvx := hx4.length
  have hvy := hy4.length
  have hlen : (((List.zipWith (fun a b => (a - b) % q) as bs)).length : Int) = n := by rw [List.length_zipWith]; omega
  refine src_zipI (n := as.length) (IntEl fun i => (as.getD i 0 - bs.getD i 0) % q) (by rfl) (by k_asm) (by k_asm) (by k_mem) (by k_mem) hx4 hy4 rfl (by omega) (by omega) (by rfl) (by rfl) (by rfl) (by decide) (fun _ => by rfl) ?turn ?fin
  (case turn =>
    intro C i g t1 t2 oC m₂ led h tk E' hi hC hx1 hx2 qC hs F' N'
    k_steps <;> repeat' (first | (refine Halt.go ?_; (with_reducible show wpAny _ _ (call (Value.ref 340) _) _ _ _); k_dflt (refine useNilA (by k_asm) (by k_asm) (by k_asm) (by k_asm) (by k_asm) (by kpt_hd) (by kpt_hd) (submod (by exact RingAt.mono (by with_reducible assumption) (by lcg_sub)) (by exact PolyAt.mono (by with_reducible assumption) (by lcg_sub)) (by with_reducible assumption)) (by k_room) (by k_units) ?_; k_whole); k_dflt (intro t9 h9 tk9 F9 N9; (try dsimp only [List.nil_append, List.cons_append] at N9); (try k_sweep)); k_steps) | (refine Halt.go ?_; (with_reducible show codeAny _ _ (.call (.ref 272) _) _ _); k_dflt (refine useRing (by k_asm) (by k_asm) (by k_asm) (by k_asm) (by k_asm) (by kpt_hd) (by kpt_hd) (by exact RingAt.mono (by assumption) (by lcg_sub)) (by k_mem) (by first | assumption | exact IntsAre.cons _ _ (by assumption) | exact IntsAre.cons _ _ (IntsAre.cons _ _ .nil) | exact IntsAre.cons _ _ (IntsAre.cons _ _ (IntsAre.cons _ _ .nil))) (by first | assumption | (simp only [List.length_cons, List.length_nil] at *; omega)) (by omega) (by k_room) (by k_units) ?_; k_whole); k_dflt (intro x9 d9 t9 u9 h9 tk9 F9 N9 b9 c9; (try k_sweep)); k_steps))
    exact ⟨_, _, [], rfl, by assumption, by assumption, apNil, rfl, _, rfl⟩)
  intro g
  unfold FinGA
  intro D h tk ys new F' N' oD ap hd
  have hI : IntsAre ys (List.zipWith (fun a b => (a - b) % q) as bs) := hd.ints (by rw [List.length_zipWith]; omega) fun i hi => by
    simp only [List.getD_eq_getElem?_getD, List.getElem?_zipWith]
    have h1 : i < as.length := hi
    have h2 : i < bs.length := by omega
    simp [List.getElem?_eq_getElem h1, List.getElem?_eq_getElem h2]
  k_steps <;> repeat' (first | (refine Halt.go ?_; (with_reducible show wpAny _ _ (call (Value.ref 340) _) _ _ _); k_dflt (refine useNilA (by k_asm) (by k_asm) (by k_asm) (by k_asm) (by k_asm) (by kpt_hd) (by kpt_hd) (submod (by exact RingAt.mono (by with_reducible assumption) (by lcg_sub)) (by exact PolyAt.mono (by with_reducible assumption) (by lcg_sub)) (by with_reducible assumption)) (by k_room) (by k_units) ?_; k_whole); k_dflt (intro t9 h9 tk9 F9 N9; (try dsimp only [List.nil_append, List.cons_append] at N9); (try k_sweep)); k_steps) | (refine Halt.go ?_; (with_reducible show codeAny _ _ (.call (.ref 272) _) _ _); k_dflt (refine useRing (by k_asm) (by k_asm) (by k_asm) (by k_asm) (by k_asm) (by kpt_hd) (by kpt_hd) (by exact RingAt.mono (by assumption) (by lcg_sub)) (by k_mem) (by first | assumption | exact IntsAre.cons _ _ (by assumption) | exact IntsAre.cons _ _ (IntsAre.cons _ _ .nil) | exact IntsAre.cons _ _ (IntsAre.cons _ _ (IntsAre.cons _ _ .nil))) (by first | assumption | (simp only [List.length_cons, List.length_nil] at *; omega)) (by omega) (by k_room) (by k_units) ?_; k_whole); k_dflt (intro x9 d9 t9 u9 h9 tk9 F9 N9 b9 c9; (try k_sweep)); k_steps))
  refine' retPoly hret ?F ?N ?a ?b ?c hI ?s ?x ?y ?z
  (case F => assumption)
  (case N => assumption)
  (case a => k_mem)
  (case b => k_mem)
  (case c => k_mem)
  (case s => lcg_sub)
  (case x => k_offL)
  (case y => k_offL)
  (case z => k_offL)
end
end
section
example : True := by
  w_top off
  trivial
section
variable {w : World} {loose : List Str} {mean : ExcName → Option Value} {mg mb : Str → Option Value} {news : Led}
local macro_rules | `(tactic| walk_at "call ref") => `(tactic| (k_here; kco_any "__call__"; kco_here; k_dflt (refine wpAny_call ?_; refine kco_code (by k_in) (by k_inst) rfl (by k_is) (by k_is) (by k_is) ?_; (try dsimp only); refine halt ?_)))
set_option maxHeartbeats 1000000 in
theorem radd0 {rg x : Addr} {q n : Int} {a0 : Int} {as : List Int} {tz : Tok} (hR : RingAt w news rg q n) (hx : PolyAt w news rg x (a0 :: as)) (hq : 0 < q) (ha : ((a0 :: as).length : Int) = n) (hn : n < 2 ^ 20) :
    Goes w loose mean mg mb news 369 [.ref x, .int 0 tz] 14 100 (fun new r => ∃ z, r = .ref z ∧ PolyAt w new rg z ((a0 + 0) % q :: as)) := by
  intro dp un gd env outer A₀ base h₀ L m s R B F X N T hf hk hdp hun hret
  have hxc333 : HaltCall 333 := .mk
  have hR' := hR
  have hx' := hx
  obtain ⟨dr, r1, r2, r3, r4, hr1, hr2⟩ := hR
  obtain ⟨dx, lx, ex, x1, x2, vx, hx1, hx2, hx3, hx4⟩ := hx
  cases hx4 with
  | @cons _ ta vt _ hx4 =>
  have hvx := hx4.length
  have hvz : vt.length < 2 ^ 20 := by simp only [List.length_cons] at ha; omega
  k_dflt ktr_enter
  k_steps <;> repeat' (first | (refine Halt.go ?_; (with_reducible show wpAny _ _ (call (Value.ref 333) _) _ _ _); k_dflt (refine useNilA (by k_asm) (by k_asm) (by k_asm) (by k_asm) (by k_asm) (by kpt_hd) (by kpt_hd) (addmod (by exact RingAt.mono (by with_reducible assumption) (by lcg_sub)) (by exact PolyAt.mono (by with_reducible assumption) (by lcg_sub)) (by with_reducible assumption)) (by k_room) (by k_units) ?_; k_whole); k_dflt (intro t9 h9 tk9 F9 N9; (try dsimp only [List.nil_append, List.cons_append] at N9); (try k_sweep)); k_steps) | (refine Halt.go ?_; (with_reducible show codeAny _ _ (.call (.ref 272) _) _ _); k_dflt (refine useRing (by k_asm) (by k_asm) (by k_asm) (by k_asm) (by k_asm) (by kpt_hd) (by kpt_hd) (by exact RingAt.mono (by assumption) (by lcg_sub)) (by k_mem) (by first | assumption | exact IntsAre.cons _ _ (by assumption) | exact IntsAre.cons _ _ (IntsAre.cons _ _ .nil) | exact IntsAre.cons _ _ (IntsAre.cons _ _ (IntsAre.cons _ _ .nil))) (by first | assumption | (simp only [List.length_cons, List.length_nil] at *; omega)) (by omega) (by k_room) (by k_units) ?_; k_whole); k_dflt (intro x9 d9 t9 u9 h9 tk9 F9 N9 b9 c9; (try k_sweep)); k_steps))
  refine' retPoly hret ?F ?N ?a ?b ?c (IntsAre.cons _ _ hx4) ?s ?x ?y ?z
  (case F => assumption)
  (case N => assumption)
  (case a => k_mem)
  (case b => k_mem)
  (case c => k_mem)
  (case s => lcg_sub)
  (case x => k_offL)
  (case y => k_offL)
  (case z => k_offL)
end
end
section
section
variable {w : World} {loose : List Str} {mean : ExcName → Option Value} {mg mb : Str → Option Value}
theorem sumStep {led : Led} {rg : Addr} {q n : Int} {c : Nat} {p : Nat → List Int} {dp un : Nat} {gd : Option (List Code)} {env : Env} {outer : List Env} {A₀ : Around} {base h₀ : Heap} {L : Addr} {m : Str → Option Value}
    (hR : RingAt w led rg q n) (B : Below A₀ base outer h₀) (X : (hd.heap_1 w.params).In h₀) (T : Top topProg loose mean mg mb h₀) (hf : env.frame = some L) (hk : env.scope.kind = .function) (hd : dp + 14 < recursionLimit) (hu : un + 100 < cLine)
    (hp : ∀ i, i < c → ((p i).length : Int) = n) (hn : n < 2 ^ 20) (hn0 : 0 < n) (hq : 0 < q) (hmod : ∀ i, i < c → ∀ x ∈ p i, x % q = x) (i : Nat) (hi : i < c) :
    SumStep PySem.Challenge.pw_ay0011_01 w (gTop dp un gd env outer) h₀ L m led (fun k v new => ∃ z, v = .ref z ∧ PolyAt w new rg z (p k)) (SumAcc w rg q p) i := by
  intro s total v accL newv rest E hA hF s1 s2 s3 F N
  obtain ⟨z, rfl, hz⟩ := hF
  have hz' := hz.mono s3
  have hR' := hR.mono s1
  obtain ⟨dz, lz, ez, z1, z2, vz, hz1, hz2, hz3, hz4⟩ := id hz'
  cases i with
  | zero =>
    obtain ⟨⟨t, rfl⟩, rfl⟩ := hA
    have hx98 : ∃ a0 as, p 0 = a0 :: as := by
      have := hp 0 hi
      cases h : p 0 with
      | nil => rw [h] at this; simp at this; omega
      | cons a r => exact ⟨a, r, rfl⟩
    obtain ⟨a0, as, e0⟩ := hx98
    rw [e0] at hz'
    refine radd_int F X N hz1 hz2 ?_
    have hl := hp 0 hi
    rw [e0] at hl
    refine useGoes B F X N T hf hk (radd0 hR' hz' hq hl hn) (by omega) (by omega) ?_
    rintro r new h' tk' F' N' ap ⟨z', rfl, hz''⟩
    refine ⟨_, _, new, rfl, F', N', ap, z', rfl, ?_⟩
    have : (a0 + 0) % q = a0 := by rw [Int.add_zero]; exact hmod 0 hi a0 (by rw [e0]; exact List.mem_cons_self)
    rw [this] at hz''
    show PolyAt w new rg z' (p 0)
    rw [e0]
    exact hz''
  | succ k =>
    obtain ⟨zt, rfl, hzt⟩ := hA
    have hzt' := hzt.mono s2
    obtain ⟨dt, lt, et, y1, y2, vt, ht1, ht2, ht3, ht4⟩ := id hzt'
    have ll := msum_length (q := q) (n := n) (p := p) k fun i h => hp i (by omega)
    k_dflt (refine' binop_K ?k1 ?k2 ?k3 ?k4 ?k5 ?k6 ?k7 ?_; (case k1 => k_asm); (case k2 => k_asm); (case k3 => k_inst); (case k4 => k_typeOf); (case k5 => k_is); (case k6 => k_is); (case k7 => k_is); k_whole)
    refine useGoes B F X N T hf hk (addp hR' hzt' hz' hq ll (hp _ hi) hn) (by omega) (by omega) ?_
    rintro r new h' tk' F' N' ap ⟨z', rfl, hz''⟩
    exact ⟨_, _, new, rfl, F', N', ap, z', rfl, hz''⟩
end
end
section
local macro_rules | `(tactic| kpt_conv) => `(tactic| (k_here; (with_reducible show wpAny _ _ (binaryOp _ (Value.ref _) (Value.ref _)) _ _ _); k_dflt (refine binop_K (by k_asm) (by k_asm) (by k_inst) (by k_typeOf) (by k_is) (by k_is) (by k_is) ?_; k_whole)))
local macro_rules | `(tactic| walk_at "binaryOp Add ref ref") => `(tactic| kpt_conv)
local macro_rules | `(tactic| walk_at "binaryOp Sub ref ref") => `(tactic| kpt_conv)
local macro_rules | `(tactic| walk_at "binaryOp Mult ref ref") => `(tactic| kpt_conv)
local macro_rules | `(tactic| walk_at "binaryOp MatMult ref ref") => `(tactic| kpt_conv)
local macro_rules | `(tactic| walk_at "callWith ref") => `(tactic| (k_here; (with_reducible show wpAny _ _ (callWith _ (Value.ref _) _ _ (backToKw _ (keywordEach (_ :: _) _))) _ _ _); kco_any "__call__"; kco_here; k_dflt (refine kcoKW (by k_in) (by k_inst) rfl (by k_is) ?_; k_whole)))
section
example : True := by
  w_top off
  trivial
section
variable {w : World} {loose : List Str} {mean : ExcName → Option Value} {mg mb : Str → Option Value} {news : Led}
local macro_rules | `(tactic| walk_at "eval ListComp") => `(tactic| (k_here; refine halt ?_))
local macro_rules | `(tactic| walk_at "call builtin:list.pop") => `(tactic| (k_here; refine halt ?_))
local macro_rules | `(tactic| walk_at "call ref") => `(tactic| (k_here; kco_any "__call__"; kco_here; k_dflt (refine wpAny_call ?_; refine kco_code (by k_in) (by k_inst) rfl (by k_is) (by k_is) (by k_is) ?_; (try dsimp only); refine halt ?_)))
set_option maxHeartbeats 2000000 in
theorem lawMatrix {md rg pl sz : Addr} {q : Int} {n r c : Nat} {bound less : Int} {tb tl tr tc : Tok} {es : Nat} {ps : List Int} (hM : ModAt w news md rg) (hR : RingAt w news rg q n) (hS : (sz, lsO [.int (r : Int) tr, .int (c : Int) tc] es) ∈ news) (hr : 0 < r) (hr' : r < 2 ^ 11) (hc' : c < 2 ^ 20) (hn : n < 2 ^ 20) (hb : 0 < bound) (hp : r * (c * n) ≤ ps.length) (hp' : ps.length < 2 ^ 20) :
    GoesP w loose mean mg mb news pl ps (r * (c * n)) 454 ⟨[.ref md, .ref pl, .ref sz, .int bound tb, .int less tl], []⟩ 60 600 (fun new v => ∃ z, v = .ref z ∧ MatAt w (new ++ news) md rg z r c (fun i j => (List.range n).map fun k => ps.getD (i * (c * n) + j * n + k) 0 % bound - less)) := by
  intro dp un gd env outer A₀ base h₀ L m s R o1 o2 o3 vs e tb1 tb2 tb3 hI B F X N n1 n2 n3 n4 a1 a2 a3 bare T hf hk hdp hun hret
  obtain ⟨dm, tm, hm1, hm2⟩ := id hM
  obtain ⟨dr, r1, r2, r3, r4, hr1, hr2⟩ := id hR
  (refine' code_defC ?k1 ?k2 ?k3 ?k4 ?k5 ?kA ?kF ?kK ?k6 ?k7 ?k8 ?k9 ?kB ?kD ?_ ?c2 ?c3 ?c4; (case kA => exact rfl); (case kF => first | exact rfl | assumption); (case kK => first | exact rfl | assumption); (case k1 => k_asm); (case k2 => k_asm); (case k3 => k_asm); (case k4 => k_asm); (case k5 => k_asm); (case k6 => k_is); (case k7 => k_is); (case k8 => k_room); (case k9 => exact BindsTo.of_eq rfl); (case kB => exact rfl); (case kD => decide +kernel); (case c2 => exact rfl); (case c3 => exact rfl); (case c4 => exact rfl); k_whole; intro g' L' h' tk' cells' FG' F' N' Y' B' X' T' l1; (try k_lt l1); (have hY := kc_five Y'; obtain ⟨oc5, oc4, oc3, oc2, oc1, hE', d5, d4, d3, d2, d1⟩ := hY; subst hE'; clear Y'); (try dsimp only [List.cons_append, List.nil_append] at N'); (try dsimp only); (try k_fold))
  k_steps
  refine Halt.go ?_
  rename News _ _ _ _ => N1
  rename Fr _ _ _ _ => F1
  have hx98 : ∃ oR, oR.data = .cell (some (.ref rg)) ∧ News g' L' _ ((pl, lsO vs e) :: ((L' + 1 + 1 + 1 + 1 + 1, oR) :: (L' + 1 + 1 + 1 + 1, oc4) :: (L' + 1 + 1 + 1, oc3) :: (L' + 1 + 1, oc2) :: (L' + 1, oc1) :: (142, o1) :: (178, o2) :: (225, o3) :: news)) := ⟨_, by assumption, newsSub N1 (by lcg_sub)⟩
  obtain ⟨oR, dR, N2⟩ := hx98
  clear N1
  k_dflt (refine comp_exprM (by k_asm) (by with_unfolding_all rfl) (by rfl) (by decide) ?_)
  k_steps
  rename News _ _ _ _ => N3
  rename Fr _ _ _ _ => F3
  refine srcY_pool (RowEl w rg c fun i j => (List.range n).map fun k => ps.getD (i * (c * n) + j * n + k) 0 % bound - less) 0 (c * n) (by rfl) F3 N3 (by assumption) (by omega) (by rfl) (by rfl) (fun _ => by rfl) (by simpa using hI) ?hne ?turn ?fin
  (case hne => k_all)
  (case turn =>
    intro g1 C i ti oC m₂ led1 vs1 e1 h tk E' hi hC hmi qC1 hs1 off1' hI1 F₁ N₁
    rw [Nat.zero_add] at hI1
    have q11 : (L' + 1 + 1 + 1 + 1 + 1, oR) ∈ led1 := hs1 _ (by k_mem)
    have q12 : (L' + 1 + 1 + 1 + 1, oc4) ∈ led1 := hs1 _ (by k_mem)
    have q13 : (L' + 1 + 1 + 1, oc3) ∈ led1 := hs1 _ (by k_mem)
    have q14 : (L' + 1 + 1, oc2) ∈ led1 := hs1 _ (by k_mem)
    have q15 : (L' + 1, oc1) ∈ led1 := hs1 _ (by k_mem)
    have hsub1 : ∀ p ∈ news, p ∈ led1 := subVia hs1 (by lcg_sub)
    have hS1 := hsub1 _ hS
    clear N3 F3 hs1
    k_steps
    refine Halt.go ?_
    k_dflt (refine comp_exprM (by k_asm) (by with_unfolding_all rfl) (by rfl) (by decide) ?_)
    k_steps
    rename News _ _ _ _ => N4
    rename Fr _ _ _ _ => F4
    refine srcY_pool (PolyEl w rg fun j => (List.range n).map fun k => ps.getD (i * (c * n) + j * n + k) 0 % bound - less) (i * (c * n)) n (by rfl) F4 N4 (by assumption) (by omega) (by rfl) (by rfl) (fun _ => by rfl) hI1 off1' ?turn2 ?fin2
    (case turn2 =>
      intro g2 C2 j tj oC2 m2 led2 vs2 e2 h2 tk2 E2 hj hC2 hmj q26 hs2 off2' hI2 F₂ N₂
      replace q11 := hs2 _ q11
      replace q12 := hs2 _ q12
      replace q13 := hs2 _ q13
      replace q14 := hs2 _ q14
      replace q15 := hs2 _ q15
      have hsub2 : ∀ p ∈ news, p ∈ led2 := subVia hs2 hsub1
      have hr1' := hsub2 _ hr1
      have hr2' := hsub2 _ hr2
      clear N4 F4 hs2
      k_steps
      refine Halt.go ?_
      k_dflt (refine comp_exprM (by k_asm) (by with_unfolding_all rfl) (by rfl) (by decide) ?_)
      k_steps
      rename News _ _ _ _ => N5
      rename Fr _ _ _ _ => F5
      refine srcY_pool (IntEl fun k => ps.getD (i * (c * n) + j * n + k) 0 % bound - less) (i * (c * n) + j * n) 1 (by rfl) F5 N5 (by assumption) (by omega) (by rfl) (by rfl) (fun _ => by rfl) hI2 off2' ?turn3 ?fin3
      (case turn3 =>
        intro g3 C3 k tk' oC3 m3 led3 vs3 e3 h3 tk3 E3 hk hC3 hmk q36 hs3 off3' hI3 F₃ N₃
        rw [Nat.mul_one] at hI3
        obtain ⟨t3, vs3', rfl, hI3'⟩ := ints_drop hI3 (idx_lt hi hj hk hp)
        replace q11 := hs3 _ q11
        replace q12 := hs3 _ q12
        replace q13 := hs3 _ q13
        replace q14 := hs3 _ q14
        replace q15 := hs3 _ q15
        clear N5 F5 hs3
        k_steps
        refine Halt.go ?_
        rename Fr _ _ _ _ => F7
        rename News _ _ _ _ => N7
        k_dflt (refine pop0 F7 N7 (Upd.head off3') (by rw [hI3'.length, List.length_drop]; omega) ?_)
        intro h8 F8 N8
        clear N7 F7
        k_steps
        rename Fr _ _ _ _ => F9
        rename News _ _ _ _ => N9
        exact ⟨_, _, [], vs3', _, rfl, by rw [Nat.mul_one, ← Nat.add_assoc]; exact hI3', F9, N9, (fun _ h => nomatch h), rfl, _, by rw [Int.fmod_eq_emod_of_nonneg _ (by omega)]⟩)
      intro g3
      refine finPool ?_
      intro D3 h3 tk3 ys3 new3 vs3 e3 hI3 F₃ N₃ oD3 ap3 hd3
      rw [Nat.mul_one] at hI3
      have hI6 : IntsAre ys3 ((List.range n).map fun k => ps.getD (i * (c * n) + j * n + k) 0 % bound - less) := hd3.ints (by simp) fun k hk => by simp [List.getD_eq_getElem?_getD, List.getElem?_map, List.getElem?_range hk]
      clear N5 F5
      k_steps
      refine Halt.go ?_
      k_dflt (refine useRing (q := q) (n := (n : Int)) (by k_asm) (by k_asm) (by k_asm) (by k_asm) (by k_asm) (by kpt_hd) (by kpt_hd) (hR.mono (by lcg_sub)) (by k_mem) hI6 (by simp) (by omega) (by k_room) (by k_units) ?_)
      intro x9 dx9 t9 u9 h9 tk9 F9 N9 kx kd
      exact ⟨_, _, [(x9, _), (dx9, _), (D3, LCg.lst ys3)], vs3, e3, rfl, by rw [Nat.add_one_mul, ← Nat.add_assoc]; exact hI3, F9, newsSub N9 (by simp only [List.cons_append, List.nil_append]; lcg_sub), apCons (neSub kx (by lcg_sub)) (apCons (neSub kd (by lcg_sub)) (apCons (neSub oD3 (by lcg_sub)) apNil)), x9, rfl, ⟨dx9, D3, _, t9, u9, ys3, List.Mem.head _, memTail (List.Mem.head _), memTail (memTail (List.Mem.head _)), hI6⟩⟩)
    intro g2
    refine finPool ?_
    intro D2 h2 tk2 ys2 new2 vs2 e2 hI2 F₂ N₂ oD2 ap2 hd2
    clear N4 F4
    k_steps
    exact ⟨_, _, (D2, LCg.lst ys2) :: new2, vs2, e2, rfl, by rw [Nat.zero_add, Nat.add_one_mul]; exact hI2, F₂, N₂, apCons (neSub oD2 (by lcg_sub)) ap2, D2, rfl, rowOf hd2⟩)
  intro g1
  refine finPool ?_
  intro D1 h1 tk1 ys1 new1 vs2 e2 hI2 F₁ N₁ oD1 ap1 hd1
  rw [Nat.zero_add] at hI2
  clear N3 F3
  k_steps
  refine Halt.go ?_
  k_dflt (refine' useGoesZ (news := (D1, LCg.lst ys1) :: (new1 ++ ((pl, lsO vs2 e2) :: news))) ?k1 ?k2 ?k3 ?k4 ?k40 tb1 tb2 tb3 (newsOff2 oD1 ap1 (by k_mem) (by k_mem) (List.forall_mem_cons.mpr ⟨a1, n1⟩)) (newsOff2 oD1 ap1 (by k_mem) (by k_mem) (List.forall_mem_cons.mpr ⟨a2, n2⟩)) (newsOff2 oD1 ap1 (by k_mem) (by k_mem) (List.forall_mem_cons.mpr ⟨a3, n3⟩)) bare ?k5 ?kf ?kK (mcallO (old := (D1, LCg.lst ys1) :: (new1 ++ news)) (by lcg_sub) callArgs2 (hM.mono (subTail (subR (fun _ h => h)))) (hR.mono (subTail (subR (fun _ h => h)))) ((dataOf hd1).mono (subCons (List.Mem.head _) (subTail (subL (fun _ h => h))))) hr hr' hc') ?kd ?ku ?_; (case k2 => k_asm); (case k1 => k_asm); (case k3 => k_asm); (case k4 => k_asm); (case k40 => lcg_sub); (case k5 => k_asm); (case kf => first | exact rfl | assumption); (case kK => first | exact rfl | assumption); (case kd => k_room); (case ku => k_units))
  intro z new9 h9 tk9 gs9 p1 p2 p3 tp1 tp2 tp3 F9 N9 A9 bare9 hz
  k_steps
  rename News _ _ _ _ => N10
  refine hret _ (new9 ++ ((D1, LCg.lst ys1) :: new1)) _ _ _ p1 p2 p3 vs2 e2 tp1 tp2 tp3 hI2 (by assumption) (newsSub N10 (by lcg_sub)) (fun q hq p hp => ?_) bare9 ⟨z, rfl, hz.mono (by lcg_sub)⟩
  · rcases List.mem_append.mp hq with hq | hq
    · obtain ⟨p', h, e⟩ := tabsIn4 (led := (142, o1) :: (178, o2) :: (225, o3) :: ((D1, LCg.lst ys1) :: (new1 ++ ((pl, lsO vs2 e2) :: news)))) (a := o1) (b := o2) (c := o3) (y := lsO vs2 e2) (by k_mem) (by k_mem) (by k_mem) (by k_mem) (by lcg_sub) p hp
      exact e ▸ A9 q hq p' h
    · exact midOff oD1 ap1 (tabsIn4 (by k_mem) (by k_mem) (by k_mem) (by k_mem) (by lcg_sub)) (tabsIn4 (by k_mem) (by k_mem) (by k_mem) (by k_mem) (by lcg_sub)) q hq p hp
end
end
section
example : True := by
  w_top off
  trivial
theorem retInt {R : Result → Shared → Prop} {news all : Led} {h₀ h' : Heap} {L : Addr} {m : Str → Option Value} {s : Shared} {tk' : Nat} {x y : Int} {t : Tok}
    (hret : ∀ r new h' tk', Fr h₀ L h' m → News h₀ L h' (new ++ news) → (∀ q ∈ new, ∀ p ∈ news, p.1 ≠ q.1) → (fun (new : Led) v => new = [] ∧ ∃ t, v = .int y t) new r → R (.ok (.ret r)) { s with heap := h', toks := tk' })
    (F : Fr h₀ L h' m) (N : News h₀ L h' all) (hs : ∀ p ∈ news, p ∈ all) (e : x = y) : R (.ok (.ret (.int x t))) { s with heap := h', toks := tk' } :=
  retNil hret F N hs ⟨rfl, _, by rw [e]⟩
section
variable {w : World} {loose : List Str} {mean : ExcName → Option Value} {mg mb : Str → Option Value} {news : Led}
set_option maxHeartbeats 1000000 in
theorem rmodC {r n : Int} {t u : Tok} (hn : 0 < n) : Goes w loose mean mg mb news 28 [.int r t, .int n u] 3 30 (fun new v => new = [] ∧ ∃ t, v = .int (rmod r n) t) := by
  intro dp un gd env outer A₀ base h₀ L m s R B F X N T hf hk hdp hun hret
  have hn0 : n ≠ 0 := by omega
  k_dflt ktr_enter
  k_steps
  · rename n.fdiv _ < _ => hc
    exact hret _ [] _ _ (by assumption) (by assumption) apNil ⟨rfl, _, by rw [half_eq, fmod_pos hn] at hc; rw [fmod_pos hn]; exact congrArg (Value.int · _) (by unfold rmod; rw [if_pos hc])⟩
  · rename ¬ n.fdiv _ < _ => hc
    exact hret _ [] _ _ (by assumption) (by assumption) apNil ⟨rfl, _, by rw [half_eq, fmod_pos hn] at hc; rw [fmod_pos hn]; exact congrArg (Value.int · _) (by unfold rmod; rw [if_neg hc])⟩
local macro_rules | `(tactic| walk_at "call ref") => `(tactic| (k_here; (with_reducible show wpAny _ _ (call (Value.ref 28) _) _ _ _); k_dflt (refine useNilA (by k_asm) (by k_asm) (by k_asm) (by k_asm) (by k_asm) (by kpt_hd) (by kpt_hd) (rmodC (by kpt_fact)) (by k_room) (by k_units) ?_; k_whole); k_dflt (intro t9 h9 tk9 F9 N9; (try dsimp only [List.nil_append, List.cons_append] at N9); (try k_sweep))))
local macro_rules | `(tactic| walk_at "binaryOp FloorDiv int int") => `(tactic| (k_here; refine floordiv_int ?kb ?_ (Or.inl (PyProof.noPylong_small ?kp)); (case kb => omega); (case kp => omega)))
set_option maxHeartbeats 1000000 in
theorem decompC {r a q : Int} {t u v : Tok} (ha : 0 < a) (ha' : a < 2 ^ 20) (hq : 0 < q) : Goes w loose mean mg mb news 35 [.int r t, .int a u, .int q v] 6 60 (fun new v => ∃ T t1 t2, v = .ref T ∧ new = [(T, tupO [.int (decomp r a q).1 t1, .int (decomp r a q).2 t2])]) := by
  intro dp un gd env outer A₀ base h₀ L m s R B F X N T hf hk hdp hun hret
  have hn0 : q ≠ 0 := by omega
  have ha0 : a ≠ 0 := by omega
  k_dflt ktr_enter
  k_steps
  · rename News h₀ _ _ _ => N1
    rename Fr h₀ _ _ _ => F1
    rename _ = _ - (1:Int) => hc
    rw [fmod_pos hq] at hc
    refine' retOne hret F1 N1 ?c1 ?s1 ?z1 (tupEq ?x1 ?y1)
    (case c1 => exact List.Mem.head _)
    (case s1 => lcg_sub)
    (case z1 => exact fun p hp => Nat.ne_of_lt ((by assumption : ∀ (p : Addr × Obj), p ∈ news → p.fst < _) p hp))
    (case x1 => (try rw [fmod_pos hq]); (try rw [fdiv_pos ha]); unfold decomp; rw [if_pos hc])
    (case y1 => rw [fmod_pos hq]; unfold decomp; rw [if_pos hc])
  · rename News h₀ _ _ _ => N1
    rename Fr h₀ _ _ _ => F1
    rename ¬ _ = _ - (1:Int) => hc
    rw [fmod_pos hq] at hc
    refine' retOne hret F1 N1 ?c2 ?s2 ?z2 (tupEq ?x2 ?y2)
    (case c2 => exact List.Mem.head _)
    (case s2 => lcg_sub)
    (case z2 => exact fun p hp => Nat.ne_of_lt ((by assumption : ∀ (p : Addr × Obj), p ∈ news → p.fst < _) p hp))
    (case x2 => (try rw [fmod_pos hq]); (try rw [fdiv_pos ha]); unfold decomp; rw [if_neg hc])
    (case y2 => rw [fmod_pos hq]; unfold decomp; rw [if_neg hc])
set_option maxHeartbeats 1000000 in
theorem normC {x b q : Int} {t u v : Tok} (hq : 0 < q) (hq' : q < 2 ^ 31) : Goes w loose mean mg mb news 77 [.int x t, .int b u, .int q v] 3 30 (fun new v => new = [] ∧ v = .bool (decide (b ≤ normOf x q))) := by
  intro dp un gd env outer A₀ base h₀ L m s R B F X N T hf hk hdp hun hret
  have hn0 : q ≠ 0 := by omega
  k_dflt ktr_enter
  k_steps
  refine hret _ [] _ _ (by assumption) (by assumption) apNil ⟨rfl, ?_⟩
  have h1 := Int.emod_nonneg x hn0
  have h2 := Int.emod_lt_of_pos x hq
  rw [half_eq, fmod_pos hq, xor_abs (by omega) (by omega)]
  unfold normOf
  congr 1
  split <;> simp <;> omega
local macro_rules | `(tactic| walk_at "eval Call") => `(tactic| (k_here; k_dflt (refine PyProof.Rows.Call_ ?_)))
set_option maxHeartbeats 1000000 in
theorem highC {r a q : Int} {t u v : Tok} (ha : 0 < a) (ha' : a < 2 ^ 20) (hq : 0 < q) : Goes w loose mean mg mb news 42 [.int r t, .int a u, .int q v] 8 90 (fun new v => new = [] ∧ ∃ t, v = .int (decomp r a q).1 t) := by
  intro dp un gd env outer A₀ base h₀ L m s R B F X N T hf hk hdp hun hret
  have hxc35 : HaltCall 35 := .mk
  k_dflt ktr_enter
  k_steps <;> repeat' (first | (refine Halt.go ?_; (with_reducible show wpAny _ _ (call (Value.ref 35) _) _ _ _); k_dflt (refine useTup (by k_asm) (by k_asm) (by k_asm) (by k_asm) (by k_asm) (by kpt_hd) (by kpt_hd) (decompC (by omega) (by omega) (by omega)) (by k_room) (by k_units) ?_; k_whole); k_dflt (intro T9 t8 t9 h9 tk9 F9 N9 A9; (try dsimp only [List.nil_append, List.cons_append] at N9); (try k_sweep)); k_steps))
  rename News h₀ _ _ _ => N1
  rename Fr h₀ _ _ _ => F1
  exact retNil hret F1 N1 (by lcg_sub) ⟨rfl, _, rfl⟩
set_option maxHeartbeats 1000000 in
theorem lowC {r a q : Int} {t u v : Tok} (ha : 0 < a) (ha' : a < 2 ^ 20) (hq : 0 < q) : Goes w loose mean mg mb news 49 [.int r t, .int a u, .int q v] 8 90 (fun new v => new = [] ∧ ∃ t, v = .int (decomp r a q).2 t) := by
  intro dp un gd env outer A₀ base h₀ L m s R B F X N T hf hk hdp hun hret
  have hxc35 : HaltCall 35 := .mk
  k_dflt ktr_enter
  k_steps <;> repeat' (first | (refine Halt.go ?_; (with_reducible show wpAny _ _ (call (Value.ref 35) _) _ _ _); k_dflt (refine useTup (by k_asm) (by k_asm) (by k_asm) (by k_asm) (by k_asm) (by kpt_hd) (by kpt_hd) (decompC (by omega) (by omega) (by omega)) (by k_room) (by k_units) ?_; k_whole); k_dflt (intro T9 t8 t9 h9 tk9 F9 N9 A9; (try dsimp only [List.nil_append, List.cons_append] at N9); (try k_sweep)); k_steps))
  rename News h₀ _ _ _ => N1
  rename Fr h₀ _ _ _ => F1
  exact retNil hret F1 N1 (by lcg_sub) ⟨rfl, _, rfl⟩
set_option maxHeartbeats 1000000 in
theorem useC {h r a q : Int} {t u v x : Tok} (ha : 0 < a) (ha' : a < 2 ^ 20) (hq : 0 < q) (hm : 0 < (q - 1) / a) : Goes w loose mean mg mb news 70 [.int h x, .int r t, .int a u, .int q v] 8 120 (fun new v => new = [] ∧ ∃ t, v = .int (useOf h r a q) t) := by
  intro dp un gd env outer A₀ base h₀ L m s R B F X N T hf hk hdp hun hret
  have hxc35 : HaltCall 35 := .mk
  have hm' : (q - 1).fdiv a ≠ 0 := by rw [fdiv_pos ha]; omega
  have ha0 : a ≠ 0 := by omega
  k_dflt ktr_enter
  k_steps <;> repeat' (first | (refine Halt.go ?_; (with_reducible show wpAny _ _ (call (Value.ref 35) _) _ _ _); k_dflt (refine useTup (by k_asm) (by k_asm) (by k_asm) (by k_asm) (by k_asm) (by kpt_hd) (by kpt_hd) (decompC (by omega) (by omega) (by omega)) (by k_room) (by k_units) ?_; k_whole); k_dflt (intro T9 t8 t9 h9 tk9 F9 N9 A9; (try dsimp only [List.nil_append, List.cons_append] at N9); (try k_sweep)); k_steps))
  · rename News h₀ _ _ _ => N1
    rename Fr h₀ _ _ _ => F1
    refine retInt hret F1 N1 (by lcg_sub) ?_
    (try rw [fmod_pos (by rw [fdiv_pos ha]; exact hm)]); (try rw [fdiv_pos ha]); unfold useOf; simp_all; try (intro hz; exfalso; omega)
  · rename News h₀ _ _ _ => N1
    rename Fr h₀ _ _ _ => F1
    refine retInt hret F1 N1 (by lcg_sub) ?_
    (try rw [fmod_pos (by rw [fdiv_pos ha]; exact hm)]); (try rw [fdiv_pos ha]); unfold useOf; simp_all; try (intro hz; exfalso; omega)
  · rename News h₀ _ _ _ => N1
    rename Fr h₀ _ _ _ => F1
    refine retInt hret F1 N1 (by lcg_sub) ?_
    (try rw [fmod_pos (by rw [fdiv_pos ha]; exact hm)]); (try rw [fdiv_pos ha]); unfold useOf; simp_all; try (intro hz; exfalso; omega)
set_option maxHeartbeats 1000000 in
theorem hintC {z r a q : Int} {t u v x : Tok} (ha : 0 < a) (ha' : a < 2 ^ 20) (hq : 0 < q) : Goes w loose mean mg mb news 56 [.int z x, .int r t, .int a u, .int q v] 10 150 (fun new v => new = [] ∧ ∃ t, v = .int (hintOf z r a q) t) := by
  intro dp un gd env outer A₀ base h₀ L m s R B F X N T hf hk hdp hun hret
  have hxc35 : HaltCall 35 := .mk
  have hxc42 : HaltCall 42 := .mk
  k_dflt ktr_enter
  k_steps <;> repeat' (first | (refine Halt.go ?_; (with_reducible show wpAny _ _ (call (Value.ref 35) _) _ _ _); k_dflt (refine useTup (by k_asm) (by k_asm) (by k_asm) (by k_asm) (by k_asm) (by kpt_hd) (by kpt_hd) (decompC (by omega) (by omega) (by omega)) (by k_room) (by k_units) ?_; k_whole); k_dflt (intro T9 t8 t9 h9 tk9 F9 N9 A9; (try dsimp only [List.nil_append, List.cons_append] at N9); (try k_sweep)); k_steps) | (refine Halt.go ?_; (with_reducible show wpAny _ _ (call (Value.ref 42) _) _ _ _); k_dflt (refine useNilA (by k_asm) (by k_asm) (by k_asm) (by k_asm) (by k_asm) (by kpt_hd) (by kpt_hd) (highC (by omega) (by omega) (by omega)) (by k_room) (by k_units) ?_; k_whole); k_dflt (intro t9 h9 tk9 F9 N9; (try dsimp only [List.nil_append, List.cons_append] at N9); (try k_sweep)); k_steps))
  rename News h₀ _ _ _ => N1
  rename Fr h₀ _ _ _ => F1
  refine' retInt hret F1 N1 ?s9 ?v9
  (case s9 => lcg_sub)
  (case v9 => unfold hintOf; by_cases h : (decomp r a q).1 = (decomp (r + z) a q).1 <;> simp [h])
set_option maxHeartbeats 1000000 in
theorem quickC {z r a q : Int} {t u v x : Tok} (ha : 0 < a) : Goes w loose mean mg mb news 63 [.int z x, .int r t, .int a u, .int q v] 3 50 (fun new v => new = [] ∧ ∃ t, v = .int (quickOf z r a q) t) := by
  intro dp un gd env outer A₀ base h₀ L m s R B F X N T hf hk hdp hun hret
  have hxc35 : HaltCall 35 := .mk
  have hxc42 : HaltCall 42 := .mk
  k_dflt ktr_enter
  k_steps <;> repeat' (first | (refine Halt.go ?_; (with_reducible show wpAny _ _ (call (Value.ref 35) _) _ _ _); k_dflt (refine useTup (by k_asm) (by k_asm) (by k_asm) (by k_asm) (by k_asm) (by kpt_hd) (by kpt_hd) (decompC (by omega) (by omega) (by omega)) (by k_room) (by k_units) ?_; k_whole); k_dflt (intro T9 t8 t9 h9 tk9 F9 N9 A9; (try dsimp only [List.nil_append, List.cons_append] at N9); (try k_sweep)); k_steps) | (refine Halt.go ?_; (with_reducible show wpAny _ _ (call (Value.ref 42) _) _ _ _); k_dflt (refine useNilA (by k_asm) (by k_asm) (by k_asm) (by k_asm) (by k_asm) (by kpt_hd) (by kpt_hd) (highC (by omega) (by omega) (by omega)) (by k_room) (by k_units) ?_; k_whole); k_dflt (intro t9 h9 tk9 F9 N9; (try dsimp only [List.nil_append, List.cons_append] at N9); (try k_sweep)); k_steps))
  · rename News h₀ _ _ _ => N1
    rename Fr h₀ _ _ _ => F1
    refine retInt hret F1 N1 (by lcg_sub) ?_
    (try simp only [half_eq, fmod_pos, Bool.and_eq_true, beq_iff_eq, decide_eq_true_eq] at *); unfold quickOf; split <;> first | rfl | (exfalso; omega) | simp_all
  · rename News h₀ _ _ _ => N1
    rename Fr h₀ _ _ _ => F1
    refine retInt hret F1 N1 (by lcg_sub) ?_
    (try simp only [half_eq, fmod_pos, Bool.and_eq_true, beq_iff_eq, decide_eq_true_eq] at *); unfold quickOf; split <;> first | rfl | (exfalso; omega) | simp_all
  · rename News h₀ _ _ _ => N1
    rename Fr h₀ _ _ _ => F1
    refine retInt hret F1 N1 (by lcg_sub) ?_
    (try simp only [half_eq, fmod_pos, Bool.and_eq_true, beq_iff_eq, decide_eq_true_eq] at *); unfold quickOf; split <;> first | rfl | (exfalso; omega) | simp_all
  · rename News h₀ _ _ _ => N1
    rename Fr h₀ _ _ _ => F1
    refine retInt hret F1 N1 (by lcg_sub) ?_
    (try simp only [half_eq, fmod_pos, Bool.and_eq_true, beq_iff_eq, decide_eq_true_eq] at *); unfold quickOf; split <;> first | rfl | (exfalso; omega) | simp_all
  · rename News h₀ _ _ _ => N1
    rename Fr h₀ _ _ _ => F1
    refine retInt hret F1 N1 (by lcg_sub) ?_
    (try simp only [half_eq, fmod_pos, Bool.and_eq_true, beq_iff_eq, decide_eq_true_eq] at *); unfold quickOf; split <;> first | rfl | (exfalso; omega) | simp_all
end
end
section
example : True := by
  w_top off
  trivial
section
variable {w : World} {loose : List Str} {mean : ExcName → Option Value} {mg mb : Str → Option Value} {news : Led}
local macro_rules | `(tactic| walk_at "eval Call") => `(tactic| (k_here; k_dflt (refine PyProof.Rows.Call_ ?_)))
/-- what the law asks at one place -/
def PlaceOk (wv rest small low told a beta q : Int) : Prop :=
  normOf small q < beta + 1 ∧ (a / 2 - beta ≤ normOf (decomp rest a q).2 q ∨ a / 2 ≤ normOf low q ∨
    (useOf (hintOf (-low) told a q) told a q = (decomp wv a q).1 ∧ (decomp rest a q).1 = (decomp wv a q).1 ∧
      quickOf (((decomp wv a q).2 - small + low) % q) (decomp wv a q).1 a q = hintOf (-low) told a q))
theorem hint01 {z r a q : Int} : hintOf z r a q = 0 ∨ hintOf z r a q = 1 := by
  unfold hintOf; split
  · exact Or.inl rfl
  · exact Or.inr rfl
set_option maxHeartbeats 2000000 in
theorem placeC {wv rest small low told a beta q : Int} {t1 t2 t3 t4 t5 ta tb tq : Tok} {l : Addr} {e : Nat} (hl : (l, lsO [.int wv t1, .int rest t2, .int small t3, .int low t4, .int told t5] e) ∈ news)
    (ha : 0 < a) (ha' : a < 2 ^ 20) (hq : 0 < q) (hq' : q < 2 ^ 31) (hm : 0 < (q - 1) / a) (ok : PlaceOk wv rest small low told a beta q) :
    Goes w loose mean mg mb news 461 [.ref l, .int a ta, .int beta tb, .int q tq] 12 300 (fun new v => new = [] ∧ v = .bool true) := by
  intro dp un gd env outer A₀ base h₀ L m s R B F X N T hf hk hdp hun hret
  have hxc42 : HaltCall 42 := .mk
  have hxc49 : HaltCall 49 := .mk
  have hxc56 : HaltCall 56 := .mk
  have hxc63 : HaltCall 63 := .mk
  have hxc70 : HaltCall 70 := .mk
  have hxc77 : HaltCall 77 := .mk
  k_dflt ktr_enter
  k_steps <;> repeat' (first | (refine Halt.go ?_; (with_reducible show wpAny _ _ (call (Value.ref 42) _) _ _ _); k_dflt (refine useNilA (by k_asm) (by k_asm) (by k_asm) (by k_asm) (by k_asm) (by kpt_hd) (by kpt_hd) (highC (by omega) (by omega) (by omega)) (by k_room) (by k_units) ?_; k_whole); k_dflt (intro t9 h9 tk9 F9 N9; (try dsimp only [List.nil_append, List.cons_append] at N9); (try k_sweep)); k_steps) | (refine Halt.go ?_; (with_reducible show wpAny _ _ (call (Value.ref 49) _) _ _ _); k_dflt (refine useNilA (by k_asm) (by k_asm) (by k_asm) (by k_asm) (by k_asm) (by kpt_hd) (by kpt_hd) (lowC (by omega) (by omega) (by omega)) (by k_room) (by k_units) ?_; k_whole); k_dflt (intro t9 h9 tk9 F9 N9; (try dsimp only [List.nil_append, List.cons_append] at N9); (try k_sweep)); k_steps) | (refine Halt.go ?_; (with_reducible show wpAny _ _ (call (Value.ref 56) _) _ _ _); k_dflt (refine useNilA (by k_asm) (by k_asm) (by k_asm) (by k_asm) (by k_asm) (by kpt_hd) (by kpt_hd) (hintC (by omega) (by omega) (by omega)) (by k_room) (by k_units) ?_; k_whole); k_dflt (intro t9 h9 tk9 F9 N9; (try dsimp only [List.nil_append, List.cons_append] at N9); (try k_sweep)); k_steps) | (refine Halt.go ?_; (with_reducible show wpAny _ _ (call (Value.ref 63) _) _ _ _); k_dflt (refine useNilA (by k_asm) (by k_asm) (by k_asm) (by k_asm) (by k_asm) (by kpt_hd) (by kpt_hd) (quickC (by omega)) (by k_room) (by k_units) ?_; k_whole); k_dflt (intro t9 h9 tk9 F9 N9; (try dsimp only [List.nil_append, List.cons_append] at N9); (try k_sweep)); k_steps) | (refine Halt.go ?_; (with_reducible show wpAny _ _ (call (Value.ref 70) _) _ _ _); k_dflt (refine useNilA (by k_asm) (by k_asm) (by k_asm) (by k_asm) (by k_asm) (by kpt_hd) (by kpt_hd) (useC (by omega) (by omega) (by omega) (by with_reducible assumption)) (by k_room) (by k_units) ?_; k_whole); k_dflt (intro t9 h9 tk9 F9 N9; (try dsimp only [List.nil_append, List.cons_append] at N9); (try k_sweep)); k_steps) | (refine Halt.go ?_; (with_reducible show wpAny _ _ (call (Value.ref 77) _) _ _ _); k_dflt (refine useNil (by k_asm) (by k_asm) (by k_asm) (by k_asm) (by k_asm) (by kpt_hd) (by kpt_hd) (normC (by omega) (by omega)) (by k_room) (by k_units) ?_; k_whole); k_dflt (intro h9 tk9 F9 N9; (try dsimp only [List.nil_append, List.cons_append] at N9); (try k_sweep)); k_steps))
  · rename News h₀ _ _ _ => N1
    rename Fr h₀ _ _ _ => F1
    refine' retNil hret F1 N1 ?s9 ⟨rfl, congrArg Value.bool ?v9⟩
    (case s9 => lcg_sub)
    (case v9 => clear F1 N1; unfold PlaceOk at ok; have h2 : a.fdiv 2 = a / 2 := Int.fdiv_eq_ediv_of_nonneg _ (by decide); have h01 := hint01 (z := -low) (r := told) (a := a) (q := q); simp only [fmod_pos hq, h2] at *; all_goals first | rfl | (exfalso; omega) | (simp only [beq_iff_eq]; omega) | (rcases h01 with h01 | h01 <;> rw [h01] <;> rfl))
  · rename News h₀ _ _ _ => N1
    rename Fr h₀ _ _ _ => F1
    refine' retNil hret F1 N1 ?s9 ⟨rfl, congrArg Value.bool ?v9⟩
    (case s9 => lcg_sub)
    (case v9 => clear F1 N1; unfold PlaceOk at ok; have h2 : a.fdiv 2 = a / 2 := Int.fdiv_eq_ediv_of_nonneg _ (by decide); have h01 := hint01 (z := -low) (r := told) (a := a) (q := q); simp only [fmod_pos hq, h2] at *; all_goals first | rfl | (exfalso; omega) | (simp only [beq_iff_eq]; omega) | (rcases h01 with h01 | h01 <;> rw [h01] <;> rfl))
  · rename News h₀ _ _ _ => N1
    rename Fr h₀ _ _ _ => F1
    refine' retNil hret F1 N1 ?s9 ⟨rfl, congrArg Value.bool ?v9⟩
    (case s9 => lcg_sub)
    (case v9 => clear F1 N1; unfold PlaceOk at ok; have h2 : a.fdiv 2 = a / 2 := Int.fdiv_eq_ediv_of_nonneg _ (by decide); have h01 := hint01 (z := -low) (r := told) (a := a) (q := q); simp only [fmod_pos hq, h2] at *; all_goals first | rfl | (exfalso; omega) | (simp only [beq_iff_eq]; omega) | (rcases h01 with h01 | h01 <;> rw [h01] <;> rfl))
  · rename News h₀ _ _ _ => N1
    rename Fr h₀ _ _ _ => F1
    refine' retNil hret F1 N1 ?s9 ⟨rfl, congrArg Value.bool ?v9⟩
    (case s9 => lcg_sub)
    (case v9 => clear F1 N1; unfold PlaceOk at ok; have h2 : a.fdiv 2 = a / 2 := Int.fdiv_eq_ediv_of_nonneg _ (by decide); have h01 := hint01 (z := -low) (r := told) (a := a) (q := q); simp only [fmod_pos hq, h2] at *; all_goals first | rfl | (exfalso; omega) | (simp only [beq_iff_eq]; omega) | (rcases h01 with h01 | h01 <;> rw [h01] <;> rfl))
  · rename News h₀ _ _ _ => N1
    rename Fr h₀ _ _ _ => F1
    refine' retNil hret F1 N1 ?s9 ⟨rfl, congrArg Value.bool ?v9⟩
    (case s9 => lcg_sub)
    (case v9 => clear F1 N1; unfold PlaceOk at ok; have h2 : a.fdiv 2 = a / 2 := Int.fdiv_eq_ediv_of_nonneg _ (by decide); have h01 := hint01 (z := -low) (r := told) (a := a) (q := q); simp only [fmod_pos hq, h2] at *; all_goals first | rfl | (exfalso; omega) | (simp only [beq_iff_eq]; omega) | (rcases h01 with h01 | h01 <;> rw [h01] <;> rfl))
  · rename News h₀ _ _ _ => N1
    rename Fr h₀ _ _ _ => F1
    refine' retNil hret F1 N1 ?s9 ⟨rfl, congrArg Value.bool ?v9⟩
    (case s9 => lcg_sub)
    (case v9 => clear F1 N1; unfold PlaceOk at ok; have h2 : a.fdiv 2 = a / 2 := Int.fdiv_eq_ediv_of_nonneg _ (by decide); have h01 := hint01 (z := -low) (r := told) (a := a) (q := q); simp only [fmod_pos hq, h2] at *; all_goals first | rfl | (exfalso; omega) | (simp only [beq_iff_eq]; omega) | (rcases h01 with h01 | h01 <;> rw [h01] <;> rfl))
  · rename News h₀ _ _ _ => N1
    rename Fr h₀ _ _ _ => F1
    refine' retNil hret F1 N1 ?s9 ⟨rfl, congrArg Value.bool ?v9⟩
    (case s9 => lcg_sub)
    (case v9 => clear F1 N1; unfold PlaceOk at ok; have h2 : a.fdiv 2 = a / 2 := Int.fdiv_eq_ediv_of_nonneg _ (by decide); have h01 := hint01 (z := -low) (r := told) (a := a) (q := q); simp only [fmod_pos hq, h2] at *; all_goals first | rfl | (exfalso; omega) | (simp only [beq_iff_eq]; omega) | (rcases h01 with h01 | h01 <;> rw [h01] <;> rfl))
end
end
section
theorem useGoesP {w : World} {loose : List Str} {mean : ExcName → Option Value} {mg mb : Str → Option Value} {all news : Led} {f : Addr} {args : List Value} {d u : Nat} {Out : Led → Value → Prop} {o1 o2 o3 : Obj} {pl : Addr} {ps : List Int} {used : Nat} {vs : List Value} {e : Nat}
    {dp un : Nat} {gd : Option (List Code)} {env : Env} {outer : List Env} {A₀ : Around} {base h₀ : Heap} {L : Addr} {m : Str → Option Value} {s : Shared} {Q E : Value → Shared → Prop}
    (B : Below A₀ base outer h₀) (F : Fr h₀ L s.heap m) (X : (hd.heap_1 w.params).In h₀) (N : News h₀ L s.heap all) (hs : ∀ p ∈ (142, o1) :: (178, o2) :: (225, o3) :: (pl, lsO vs e) :: news, p ∈ all) (t1 : IsTab o1) (t2 : IsTab o2) (t3 : IsTab o3) (hI : IntsAre vs ps)
    (n1 : ∀ p ∈ news, p.1 ≠ 142) (n2 : ∀ p ∈ news, p.1 ≠ 178) (n3 : ∀ p ∈ news, p.1 ≠ 225) (n4 : ∀ p ∈ news, p.1 ≠ pl) (a1 : @Ne Nat pl 142) (a2 : @Ne Nat pl 178) (a3 : @Ne Nat pl 225) (bare : AllBare s.gens) (T : Top topProg loose mean mg mb h₀) (hf : env.frame = some L) (hk : env.scope.kind = .function) (G : GoesP w loose mean mg mb news pl ps used f ⟨args, []⟩ d u Out) (hd : dp + d < recursionLimit) (hu : un + u < cLine)
    (ret : ∀ r new h' tk' gs' o1' o2' o3' vs' e', IsTab o1' → IsTab o2' → IsTab o3' → IntsAre vs' (ps.drop used) → Fr h₀ L h' m → News h₀ L h' (new ++ ((142, o1') :: (178, o2') :: (225, o3') :: (pl, lsO vs' e') :: news)) → (∀ q ∈ new, ∀ p ∈ (142, o1) :: (178, o2) :: (225, o3) :: (pl, lsO vs e) :: news, p.1 ≠ q.1) → AllBare gs' → Out new r → Q r { s with heap := h', toks := tk', gens := gs' }) :
    wpAny (model PySem.Challenge.pw_ay0011_01 w) (gTop dp un gd env outer) (call (.ref f) args) Q E s :=
  wpAny_call (G dp un gd env outer A₀ base h₀ L m s _ o1 o2 o3 vs e t1 t2 t3 hI B F X (newsSub N hs) n1 n2 n3 n4 a1 a2 a3 bare T hf hk hd hu ret)
end
section
/-- the parting into high and low bits is the only one of its kind -/
theorem rmod_of {g l x : Int} (hg : 0 < g) (k : Int) (e : x = 2 * g * k + l) (h1 : -g < l) (h2 : l ≤ g) : rmod x (2 * g) = l := by
  unfold rmod
  have h3 : 2 * g / 2 = g := Int.mul_ediv_cancel_left g (by decide)
  rw [h3]
  by_cases h : 0 ≤ l
  · have : x % (2 * g) = l := by
      rw [e, Int.add_comm, Int.add_mul_emod_self_left]; exact Int.emod_eq_of_lt h (by lia)
    rw [this, if_neg (by lia)]
  · have : x % (2 * g) = l + 2 * g := by
      have e' : x = l + 2 * g + 2 * g * (k - 1) := by rw [e]; grind
      rw [e', Int.add_mul_emod_self_left]; exact Int.emod_eq_of_lt (by lia) (by lia)
    rw [this, if_pos (by lia)]; lia
theorem decA {g m h l x q : Int} (hg : 0 < g) (hq : q = 2 * g * m + 1) (hP : 2 * g * h ≤ 2 * g * m - 2 * g) (l1 : -g < l) (l2 : l ≤ g) (hn : 0 ≤ 2 * g * h + l) (e : EqM q x (2 * g * h + l)) : decomp x (2 * g) q = (h, l) := by
  have e2 : x % q = 2 * g * h + l := e.to.trans (Int.emod_eq_of_lt hn (by clear e; lia))
  have e3 := rmod_of (x := x % q) hg h e2 l1 l2
  have e4 : ¬ (2 * g * h + l - l = q - 1) := by clear e e2 e3; lia
  have e5 : (2 * g * h + l - l) / (2 * g) = h := by rw [Int.add_sub_cancel]; exact Int.mul_ediv_cancel_left _ (Int.ne_of_gt (Int.mul_pos (by decide) hg))
  unfold decomp
  rw [e3, e2, if_neg e4, e5]
theorem decB {g m l x q : Int} (hg : 0 < g) (hq : q = 2 * g * m + 1) (hP : 2 * g ≤ 2 * g * m) (l1 : -g ≤ l) (l2 : l < 0) (e : EqM q x l) : decomp x (2 * g) q = (0, l) := by
  have e2 : x % q = 2 * g * m + (l + 1) := by
    rw [e.to, ← Int.add_emod_right, Int.emod_eq_of_lt (by clear e; lia) (by clear e; lia), hq, Int.add_left_comm]
  have e3 := rmod_of (x := x % q) hg m e2 (by clear e e2; lia) (by clear e e2; lia)
  have e4 : 2 * g * m + (l + 1) - (l + 1) = q - 1 := by rw [hq, Int.add_sub_cancel, Int.add_sub_cancel]
  unfold decomp
  rw [e3, e2, if_pos e4, Int.add_sub_cancel]
theorem decomp_only {g m h l x q : Int} (hg : 0 < g) (hq : q = 2 * g * m + 1) (h0 : 0 ≤ h) (hm : h < m) (hl : (-g < l ∧ l ≤ g) ∨ (h = 0 ∧ -g ≤ l ∧ l < 0)) (e : EqM q x (2 * g * h + l)) : decomp x (2 * g) q = (h, l) := by
  have g2 : 0 ≤ 2 * g := Int.mul_nonneg (by decide) (Int.le_of_lt hg)
  have hP : 2 * g * (h + 1) ≤ 2 * g * m := Int.mul_le_mul_of_nonneg_left hm g2
  rw [Int.mul_add, Int.mul_one] at hP
  have hP0 : 0 ≤ 2 * g * h := Int.mul_nonneg g2 h0
  by_cases hh : h = 0
  · subst hh
    rw [Int.mul_zero] at hP e
    rw [Int.zero_add] at hP e
    by_cases hn : l < 0
    · refine decB hg hq hP ?_ hn e
      exact hl.elim (fun k => Int.le_of_lt k.1) fun k => k.2.1
    · refine decA hg hq ?_ ?_ ?_ ?_ ?_
      · rw [Int.mul_zero]; exact Int.sub_nonneg_of_le hP
      · exact Int.lt_of_lt_of_le (Int.neg_neg_of_pos hg) (Int.not_lt.mp hn)
      · exact hl.elim (fun k => k.2) fun k => absurd k.2.2 hn
      · rw [Int.mul_zero, Int.zero_add]; exact Int.not_lt.mp hn
      · rw [Int.mul_zero, Int.zero_add]; exact e
  · have k : -g < l ∧ l ≤ g := hl.elim id fun k => absurd k.1 hh
    have hQ : 2 * g * 1 ≤ 2 * g * h := Int.mul_le_mul_of_nonneg_left (Int.lt_iff_le_and_ne.mpr ⟨h0, Ne.symm hh⟩) g2
    refine decA hg hq (Int.le_sub_right_of_add_le hP) k.1 k.2 ?_ e
    clear e hP hl hh
    lia
theorem decomp_is {g m x q : Int} (hg : 0 < g) (hm : 1 ≤ m) (hq : q = 2 * g * m + 1) : ∃ h l, decomp x (2 * g) q = (h, l) ∧ 0 ≤ h ∧ h < m ∧ ((-g < l ∧ l ≤ g) ∨ (h = 0 ∧ -g ≤ l ∧ l < 0)) ∧ EqM q x (2 * g * h + l) := by
  have g2 : 0 < 2 * g := Int.mul_pos (by decide) hg
  have hPm : 0 ≤ 2 * g * m := Int.mul_nonneg (Int.le_of_lt g2) (Int.le_trans (by decide) hm)
  have q0 : 0 < q := by rw [hq]; exact Int.lt_add_one_of_le hPm
  have r0 := Int.emod_nonneg x (Int.ne_of_gt q0)
  have r1 : x % q ≤ 2 * g * m := by have := Int.emod_lt_of_pos x q0; rw [hq] at this ⊢; exact Int.le_of_lt_add_one this
  have k0 := Int.emod_nonneg (x % q) (Int.ne_of_gt g2)
  have k1 := Int.emod_lt_of_pos (x % q) g2
  have k2 := Int.mul_ediv_add_emod (x % q) (2 * g)
  have k3 : 0 ≤ (x % q) / (2 * g) := Int.ediv_nonneg r0 (Int.le_of_lt g2)
  have e0 : x = x % q + q * (x / q) := (Int.emod_add_mul_ediv x q).symm
  have key : ∃ h l, 0 ≤ h ∧ h < m ∧ ((-g < l ∧ l ≤ g) ∨ (h = 0 ∧ -g ≤ l ∧ l < 0)) ∧ EqM q (x % q) (2 * g * h + l) := by
    clear e0
    generalize (x % q) / (2 * g) = k at *
    generalize (x % q) % (2 * g) = ρ at *
    generalize x % q = y at *
    subst k2
    have kle : k ≤ m := Int.le_of_mul_le_mul_left (Int.le_trans (Int.le_add_of_nonneg_right k0) r1) g2
    by_cases hr : ρ ≤ g
    · by_cases hk : k < m
      · exact ⟨k, ρ, k3, hk, .inl ⟨Int.lt_of_lt_of_le (Int.neg_neg_of_pos hg) k0, hr⟩, 0, by rw [Int.mul_zero, Int.add_zero]⟩
      · have : k = m := Int.le_antisymm kle (Int.not_lt.mp hk)
        subst this
        have : ρ = 0 := Int.le_antisymm (Int.le_of_add_le_add_left (by rw [Int.add_zero]; exact r1)) k0
        subst this
        exact ⟨0, -1, Int.le_refl _, hm, .inr ⟨rfl, Int.neg_le_neg hg, by decide⟩, 1, by rw [hq]; grind⟩
    · have l1 : -g < ρ - 2 * g := by clear r1 k3 kle; lia
      have l2 : ρ - 2 * g < 0 := Int.sub_neg_of_lt k1
      by_cases hk : k + 1 < m
      · exact ⟨k + 1, ρ - 2 * g, Int.le_trans k3 (Int.le_add_one (Int.le_refl _)), hk, .inl ⟨l1, Int.le_of_lt (Int.lt_trans l2 hg)⟩, 0, by grind⟩
      · have hk' : k ≠ m := fun e => by
          subst e
          exact hr (Int.le_trans (Int.le_of_add_le_add_left (by rw [Int.add_zero]; exact r1)) (Int.le_of_lt hg))
        have : m = k + 1 := by clear r1 k0 k1 l1 l2 hr; lia
        subst this
        exact ⟨0, ρ - 2 * g - 1, Int.le_refl _, hm, .inr ⟨rfl, Int.le_sub_one_of_lt l1, Int.lt_trans (Int.sub_one_lt_of_le (Int.le_refl _)) l2⟩, 1, by rw [hq]; grind⟩
  obtain ⟨h, l, a1, a2, a3, a4⟩ := key
  have a5 : EqM q x (2 * g * h + l) := by
    obtain ⟨k, hk⟩ := a4
    refine ⟨x / q + k, ?_⟩
    have e1 := e0.trans (congrArg (· + q * (x / q)) hk)
    rw [Int.add_assoc, Int.add_comm (q * k), ← Int.mul_add] at e1
    exact e1
  exact ⟨h, l, decomp_only hg hq a1 a2 a3 a5, a1, a2, a3, a5⟩
theorem natAbs_bd (v : Int) : -v ≤ v.natAbs ∧ v ≤ v.natAbs := ⟨Int.natAbs_neg v ▸ Int.le_natAbs, Int.le_natAbs⟩
theorem half_is {q : Int} (ho : q % 2 = 1) : 2 * ((q - 1) / 2) + 1 = q := by lia
theorem normOf_is {x q : Int} (ho : q % 2 = 1) : ((q - 1) / 2 < x % q ∧ normOf x q = q - x % q) ∨ (x % q ≤ (q - 1) / 2 ∧ normOf x q = x % q) := by
  have hh := half_is ho
  unfold normOf
  generalize (q - 1) / 2 = h at *
  generalize x % q = r
  subst hh
  split
  · left; lia
  · right; lia
theorem normOf_le {x v q : Int} (hq : 0 < q) (ho : q % 2 = 1) (e : EqM q x v) : normOf x q ≤ v.natAbs := by
  have hh := half_is ho
  have r0 := Int.emod_nonneg x (Int.ne_of_gt hq)
  have k2 := Int.mul_ediv_add_emod v q
  rw [← e.to] at k2
  have hb := natAbs_bd v
  have hn := normOf_is (x := x) ho
  generalize (v.natAbs : Int) = n at *
  have key : x % q ≤ v ∨ v ≤ x % q - q := by
    by_cases hk : 0 ≤ v / q
    · have := Int.mul_nonneg (Int.le_of_lt hq) hk
      left; clear hb hn hh hk; lia
    · have : q * (v / q) ≤ q * (-1) := Int.mul_le_mul_of_nonneg_left (Int.le_sub_one_of_lt (Int.not_le.mp hk)) (Int.le_of_lt hq)
      right; clear hb hn hh hk; lia
  clear k2 e
  generalize x % q = r at *
  generalize (q - 1) / 2 = h at *
  generalize normOf x q = z at *
  obtain ⟨b1, b2⟩ := hb
  rcases hn with ⟨c1, rfl⟩ | ⟨c1, rfl⟩ <;> rcases key with c2 | c2 <;> lia
/-- there is a number as small as the norm -/
theorem normOf_at {x q : Int} (hq : 0 < q) (ho : q % 2 = 1) : ∃ v, EqM q x v ∧ v.natAbs = normOf x q := by
  have r0 := Int.emod_nonneg x (Int.ne_of_gt hq)
  have r1 := Int.emod_lt_of_pos x hq
  have k2 := Int.mul_ediv_add_emod x q
  rcases normOf_is (x := x) ho with ⟨_, e⟩ | ⟨_, e⟩
  · exact ⟨x % q - q, ⟨x / q + 1, by grind⟩, by rw [e, ← Int.natAbs_neg, Int.neg_sub]; exact Int.natAbs_of_nonneg (Int.le_of_lt (Int.sub_pos_of_lt r1))⟩
  · exact ⟨x % q, ⟨x / q, by grind⟩, by rw [e]; exact Int.natAbs_of_nonneg r0⟩
theorem EqM.symm {q a b : Int} (h : EqM q a b) : EqM q b a := by
  obtain ⟨k, rfl⟩ := h; exact ⟨-k, by grind⟩
theorem EqM.trans {q a b c : Int} (h : EqM q a b) (h' : EqM q b c) : EqM q a c := by
  obtain ⟨k, rfl⟩ := h; obtain ⟨l, rfl⟩ := h'; exact ⟨k + l, by grind⟩
theorem small_mod_eq {q a b : Int} (h : EqM q a b) (ha : -q < a - b) (hb : a - b < q) : a = b := by
  obtain ⟨k, hk⟩ := h
  have : k = 0 := by
    by_cases h1 : k ≤ -1
    · have := Int.mul_le_mul_of_nonneg_left h1 (show (0:Int) ≤ q by lia); lia
    · by_cases h2 : 1 ≤ k
      · have := Int.mul_le_mul_of_nonneg_left h2 (show (0:Int) ≤ q by lia); lia
      · lia
  subst this
  lia
theorem mod_le_of {q x v : Int} (h : EqM q x v) (h0 : 0 ≤ v) (h1 : v < q) : x % q = v := by rw [h.to]; exact Int.emod_eq_of_lt h0 h1
theorem absB {v b : Int} (h : (v.natAbs : Int) < b) : -b < v ∧ v < b := by lia
theorem hl_of {g t h : Int} (hg : 0 < g) (c3 : (-g < t ∧ t ≤ g) ∨ (h = 0 ∧ t = -g)) : (-g < t ∧ t ≤ g) ∨ (h = 0 ∧ -g ≤ t ∧ t < 0) :=
  c3.elim .inl fun e => .inr ⟨e.1, by rw [e.2]; exact Int.le_refl _, by rw [e.2]; exact Int.neg_neg_of_pos hg⟩
/-- the quick test, of a remainder told -/
theorem quick_pos {g t h q x : Int} (c3 : (-g < t ∧ t ≤ g) ∨ (h = 0 ∧ t = -g)) (hg : 0 < g) (e : (0 ≤ t ∧ x = t) ∨ (t < 0 ∧ x = q + t)) : x ≤ g ∨ q - g < x ∨ (x = q - g ∧ h = 0) := by
  rcases e with ⟨e0, rfl⟩ | ⟨e0, rfl⟩
  · left; lia
  · right; lia
theorem quick_neg {g t h q x : Int} (c3 : ¬ ((-g < t ∧ t ≤ g) ∨ (h = 0 ∧ t = -g))) (hg : 0 < g) (t1 : -(2 * g) < t) (t2 : t < 2 * g) (hq : 4 * g + 1 ≤ q) (e : (0 ≤ t ∧ x = t) ∨ (t < 0 ∧ x = q + t)) : ¬ (x ≤ g ∨ q - g < x ∨ (x = q - g ∧ h = 0)) := by
  rcases e with ⟨e0, rfl⟩ | ⟨e0, rfl⟩
  · intro j; lia
  · intro j; lia
theorem om1 {g q t : Int} (h0 : t < 2 * g) (h1 : 4 * g + 1 ≤ q) (h2 : 0 < g) : t < q := by lia
theorem om2 {g q t : Int} (h0 : -(2 * g) < t) (h1 : 4 * g + 1 ≤ q) (h2 : 0 < g) : 0 ≤ q + t := by lia
theorem om3 {q t : Int} (h0 : ¬ (0 ≤ t)) : q + t < q := by lia
theorem om4 {g : Int} (h0 : 0 < g) : 0 ≤ 2 * g := by lia
theorem om5 {g m q : Int} (h0 : 2 * g * 2 ≤ 2 * g * m) (h1 : q = 2 * g * m + 1) : 4 * g + 1 ≤ q := by lia
theorem omO (x : Int) : (2 * x + 1) % 2 = 1 := by lia
theorem om6 {g q : Int} (h0 : 4 * g + 1 ≤ q) (h1 : 0 < g) : 0 < q := by lia
theorem om7 {m : Int} (h0 : 2 ≤ m) : 1 ≤ m := by lia
theorem om8 {g h l : Int} (h0 : (-g < l ∧ l ≤ g) ∨ (h = 0 ∧ -g ≤ l ∧ l < 0)) (h1 : 0 < g) : -g ≤ l ∧ l ≤ g := by lia
theorem om9 {beta g x : Int} (h0 : ¬ (g - beta ≤ x)) (h1 : 0 ≤ beta) : x < g := by lia
theorem om10 {g l q v : Int} (h0 : -g ≤ l ∧ l ≤ g) (h1 : -g < v ∧ v < g) (h2 : 4 * g + 1 ≤ q) (h3 : 0 < g) : -q < l - v := by lia
theorem om11 {g l q v : Int} (h0 : -g ≤ l ∧ l ≤ g) (h1 : -g < v ∧ v < g) (h2 : 4 * g + 1 ≤ q) (h3 : 0 < g) : l - v < q := by lia
theorem om12 {beta g l s : Int} (h0 : ¬ (g - beta ≤ (l.natAbs : Int))) (h1 : (s.natAbs : Int) ≤ beta) : -g < l + s ∧ l + s ≤ g := by
  have a1 := natAbs_bd l
  have a2 := natAbs_bd s
  generalize (l.natAbs : Int) = n at *
  generalize (s.natAbs : Int) = k at *
  obtain ⟨a1, a3⟩ := a1
  obtain ⟨a2, a4⟩ := a2
  exact ⟨by lia, by lia⟩
theorem om13 {g : Int} (h0 : 0 < g) : 2 * g ≠ 0 := by lia
theorem om14 {g l t z : Int} (h0 : l + z = t) (h1 : -g < l ∧ l < g) (h2 : -g < z ∧ z < g) : -(2 * g) < t := by lia
theorem om15 {g l t z : Int} (h0 : l + z = t) (h1 : -g < l ∧ l < g) (h2 : -g < z ∧ z < g) : t < 2 * g := by lia
theorem om16 {h : Int} (h0 : 0 ≤ h) : 0 ≤ h + 1 := by lia
theorem om17 {g t : Int} (h0 : g < t) (h1 : t < 2 * g) (h2 : 0 < g) : -g < t - 2 * g ∧ t - 2 * g ≤ g := by lia
theorem om18 {g t : Int} (h0 : t < 2 * g) : ¬ (0 < t - 2 * g) := by lia
theorem omN (h : Int) : ¬ (h + 1 = h) := by lia
theorem omM (h : Int) : ¬ (h - 1 = h) := by lia
theorem omL (h : Int) : h - 1 < h := by lia
theorem om19 {h m : Int} (h0 : h < m) (h1 : ¬ (h + 1 < m)) : m = h + 1 := by lia
theorem om20 {m : Int} (h0 : 2 ≤ m) : 0 < m := by lia
theorem om21 {g t : Int} (h0 : g < t) : -g ≤ t - 2 * g - 1 := by lia
theorem om22 {g t : Int} (h0 : t < 2 * g) : t - 2 * g - 1 < 0 := by lia
theorem om23 {h m : Int} (h0 : m = h + 1) (h1 : 2 ≤ m) : ¬ (0 = h) := by lia
theorem om24 {g t : Int} (h0 : t < 2 * g) : ¬ (0 < t - 2 * g - 1) := by lia
theorem om25 {m : Int} (h0 : 2 ≤ m) : 0 ≤ 0 - 1 + m := by lia
theorem om26 {m : Int} (h0 : 2 ≤ m) : 0 - 1 + m < m := by lia
theorem om27 {h m : Int} (h0 : m = h + 1) : 0 - 1 + m = h := by lia
theorem om28 {g h t : Int} (h0 : ¬ ((-g < t ∧ t ≤ g) ∨ (h = 0 ∧ t = -g))) (h1 : ¬ (g < t)) (h2 : 0 < g) : t ≤ -g ∧ (h = 0 → t ≠ -g) := by lia
theorem om29 {h : Int} (h0 : 1 ≤ h) : 0 ≤ h - 1 := by lia
theorem om30 {h m : Int} (h0 : h < m) : h - 1 < m := by lia
theorem om31 {g h t : Int} (h0 : t ≤ -g ∧ (h = 0 → t ≠ -g)) (h1 : -(2 * g) < t) (h2 : 0 < g) : -g < t + 2 * g ∧ t + 2 * g ≤ g := by lia
theorem om32 {g t : Int} (h0 : -(2 * g) < t) : 0 < t + 2 * g := by lia
theorem om33 {h : Int} (h0 : ¬ (1 ≤ h)) (h1 : 0 ≤ h) : h = 0 := by lia
theorem om34 {m : Int} (h0 : 2 ≤ m) : 0 ≤ m - 1 := by lia
theorem om35 {g h t : Int} (h0 : t ≤ -g ∧ (h = 0 → t ≠ -g)) (h1 : t ≠ -g) (h2 : -(2 * g) < t) (h3 : 0 < g) : -g < t + 2 * g + 1 ∧ t + 2 * g + 1 ≤ g := by lia
theorem om36 {m : Int} (h0 : 2 ≤ m) : ¬ (m - 1 = 0) := by lia
theorem om37 {g t : Int} (h0 : -(2 * g) < t) : 0 < t + 2 * g + 1 := by lia
theorem mod_two {q x t g : Int} (h : EqM q x t) (hg : 0 < g) (t1 : -(2 * g) < t) (t2 : t < 2 * g) (hq : 4 * g + 1 ≤ q) : (0 ≤ t ∧ x % q = t) ∨ (t < 0 ∧ x % q = q + t) := by
  by_cases c4 : 0 ≤ t
  · exact .inl ⟨c4, mod_le_of h c4 (om1 t2 hq hg)⟩
  · exact .inr ⟨Int.lt_of_not_ge c4, mod_le_of (h.trans ⟨-1, by grind⟩) (om2 t1 hq hg) (om3 c4)⟩
theorem placeOk {wv rest small low told g m beta q s : Int} (hg : 0 < g) (hm : 2 ≤ m) (hq : q = 2 * g * m + 1) (hb : 0 ≤ beta) (hs : EqM q small s) (hsb : s.natAbs ≤ beta) (hw : EqM q wv (rest + small)) (ht : EqM q told (rest + low)) :
    PlaceOk wv rest small low told (2 * g) beta q := by
  have hP : 2 * g * 2 ≤ 2 * g * m := Int.mul_le_mul_of_nonneg_left hm (om4 hg)
  have hqb : 4 * g + 1 ≤ q := (om5 hP hq)
  have ho : q % 2 = 1 := by rw [hq, Int.mul_assoc]; exact omO _
  have hq0 : 0 < q := (om6 hqb hg)
  have hgg : 2 * g / 2 = g := Int.mul_ediv_cancel_left g (by decide)
  unfold PlaceOk
  rw [hgg]
  refine ⟨Int.lt_add_one_of_le (Int.le_trans (normOf_le hq0 ho hs) hsb), ?_⟩
  obtain ⟨h, l, d1, d2, d3, d4, d5⟩ := decomp_is (x := rest) hg (om7 hm) hq
  rw [d1]
  by_cases c1 : g - beta ≤ normOf l q
  · exact .inl c1
  by_cases c2 : g ≤ normOf low q
  · exact .inr (.inl c2)
  refine .inr (.inr ?_)
  -- the low bits and low as small numbers
  have nl : -g ≤ l ∧ l ≤ g := (om8 d4 hg)
  have l1 : (l.natAbs : Int) = normOf l q := by
    obtain ⟨v, v1, v2⟩ := normOf_at (x := l) hq0 ho
    have vb := absB (v := v) (b := g) (v2 ▸ (om9 c1 hb))
    have : l = v := small_mod_eq v1 (om10 nl vb hqb hg) (om11 nl vb hqb hg)
    exact (congrArg (fun t : Int => (t.natAbs : Int)) this).trans v2
  obtain ⟨z, z1, z2⟩ := normOf_at (x := low) hq0 ho
  rw [← l1] at c1
  rw [← z2] at c2
  have lb := absB (v := l) (b := g) (om9 c1 hb)
  have zb := absB (v := z) (b := g) (Int.lt_of_not_ge c2)
  -- w
  have ew : EqM q wv (2 * g * h + (l + s)) := (hw.trans (d5.add hs)).trans ⟨0, by grind⟩
  have dw : decomp wv (2 * g) q = (h, l + s) := decomp_only hg hq d2 d3 (.inl (om12 c1 hsb)) ew
  rw [dw]
  -- told
  have et : EqM q told (2 * g * h + (l + z)) := (ht.trans (d5.add z1)).trans ⟨0, by grind⟩
  have eb : EqM q (told + -low) rest := by
    obtain ⟨k, hk⟩ := ht
    exact ⟨k, by rw [hk]; grind⟩
  have db : decomp (told + -low) (2 * g) q = (h, l) := decomp_only hg hq d2 d3 d4 (eb.trans d5)
  have ez : EqM q (l + s - small + low) (l + z) := by
    obtain ⟨k, hk⟩ := hs
    obtain ⟨k', hk'⟩ := z1
    exact ⟨k' - k, by grind⟩
  have hmm : (q - 1) / (2 * g) = m := by rw [hq, Int.add_sub_cancel]; exact Int.mul_ediv_cancel_left _ (om13 hg)
  unfold hintOf useOf quickOf
  rw [db, hmm, hgg]
  dsimp only
  generalize hT : l + z = t at *
  have t1 : -(2 * g) < t := (om14 hT lb zb)
  have t2 : t < 2 * g := (om15 hT lb zb)
  have e2 := mod_two ez hg t1 t2 hqb
  clear hT lb zb z1 z2 c1 c2 d5 d4 d1 db dw ew eb ez ht hw hs hsb hb l1 nl ho hgg hmm
  by_cases c3 : (-g < t ∧ t ≤ g) ∨ (h = 0 ∧ t = -g)
  · have dt : decomp told (2 * g) q = (h, t) := decomp_only hg hq d2 d3 (hl_of hg c3) et
    rw [dt, if_pos rfl, if_pos (quick_pos c3 hg e2)]
    exact ⟨if_neg (by decide), rfl, rfl⟩
  · rw [if_neg (quick_neg c3 hg t1 t2 hqb e2)]
    clear e2 hqb
    by_cases c4 : g < t
    · by_cases c5 : h + 1 < m
      · have dt : decomp told (2 * g) q = (h + 1, t - 2 * g) := decomp_only hg hq (om16 d2) c5 (.inl (om17 c4 t2 hg)) (et.trans ⟨0, by grind⟩)
        rw [dt]
        dsimp only
        rw [if_neg (omN h), if_pos rfl, if_neg (om18 t2), Int.add_sub_cancel]
        exact ⟨Int.emod_eq_of_lt d2 d3, rfl, rfl⟩
      · have hh : m = h + 1 := (om19 d3 c5)
        have dt : decomp told (2 * g) q = (0, t - 2 * g - 1) := decomp_only hg hq (Int.le_refl _) (om20 hm) (.inr ⟨rfl, (om21 c4), (om22 t2)⟩) (et.trans ⟨1, by subst hh; grind⟩)
        rw [dt]
        dsimp only
        rw [if_neg (om23 hh hm), if_pos rfl, if_neg (om24 t2)]
        refine ⟨?_, rfl, rfl⟩
        rw [← Int.add_emod_right, Int.emod_eq_of_lt (om25 hm) (om26 hm)]
        exact (om27 hh)
    · have c4' : t ≤ -g ∧ (h = 0 → t ≠ -g) := (om28 c3 c4 hg)
      by_cases c5 : 1 ≤ h
      · have dt : decomp told (2 * g) q = (h - 1, t + 2 * g) := decomp_only hg hq (om29 c5) (om30 d3) (.inl (om31 c4' t1 hg)) (et.trans ⟨0, by grind⟩)
        rw [dt]
        dsimp only
        rw [if_neg (omM h), if_pos rfl, if_pos (om32 t1), Int.sub_add_cancel]
        exact ⟨Int.emod_eq_of_lt d2 d3, rfl, rfl⟩
      · have h00 : h = 0 := (om33 c5 d2)
        subst h00
        have c6 := c4'.2 rfl
        have dt : decomp told (2 * g) q = (m - 1, t + 2 * g + 1) := decomp_only hg hq (om34 hm) (omL m) (.inl (om35 c4' c6 t1 hg)) (et.trans ⟨-1, by grind⟩)
        rw [dt]
        dsimp only
        rw [if_neg (om36 hm), if_pos rfl, if_pos (om37 t1), Int.sub_add_cancel]
        exact ⟨Int.emod_self, rfl, rfl⟩
end
section
example : True := by
  w_top off
  trivial
section
variable {w : World} {loose : List Str} {mean : ExcName → Option Value} {mg mb : Str → Option Value} {news : Led}
local macro_rules | `(tactic| walk_at "eval ListComp") => `(tactic| (k_here; refine halt ?_))
local macro_rules | `(tactic| walk_at "compareOp NotEq ref ref") => `(tactic| (k_here; k_dflt (refine module_ne_same (by k_asm) (by k_asm) (by k_asm) (by k_mem) (by have hcL9 := cLine_is; k_units) ?_; k_whole)))
local macro_rules | `(tactic| walk_at "call ref") => `(tactic| (k_here; kco_any "__call__"; kco_here; k_dflt (refine wpAny_call ?_; refine kco_code (by k_in) (by k_inst) rfl (by k_is) (by k_is) (by k_is) ?_; (try dsimp only); refine halt ?_)))
set_option maxHeartbeats 2000000 in
theorem madd {md rg x y : Addr} {q n : Int} {r c : Nat} {f g : Nat → Nat → List Int} (hM : ModAt w news md rg) (hR : RingAt w news rg q n) (hx : MatAt w news md rg x r c f) (hy : MatAt w news md rg y r c g) (hr : 0 < r) (hr' : r < 2 ^ 11) (hc' : c < 2 ^ 20) (hq : 0 < q) (hn : n < 2 ^ 20) (hlf : ∀ i j, i < r → j < c → ((f i j).length : Int) = n) (hlg : ∀ i j, i < r → j < c → ((g i j).length : Int) = n) :
    GoesG w loose mean mg mb news 157 ⟨[.ref x, .ref y], []⟩ 40 400 (fun new v => ∃ z, v = .ref z ∧ MatAt w (new ++ news) md rg z r c (fun i j => List.zipWith (fun a b => (a + b) % q) (f i j) (g i j))) := by
  intro dp un gd env outer A₀ base h₀ L m s R o1 o2 o3 tb1 tb2 tb3 B F X N n1 n2 n3 bare T hf hk hdp hun hret
  have hxc104 : HaltCall 104 := .mk
  have hxc133 : HaltCall 133 := .mk
  have hxc362 : HaltCall 362 := .mk
  have hx' := hx
  have hy' := hy
  obtain ⟨dm, tm, hm1, hm2⟩ := id hM
  obtain ⟨dx, lx, t1, t2, t3, hx1, hx2, hx3⟩ := hx
  obtain ⟨dy, ly, u1, u2, u3, hy1, hy2, hy3⟩ := hy
  k_dflt ktr_enter
  k_steps <;> repeat' (first | (refine Halt.go ?_; (with_reducible show wpAny _ _ (call (Value.ref 104) _) _ _ _); k_dflt (refine useTup (by k_asm) (by k_asm) (by k_asm) (by k_asm) (by k_asm) (by kpt_hd) (by kpt_hd) (mdim (by exact MatAt.mono (by with_reducible assumption) (by lcg_sub)) (by with_reducible assumption) (by omega) (by omega)) (by k_room) (by k_units) ?_; k_whole); k_dflt (intro T9 t9 u9 h9 tk9 F9 N9 A9; (have b9 := apHead A9); clear A9; (try dsimp only [List.nil_append, List.cons_append] at N9); (try k_sweep)); k_steps) | (refine Halt.go ?_; (with_reducible show wpAny _ _ (call (Value.ref 133) _) _ _ _); k_dflt (refine useNilP (by k_asm) (by k_asm) (by k_asm) (by k_asm) (by k_asm) (by kpt_hd) (by kpt_hd) (mget (by with_reducible assumption) (by lcg_sub) (by k_mem) (by with_reducible assumption) (by with_reducible assumption) (by omega) (by omega)) (by k_room) (by k_units) ?_; k_whole); k_dflt (intro y9 h9 tk9 F9 N9 p9; (have q9 := p9); (obtain ⟨dy9, ly9, ey9, t9, u9, v9, a9, b9, c9, d9⟩ := q9); (try dsimp only [List.nil_append, List.cons_append] at N9); (try k_sweep)); k_steps) | (refine Halt.go ?_; (with_reducible show wpAny _ _ (call (Value.ref 362) _) _ _ _); k_dflt (refine useRef (by k_asm) (by k_asm) (by k_asm) (by k_asm) (by k_asm) (by kpt_hd) (by kpt_hd) (addp (by exact RingAt.mono (by with_reducible assumption) (by lcg_sub)) (by exact PolyAt.mono (by with_reducible assumption) (by lcg_sub)) (by exact PolyAt.mono (by with_reducible assumption) (by lcg_sub)) (by with_reducible assumption) (by with_reducible assumption) (by with_reducible assumption) (by omega)) (by k_room) (by k_units) ?_; k_whole); k_dflt (intro z9 new9 h9 tk9 F9 N9 A9 p9; (try dsimp only [List.nil_append, List.cons_append] at N9); (try k_sweep)); k_steps))
  refine Halt.go ?_
  rename News _ _ _ _ => N1
  replace N1 := newsSub N1 (subTail (subTail (subTail (fun p hp => hp))))
  k_dflt (refine comp_expr (by k_asm) (by with_unfolding_all rfl) (by rfl) (by decide) ?_)
  k_steps <;> repeat' (first | (refine Halt.go ?_; (with_reducible show wpAny _ _ (call (Value.ref 104) _) _ _ _); k_dflt (refine useTup (by k_asm) (by k_asm) (by k_asm) (by k_asm) (by k_asm) (by kpt_hd) (by kpt_hd) (mdim (by exact MatAt.mono (by with_reducible assumption) (by lcg_sub)) (by with_reducible assumption) (by omega) (by omega)) (by k_room) (by k_units) ?_; k_whole); k_dflt (intro T9 t9 u9 h9 tk9 F9 N9 A9; (have b9 := apHead A9); clear A9; (try dsimp only [List.nil_append, List.cons_append] at N9); (try k_sweep)); k_steps) | (refine Halt.go ?_; (with_reducible show wpAny _ _ (call (Value.ref 133) _) _ _ _); k_dflt (refine useNilP (by k_asm) (by k_asm) (by k_asm) (by k_asm) (by k_asm) (by kpt_hd) (by kpt_hd) (mget (by with_reducible assumption) (by lcg_sub) (by k_mem) (by with_reducible assumption) (by with_reducible assumption) (by omega) (by omega)) (by k_room) (by k_units) ?_; k_whole); k_dflt (intro y9 h9 tk9 F9 N9 p9; (have q9 := p9); (obtain ⟨dy9, ly9, ey9, t9, u9, v9, a9, b9, c9, d9⟩ := q9); (try dsimp only [List.nil_append, List.cons_append] at N9); (try k_sweep)); k_steps) | (refine Halt.go ?_; (with_reducible show wpAny _ _ (call (Value.ref 362) _) _ _ _); k_dflt (refine useRef (by k_asm) (by k_asm) (by k_asm) (by k_asm) (by k_asm) (by kpt_hd) (by kpt_hd) (addp (by exact RingAt.mono (by with_reducible assumption) (by lcg_sub)) (by exact PolyAt.mono (by with_reducible assumption) (by lcg_sub)) (by exact PolyAt.mono (by with_reducible assumption) (by lcg_sub)) (by with_reducible assumption) (by with_reducible assumption) (by with_reducible assumption) (by omega)) (by k_room) (by k_units) ?_; k_whole); k_dflt (intro z9 new9 h9 tk9 F9 N9 A9 p9; (try dsimp only [List.nil_append, List.cons_append] at N9); (try k_sweep)); k_steps))
  rename News _ _ _ _ => N2
  rename Fr _ _ _ _ => F2
  refine src_rangeC (RowEl w rg c fun i j => List.zipWith (fun a b => (a + b) % q) (f i j) (g i j)) (by rfl) F2 N2 (by assumption) (by omega) (by rfl) (fun _ => by rfl) (fun _ => by rfl) (fun _ => by rfl) ?turn ?fin
  (case turn =>
    intro C i g1 ti oC oi led1 h tk E' hi di qC qi hs1 F₁ N₁
    clear N2 F2
    k_steps <;> repeat' (first | (refine Halt.go ?_; (with_reducible show wpAny _ _ (call (Value.ref 104) _) _ _ _); k_dflt (refine useTup (by k_asm) (by k_asm) (by k_asm) (by k_asm) (by k_asm) (by kpt_hd) (by kpt_hd) (mdim (by exact MatAt.mono (by with_reducible assumption) (by lcg_sub)) (by with_reducible assumption) (by omega) (by omega)) (by k_room) (by k_units) ?_; k_whole); k_dflt (intro T9 t9 u9 h9 tk9 F9 N9 A9; (have b9 := apHead A9); clear A9; (try dsimp only [List.nil_append, List.cons_append] at N9); (try k_sweep)); k_steps) | (refine Halt.go ?_; (with_reducible show wpAny _ _ (call (Value.ref 133) _) _ _ _); k_dflt (refine useNilP (by k_asm) (by k_asm) (by k_asm) (by k_asm) (by k_asm) (by kpt_hd) (by kpt_hd) (mget (by with_reducible assumption) (by lcg_sub) (by k_mem) (by with_reducible assumption) (by with_reducible assumption) (by omega) (by omega)) (by k_room) (by k_units) ?_; k_whole); k_dflt (intro y9 h9 tk9 F9 N9 p9; (have q9 := p9); (obtain ⟨dy9, ly9, ey9, t9, u9, v9, a9, b9, c9, d9⟩ := q9); (try dsimp only [List.nil_append, List.cons_append] at N9); (try k_sweep)); k_steps) | (refine Halt.go ?_; (with_reducible show wpAny _ _ (call (Value.ref 362) _) _ _ _); k_dflt (refine useRef (by k_asm) (by k_asm) (by k_asm) (by k_asm) (by k_asm) (by kpt_hd) (by kpt_hd) (addp (by exact RingAt.mono (by with_reducible assumption) (by lcg_sub)) (by exact PolyAt.mono (by with_reducible assumption) (by lcg_sub)) (by exact PolyAt.mono (by with_reducible assumption) (by lcg_sub)) (by with_reducible assumption) (by with_reducible assumption) (by with_reducible assumption) (by omega)) (by k_room) (by k_units) ?_; k_whole); k_dflt (intro z9 new9 h9 tk9 F9 N9 A9 p9; (try dsimp only [List.nil_append, List.cons_append] at N9); (try k_sweep)); k_steps))
    refine Halt.go ?_
    k_dflt (refine comp_expr (by k_asm) (by with_unfolding_all rfl) (by rfl) (by decide) ?_)
    k_steps <;> repeat' (first | (refine Halt.go ?_; (with_reducible show wpAny _ _ (call (Value.ref 104) _) _ _ _); k_dflt (refine useTup (by k_asm) (by k_asm) (by k_asm) (by k_asm) (by k_asm) (by kpt_hd) (by kpt_hd) (mdim (by exact MatAt.mono (by with_reducible assumption) (by lcg_sub)) (by with_reducible assumption) (by omega) (by omega)) (by k_room) (by k_units) ?_; k_whole); k_dflt (intro T9 t9 u9 h9 tk9 F9 N9 A9; (have b9 := apHead A9); clear A9; (try dsimp only [List.nil_append, List.cons_append] at N9); (try k_sweep)); k_steps) | (refine Halt.go ?_; (with_reducible show wpAny _ _ (call (Value.ref 133) _) _ _ _); k_dflt (refine useNilP (by k_asm) (by k_asm) (by k_asm) (by k_asm) (by k_asm) (by kpt_hd) (by kpt_hd) (mget (by with_reducible assumption) (by lcg_sub) (by k_mem) (by with_reducible assumption) (by with_reducible assumption) (by omega) (by omega)) (by k_room) (by k_units) ?_; k_whole); k_dflt (intro y9 h9 tk9 F9 N9 p9; (have q9 := p9); (obtain ⟨dy9, ly9, ey9, t9, u9, v9, a9, b9, c9, d9⟩ := q9); (try dsimp only [List.nil_append, List.cons_append] at N9); (try k_sweep)); k_steps) | (refine Halt.go ?_; (with_reducible show wpAny _ _ (call (Value.ref 362) _) _ _ _); k_dflt (refine useRef (by k_asm) (by k_asm) (by k_asm) (by k_asm) (by k_asm) (by kpt_hd) (by kpt_hd) (addp (by exact RingAt.mono (by with_reducible assumption) (by lcg_sub)) (by exact PolyAt.mono (by with_reducible assumption) (by lcg_sub)) (by exact PolyAt.mono (by with_reducible assumption) (by lcg_sub)) (by with_reducible assumption) (by with_reducible assumption) (by with_reducible assumption) (by omega)) (by k_room) (by k_units) ?_; k_whole); k_dflt (intro z9 new9 h9 tk9 F9 N9 A9 p9; (try dsimp only [List.nil_append, List.cons_append] at N9); (try k_sweep)); k_steps))
    rename News _ _ _ _ => N3
    rename Fr _ _ _ _ => F3
    refine src_rangeL (PolyEl w rg fun j => List.zipWith (fun a b => (a + b) % q) (f i j) (g i j)) (by rfl) F3 N3 (by assumption) (by omega) (by rfl) (by rfl) (fun _ => by rfl) ?turn2 ?fin2
    (case turn2 =>
      intro C2 j g2 tj oC2 m2 led2 h2 tk2 E2 hj hC2 hm2 qC2 hs2 F₂ N₂
      have la := hlf i j hi hj
      have lb := hlg i j hi hj
      clear N3 F3
      k_steps <;> repeat' (first | (refine Halt.go ?_; (with_reducible show wpAny _ _ (call (Value.ref 104) _) _ _ _); k_dflt (refine useTup (by k_asm) (by k_asm) (by k_asm) (by k_asm) (by k_asm) (by kpt_hd) (by kpt_hd) (mdim (by exact MatAt.mono (by with_reducible assumption) (by lcg_sub)) (by with_reducible assumption) (by omega) (by omega)) (by k_room) (by k_units) ?_; k_whole); k_dflt (intro T9 t9 u9 h9 tk9 F9 N9 A9; (have b9 := apHead A9); clear A9; (try dsimp only [List.nil_append, List.cons_append] at N9); (try k_sweep)); k_steps) | (refine Halt.go ?_; (with_reducible show wpAny _ _ (call (Value.ref 133) _) _ _ _); k_dflt (refine useNilP (by k_asm) (by k_asm) (by k_asm) (by k_asm) (by k_asm) (by kpt_hd) (by kpt_hd) (mget (by with_reducible assumption) (by lcg_sub) (by k_mem) (by with_reducible assumption) (by with_reducible assumption) (by omega) (by omega)) (by k_room) (by k_units) ?_; k_whole); k_dflt (intro y9 h9 tk9 F9 N9 p9; (have q9 := p9); (obtain ⟨dy9, ly9, ey9, t9, u9, v9, a9, b9, c9, d9⟩ := q9); (try dsimp only [List.nil_append, List.cons_append] at N9); (try k_sweep)); k_steps) | (refine Halt.go ?_; (with_reducible show wpAny _ _ (call (Value.ref 362) _) _ _ _); k_dflt (refine useRef (by k_asm) (by k_asm) (by k_asm) (by k_asm) (by k_asm) (by kpt_hd) (by kpt_hd) (addp (by exact RingAt.mono (by with_reducible assumption) (by lcg_sub)) (by exact PolyAt.mono (by with_reducible assumption) (by lcg_sub)) (by exact PolyAt.mono (by with_reducible assumption) (by lcg_sub)) (by with_reducible assumption) (by with_reducible assumption) (by with_reducible assumption) (by omega)) (by k_room) (by k_units) ?_; k_whole); k_dflt (intro z9 new9 h9 tk9 F9 N9 A9 p9; (try dsimp only [List.nil_append, List.cons_append] at N9); (try k_sweep)); k_steps))
      rename News _ _ _ _ => N5
      rename Fr _ _ _ _ => F5
      rename PolyAt _ _ _ _ _ => p5
      rename (∀ (q : Addr × Obj), q ∈ _ → ∀ (p : Addr × Obj), p ∈ _ → p.1 ≠ q.1) => A5
      refine turnEnd_new F5 N5 A5 ?sub ⟨_, rfl, p5⟩
      (case sub => lcg_sub))
    intro g2
    unfold FinG
    intro D2 h2 tk2 ys2 new2 F₂ N₂ oD2 ap2 hd2
    k_steps <;> repeat' (first | (refine Halt.go ?_; (with_reducible show wpAny _ _ (call (Value.ref 104) _) _ _ _); k_dflt (refine useTup (by k_asm) (by k_asm) (by k_asm) (by k_asm) (by k_asm) (by kpt_hd) (by kpt_hd) (mdim (by exact MatAt.mono (by with_reducible assumption) (by lcg_sub)) (by with_reducible assumption) (by omega) (by omega)) (by k_room) (by k_units) ?_; k_whole); k_dflt (intro T9 t9 u9 h9 tk9 F9 N9 A9; (have b9 := apHead A9); clear A9; (try dsimp only [List.nil_append, List.cons_append] at N9); (try k_sweep)); k_steps) | (refine Halt.go ?_; (with_reducible show wpAny _ _ (call (Value.ref 133) _) _ _ _); k_dflt (refine useNilP (by k_asm) (by k_asm) (by k_asm) (by k_asm) (by k_asm) (by kpt_hd) (by kpt_hd) (mget (by with_reducible assumption) (by lcg_sub) (by k_mem) (by with_reducible assumption) (by with_reducible assumption) (by omega) (by omega)) (by k_room) (by k_units) ?_; k_whole); k_dflt (intro y9 h9 tk9 F9 N9 p9; (have q9 := p9); (obtain ⟨dy9, ly9, ey9, t9, u9, v9, a9, b9, c9, d9⟩ := q9); (try dsimp only [List.nil_append, List.cons_append] at N9); (try k_sweep)); k_steps) | (refine Halt.go ?_; (with_reducible show wpAny _ _ (call (Value.ref 362) _) _ _ _); k_dflt (refine useRef (by k_asm) (by k_asm) (by k_asm) (by k_asm) (by k_asm) (by kpt_hd) (by kpt_hd) (addp (by exact RingAt.mono (by with_reducible assumption) (by lcg_sub)) (by exact PolyAt.mono (by with_reducible assumption) (by lcg_sub)) (by exact PolyAt.mono (by with_reducible assumption) (by lcg_sub)) (by with_reducible assumption) (by with_reducible assumption) (by with_reducible assumption) (by omega)) (by k_room) (by k_units) ?_; k_whole); k_dflt (intro z9 new9 h9 tk9 F9 N9 A9 p9; (try dsimp only [List.nil_append, List.cons_append] at N9); (try k_sweep)); k_steps))
    exact turnEnd_comp F₂ N₂ oD2 ap2 (fun _ h => h) hd2)
  intro g1
  unfold FinG
  intro D1 h1 tk1 ys1 new1 F₁ N₁ oD1 ap1 hd1
  clear N2 F2
  k_steps <;> repeat' (first | (refine Halt.go ?_; (with_reducible show wpAny _ _ (call (Value.ref 104) _) _ _ _); k_dflt (refine useTup (by k_asm) (by k_asm) (by k_asm) (by k_asm) (by k_asm) (by kpt_hd) (by kpt_hd) (mdim (by exact MatAt.mono (by with_reducible assumption) (by lcg_sub)) (by with_reducible assumption) (by omega) (by omega)) (by k_room) (by k_units) ?_; k_whole); k_dflt (intro T9 t9 u9 h9 tk9 F9 N9 A9; (have b9 := apHead A9); clear A9; (try dsimp only [List.nil_append, List.cons_append] at N9); (try k_sweep)); k_steps) | (refine Halt.go ?_; (with_reducible show wpAny _ _ (call (Value.ref 133) _) _ _ _); k_dflt (refine useNilP (by k_asm) (by k_asm) (by k_asm) (by k_asm) (by k_asm) (by kpt_hd) (by kpt_hd) (mget (by with_reducible assumption) (by lcg_sub) (by k_mem) (by with_reducible assumption) (by with_reducible assumption) (by omega) (by omega)) (by k_room) (by k_units) ?_; k_whole); k_dflt (intro y9 h9 tk9 F9 N9 p9; (have q9 := p9); (obtain ⟨dy9, ly9, ey9, t9, u9, v9, a9, b9, c9, d9⟩ := q9); (try dsimp only [List.nil_append, List.cons_append] at N9); (try k_sweep)); k_steps) | (refine Halt.go ?_; (with_reducible show wpAny _ _ (call (Value.ref 362) _) _ _ _); k_dflt (refine useRef (by k_asm) (by k_asm) (by k_asm) (by k_asm) (by k_asm) (by kpt_hd) (by kpt_hd) (addp (by exact RingAt.mono (by with_reducible assumption) (by lcg_sub)) (by exact PolyAt.mono (by with_reducible assumption) (by lcg_sub)) (by exact PolyAt.mono (by with_reducible assumption) (by lcg_sub)) (by with_reducible assumption) (by with_reducible assumption) (by with_reducible assumption) (by omega)) (by k_room) (by k_units) ?_; k_whole); k_dflt (intro z9 new9 h9 tk9 F9 N9 A9 p9; (try dsimp only [List.nil_append, List.cons_append] at N9); (try k_sweep)); k_steps))
  refine Halt.go ?_
  k_dflt (refine' useGoesZ (news := (D1, LCg.lst ys1) :: (new1 ++ news)) ?k1 ?k2 ?k3 ?k4 ?k40 tb1 tb2 tb3 (newsOff oD1 ap1 (by k_mem) n1) (newsOff oD1 ap1 (by k_mem) n2) (newsOff oD1 ap1 (by k_mem) n3) bare ?k5 ?kf ?kK (mcall callArgs3 (hM.mono (subTail (subR (fun _ h => h)))) (hR.mono (subTail (subR (fun _ h => h)))) ((dataOf hd1).mono (subCons (List.Mem.head _) (subTail (subL (fun _ h => h))))) hr hr' hc') ?kd ?ku ?_; (case k2 => k_asm); (case k1 => k_asm); (case k3 => k_asm); (case k4 => k_asm); (case k40 => lcg_sub); (case k5 => k_asm); (case kf => first | exact rfl | assumption); (case kK => first | exact rfl | assumption); (case kd => k_room); (case ku => k_units))
  intro z new9 h9 tk9 gs9 p1 p2 p3 tp1 tp2 tp3 F9 N9 A9 bare9 hz
  k_steps <;> repeat' (first | (refine Halt.go ?_; (with_reducible show wpAny _ _ (call (Value.ref 104) _) _ _ _); k_dflt (refine useTup (by k_asm) (by k_asm) (by k_asm) (by k_asm) (by k_asm) (by kpt_hd) (by kpt_hd) (mdim (by exact MatAt.mono (by with_reducible assumption) (by lcg_sub)) (by with_reducible assumption) (by omega) (by omega)) (by k_room) (by k_units) ?_; k_whole); k_dflt (intro T9 t9 u9 h9 tk9 F9 N9 A9; (have b9 := apHead A9); clear A9; (try dsimp only [List.nil_append, List.cons_append] at N9); (try k_sweep)); k_steps) | (refine Halt.go ?_; (with_reducible show wpAny _ _ (call (Value.ref 133) _) _ _ _); k_dflt (refine useNilP (by k_asm) (by k_asm) (by k_asm) (by k_asm) (by k_asm) (by kpt_hd) (by kpt_hd) (mget (by with_reducible assumption) (by lcg_sub) (by k_mem) (by with_reducible assumption) (by with_reducible assumption) (by omega) (by omega)) (by k_room) (by k_units) ?_; k_whole); k_dflt (intro y9 h9 tk9 F9 N9 p9; (have q9 := p9); (obtain ⟨dy9, ly9, ey9, t9, u9, v9, a9, b9, c9, d9⟩ := q9); (try dsimp only [List.nil_append, List.cons_append] at N9); (try k_sweep)); k_steps) | (refine Halt.go ?_; (with_reducible show wpAny _ _ (call (Value.ref 362) _) _ _ _); k_dflt (refine useRef (by k_asm) (by k_asm) (by k_asm) (by k_asm) (by k_asm) (by kpt_hd) (by kpt_hd) (addp (by exact RingAt.mono (by with_reducible assumption) (by lcg_sub)) (by exact PolyAt.mono (by with_reducible assumption) (by lcg_sub)) (by exact PolyAt.mono (by with_reducible assumption) (by lcg_sub)) (by with_reducible assumption) (by with_reducible assumption) (by with_reducible assumption) (by omega)) (by k_room) (by k_units) ?_; k_whole); k_dflt (intro z9 new9 h9 tk9 F9 N9 A9 p9; (try dsimp only [List.nil_append, List.cons_append] at N9); (try k_sweep)); k_steps))
  exact retMat hret (by assumption) (by assumption) A9 (midOff oD1 ap1 (tabsIn (by k_mem) (by k_mem) (by k_mem) (by lcg_sub)) (tabsIn (by k_mem) (by k_mem) (by k_mem) (by lcg_sub))) tp1 tp2 tp3 bare9 hz
end
end
section
local macro_rules | `(tactic| walk_at "pad") => `(tactic| skip)
example : True := by
  w_top off
  trivial
section
variable {w : World} {loose : List Str} {mean : ExcName → Option Value} {mg mb : Str → Option Value} {news : Led}
local macro_rules | `(tactic| walk_at "eval ListComp") => `(tactic| (k_here; refine halt ?_))
local macro_rules | `(tactic| walk_at "compareOp NotEq ref ref") => `(tactic| (k_here; k_dflt (refine module_ne_same (by k_asm) (by k_asm) (by k_asm) (by k_mem) (by have hcL9 := cLine_is; k_units) ?_; k_whole)))
local macro_rules | `(tactic| walk_at "call ref") => `(tactic| (k_here; kco_any "__call__"; kco_here; k_dflt (refine wpAny_call ?_; refine kco_code (by k_in) (by k_inst) rfl (by k_is) (by k_is) (by k_is) ?_; (try dsimp only); refine halt ?_)))
set_option maxHeartbeats 2000000 in
theorem msub {md rg x y : Addr} {q n : Int} {r c : Nat} {f g : Nat → Nat → List Int} (hM : ModAt w news md rg) (hR : RingAt w news rg q n) (hx : MatAt w news md rg x r c f) (hy : MatAt w news md rg y r c g) (hr : 0 < r) (hr' : r < 2 ^ 11) (hc' : c < 2 ^ 20) (hq : 0 < q) (hn : n < 2 ^ 20) (hlf : ∀ i j, i < r → j < c → ((f i j).length : Int) = n) (hlg : ∀ i j, i < r → j < c → ((g i j).length : Int) = n) :
    GoesG w loose mean mg mb news 169 ⟨[.ref x, .ref y], []⟩ 40 400 (fun new v => ∃ z, v = .ref z ∧ MatAt w (new ++ news) md rg z r c (fun i j => List.zipWith (fun a b => (a - b) % q) (f i j) (g i j))) := by
  intro dp un gd env outer A₀ base h₀ L m s R o1 o2 o3 tb1 tb2 tb3 B F X N n1 n2 n3 bare T hf hk hdp hun hret
  have hxc104 : HaltCall 104 := .mk
  have hxc133 : HaltCall 133 := .mk
  have hxc388 : HaltCall 388 := .mk
  have hx' := hx
  have hy' := hy
  obtain ⟨dm, tm, hm1, hm2⟩ := id hM
  obtain ⟨dx, lx, t1, t2, t3, hx1, hx2, hx3⟩ := hx
  obtain ⟨dy, ly, u1, u2, u3, hy1, hy2, hy3⟩ := hy
  k_dflt ktr_enter
  k_steps <;> repeat' (first | (refine Halt.go ?_; (with_reducible show wpAny _ _ (call (Value.ref 104) _) _ _ _); k_dflt (refine useTup (by k_asm) (by k_asm) (by k_asm) (by k_asm) (by k_asm) (by kpt_hd) (by kpt_hd) (mdim (by exact MatAt.mono (by with_reducible assumption) (by lcg_sub)) (by with_reducible assumption) (by omega) (by omega)) (by k_room) (by k_units) ?_; k_whole); k_dflt (intro T9 t9 u9 h9 tk9 F9 N9 A9; (have b9 := apHead A9); clear A9; (try dsimp only [List.nil_append, List.cons_append] at N9); (try k_sweep)); k_steps) | (refine Halt.go ?_; (with_reducible show wpAny _ _ (call (Value.ref 133) _) _ _ _); k_dflt (refine useNilP (by k_asm) (by k_asm) (by k_asm) (by k_asm) (by k_asm) (by kpt_hd) (by kpt_hd) (mget (by with_reducible assumption) (by lcg_sub) (by k_mem) (by with_reducible assumption) (by with_reducible assumption) (by omega) (by omega)) (by k_room) (by k_units) ?_; k_whole); k_dflt (intro y9 h9 tk9 F9 N9 p9; (have q9 := p9); (obtain ⟨dy9, ly9, ey9, t9, u9, v9, a9, b9, c9, d9⟩ := q9); (try dsimp only [List.nil_append, List.cons_append] at N9); (try k_sweep)); k_steps) | (refine Halt.go ?_; (with_reducible show wpAny _ _ (call (Value.ref 388) _) _ _ _); k_dflt (refine useRef (by k_asm) (by k_asm) (by k_asm) (by k_asm) (by k_asm) (by kpt_hd) (by kpt_hd) (subp (by exact RingAt.mono (by with_reducible assumption) (by lcg_sub)) (by exact PolyAt.mono (by with_reducible assumption) (by lcg_sub)) (by exact PolyAt.mono (by with_reducible assumption) (by lcg_sub)) (by with_reducible assumption) (by with_reducible assumption) (by with_reducible assumption) (by omega)) (by k_room) (by k_units) ?_; k_whole); k_dflt (intro z9 new9 h9 tk9 F9 N9 A9 p9; (try dsimp only [List.nil_append, List.cons_append] at N9); (try k_sweep)); k_steps))
  refine Halt.go ?_
  rename News _ _ _ _ => N1
  replace N1 := newsSub N1 (subTail (subTail (subTail (fun p hp => hp))))
  k_dflt (refine comp_expr (by k_asm) (by with_unfolding_all rfl) (by rfl) (by decide) ?_)
  k_steps <;> repeat' (first | (refine Halt.go ?_; (with_reducible show wpAny _ _ (call (Value.ref 104) _) _ _ _); k_dflt (refine useTup (by k_asm) (by k_asm) (by k_asm) (by k_asm) (by k_asm) (by kpt_hd) (by kpt_hd) (mdim (by exact MatAt.mono (by with_reducible assumption) (by lcg_sub)) (by with_reducible assumption) (by omega) (by omega)) (by k_room) (by k_units) ?_; k_whole); k_dflt (intro T9 t9 u9 h9 tk9 F9 N9 A9; (have b9 := apHead A9); clear A9; (try dsimp only [List.nil_append, List.cons_append] at N9); (try k_sweep)); k_steps) | (refine Halt.go ?_; (with_reducible show wpAny _ _ (call (Value.ref 133) _) _ _ _); k_dflt (refine useNilP (by k_asm) (by k_asm) (by k_asm) (by k_asm) (by k_asm) (by kpt_hd) (by kpt_hd) (mget (by with_reducible assumption) (by lcg_sub) (by k_mem) (by with_reducible assumption) (by with_reducible assumption) (by omega) (by omega)) (by k_room) (by k_units) ?_; k_whole); k_dflt (intro y9 h9 tk9 F9 N9 p9; (have q9 := p9); (obtain ⟨dy9, ly9, ey9, t9, u9, v9, a9, b9, c9, d9⟩ := q9); (try dsimp only [List.nil_append, List.cons_append] at N9); (try k_sweep)); k_steps) | (refine Halt.go ?_; (with_reducible show wpAny _ _ (call (Value.ref 388) _) _ _ _); k_dflt (refine useRef (by k_asm) (by k_asm) (by k_asm) (by k_asm) (by k_asm) (by kpt_hd) (by kpt_hd) (subp (by exact RingAt.mono (by with_reducible assumption) (by lcg_sub)) (by exact PolyAt.mono (by with_reducible assumption) (by lcg_sub)) (by exact PolyAt.mono (by with_reducible assumption) (by lcg_sub)) (by with_reducible assumption) (by with_reducible assumption) (by with_reducible assumption) (by omega)) (by k_room) (by k_units) ?_; k_whole); k_dflt (intro z9 new9 h9 tk9 F9 N9 A9 p9; (try dsimp only [List.nil_append, List.cons_append] at N9); (try k_sweep)); k_steps))
  rename News _ _ _ _ => N2
  rename Fr _ _ _ _ => F2
  refine src_rangeC (RowEl w rg c fun i j => List.zipWith (fun a b => (a - b) % q) (f i j) (g i j)) (by rfl) F2 N2 (by assumption) (by omega) (by rfl) (fun _ => by rfl) (fun _ => by rfl) (fun _ => by rfl) ?turn ?fin
  (case turn =>
    intro C i g1 ti oC oi led1 h tk E' hi di qC qi hs1 F₁ N₁
    clear N2 F2
    k_steps <;> repeat' (first | (refine Halt.go ?_; (with_reducible show wpAny _ _ (call (Value.ref 104) _) _ _ _); k_dflt (refine useTup (by k_asm) (by k_asm) (by k_asm) (by k_asm) (by k_asm) (by kpt_hd) (by kpt_hd) (mdim (by exact MatAt.mono (by with_reducible assumption) (by lcg_sub)) (by with_reducible assumption) (by omega) (by omega)) (by k_room) (by k_units) ?_; k_whole); k_dflt (intro T9 t9 u9 h9 tk9 F9 N9 A9; (have b9 := apHead A9); clear A9; (try dsimp only [List.nil_append, List.cons_append] at N9); (try k_sweep)); k_steps) | (refine Halt.go ?_; (with_reducible show wpAny _ _ (call (Value.ref 133) _) _ _ _); k_dflt (refine useNilP (by k_asm) (by k_asm) (by k_asm) (by k_asm) (by k_asm) (by kpt_hd) (by kpt_hd) (mget (by with_reducible assumption) (by lcg_sub) (by k_mem) (by with_reducible assumption) (by with_reducible assumption) (by omega) (by omega)) (by k_room) (by k_units) ?_; k_whole); k_dflt (intro y9 h9 tk9 F9 N9 p9; (have q9 := p9); (obtain ⟨dy9, ly9, ey9, t9, u9, v9, a9, b9, c9, d9⟩ := q9); (try dsimp only [List.nil_append, List.cons_append] at N9); (try k_sweep)); k_steps) | (refine Halt.go ?_; (with_reducible show wpAny _ _ (call (Value.ref 388) _) _ _ _); k_dflt (refine useRef (by k_asm) (by k_asm) (by k_asm) (by k_asm) (by k_asm) (by kpt_hd) (by kpt_hd) (subp (by exact RingAt.mono (by with_reducible assumption) (by lcg_sub)) (by exact PolyAt.mono (by with_reducible assumption) (by lcg_sub)) (by exact PolyAt.mono (by with_reducible assumption) (by lcg_sub)) (by with_reducible assumption) (by with_reducible assumption) (by with_reducible assumption) (by omega)) (by k_room) (by k_units) ?_; k_whole); k_dflt (intro z9 new9 h9 tk9 F9 N9 A9 p9; (try dsimp only [List.nil_append, List.cons_append] at N9); (try k_sweep)); k_steps))
    refine Halt.go ?_
    k_dflt (refine comp_expr (by k_asm) (by with_unfolding_all rfl) (by rfl) (by decide) ?_)
    k_steps <;> repeat' (first | (refine Halt.go ?_; (with_reducible show wpAny _ _ (call (Value.ref 104) _) _ _ _); k_dflt (refine useTup (by k_asm) (by k_asm) (by k_asm) (by k_asm) (by k_asm) (by kpt_hd) (by kpt_hd) (mdim (by exact MatAt.mono (by with_reducible assumption) (by lcg_sub)) (by with_reducible assumption) (by omega) (by omega)) (by k_room) (by k_units) ?_; k_whole); k_dflt (intro T9 t9 u9 h9 tk9 F9 N9 A9; (have b9 := apHead A9); clear A9; (try dsimp only [List.nil_append, List.cons_append] at N9); (try k_sweep)); k_steps) | (refine Halt.go ?_; (with_reducible show wpAny _ _ (call (Value.ref 133) _) _ _ _); k_dflt (refine useNilP (by k_asm) (by k_asm) (by k_asm) (by k_asm) (by k_asm) (by kpt_hd) (by kpt_hd) (mget (by with_reducible assumption) (by lcg_sub) (by k_mem) (by with_reducible assumption) (by with_reducible assumption) (by omega) (by omega)) (by k_room) (by k_units) ?_; k_whole); k_dflt (intro y9 h9 tk9 F9 N9 p9; (have q9 := p9); (obtain ⟨dy9, ly9, ey9, t9, u9, v9, a9, b9, c9, d9⟩ := q9); (try dsimp only [List.nil_append, List.cons_append] at N9); (try k_sweep)); k_steps) | (refine Halt.go ?_; (with_reducible show wpAny _ _ (call (Value.ref 388) _) _ _ _); k_dflt (refine useRef (by k_asm) (by k_asm) (by k_asm) (by k_asm) (by k_asm) (by kpt_hd) (by kpt_hd) (subp (by exact RingAt.mono (by with_reducible assumption) (by lcg_sub)) (by exact PolyAt.mono (by with_reducible assumption) (by lcg_sub)) (by exact PolyAt.mono (by with_reducible assumption) (by lcg_sub)) (by with_reducible assumption) (by with_reducible assumption) (by with_reducible assumption) (by omega)) (by k_room) (by k_units) ?_; k_whole); k_dflt (intro z9 new9 h9 tk9 F9 N9 A9 p9; (try dsimp only [List.nil_append, List.cons_append] at N9); (try k_sweep)); k_steps))
    rename News _ _ _ _ => N3
    rename Fr _ _ _ _ => F3
    refine src_rangeL (PolyEl w rg fun j => List.zipWith (fun a b => (a - b) % q) (f i j) (g i j)) (by rfl) F3 N3 (by assumption) (by omega) (by rfl) (by rfl) (fun _ => by rfl) ?turn2 ?fin2
    (case turn2 =>
      intro C2 j g2 tj oC2 m2 led2 h2 tk2 E2 hj hC2 hm2 qC2 hs2 F₂ N₂
      have la := hlf i j hi hj
      have lb := hlg i j hi hj
      clear N3 F3
      k_steps <;> repeat' (first | (refine Halt.go ?_; (with_reducible show wpAny _ _ (call (Value.ref 104) _) _ _ _); k_dflt (refine useTup (by k_asm) (by k_asm) (by k_asm) (by k_asm) (by k_asm) (by kpt_hd) (by kpt_hd) (mdim (by exact MatAt.mono (by with_reducible assumption) (by lcg_sub)) (by with_reducible assumption) (by omega) (by omega)) (by k_room) (by k_units) ?_; k_whole); k_dflt (intro T9 t9 u9 h9 tk9 F9 N9 A9; (have b9 := apHead A9); clear A9; (try dsimp only [List.nil_append, List.cons_append] at N9); (try k_sweep)); k_steps) | (refine Halt.go ?_; (with_reducible show wpAny _ _ (call (Value.ref 133) _) _ _ _); k_dflt (refine useNilP (by k_asm) (by k_asm) (by k_asm) (by k_asm) (by k_asm) (by kpt_hd) (by kpt_hd) (mget (by with_reducible assumption) (by lcg_sub) (by k_mem) (by with_reducible assumption) (by with_reducible assumption) (by omega) (by omega)) (by k_room) (by k_units) ?_; k_whole); k_dflt (intro y9 h9 tk9 F9 N9 p9; (have q9 := p9); (obtain ⟨dy9, ly9, ey9, t9, u9, v9, a9, b9, c9, d9⟩ := q9); (try dsimp only [List.nil_append, List.cons_append] at N9); (try k_sweep)); k_steps) | (refine Halt.go ?_; (with_reducible show wpAny _ _ (call (Value.ref 388) _) _ _ _); k_dflt (refine useRef (by k_asm) (by k_asm) (by k_asm) (by k_asm) (by k_asm) (by kpt_hd) (by kpt_hd) (subp (by exact RingAt.mono (by with_reducible assumption) (by lcg_sub)) (by exact PolyAt.mono (by with_reducible assumption) (by lcg_sub)) (by exact PolyAt.mono (by with_reducible assumption) (by lcg_sub)) (by with_reducible assumption) (by with_reducible assumption) (by with_reducible assumption) (by omega)) (by k_room) (by k_units) ?_; k_whole); k_dflt (intro z9 new9 h9 tk9 F9 N9 A9 p9; (try dsimp only [List.nil_append, List.cons_append] at N9); (try k_sweep)); k_steps))
      rename News _ _ _ _ => N5
      rename Fr _ _ _ _ => F5
      rename PolyAt _ _ _ _ _ => p5
      rename (∀ (q : Addr × Obj), q ∈ _ → ∀ (p : Addr × Obj), p ∈ _ → p.1 ≠ q.1) => A5
      refine turnEnd_new F5 N5 A5 ?sub ⟨_, rfl, p5⟩
      (case sub => lcg_sub))
    intro g2
    unfold FinG
    intro D2 h2 tk2 ys2 new2 F₂ N₂ oD2 ap2 hd2
    k_steps <;> repeat' (first | (refine Halt.go ?_; (with_reducible show wpAny _ _ (call (Value.ref 104) _) _ _ _); k_dflt (refine useTup (by k_asm) (by k_asm) (by k_asm) (by k_asm) (by k_asm) (by kpt_hd) (by kpt_hd) (mdim (by exact MatAt.mono (by with_reducible assumption) (by lcg_sub)) (by with_reducible assumption) (by omega) (by omega)) (by k_room) (by k_units) ?_; k_whole); k_dflt (intro T9 t9 u9 h9 tk9 F9 N9 A9; (have b9 := apHead A9); clear A9; (try dsimp only [List.nil_append, List.cons_append] at N9); (try k_sweep)); k_steps) | (refine Halt.go ?_; (with_reducible show wpAny _ _ (call (Value.ref 133) _) _ _ _); k_dflt (refine useNilP (by k_asm) (by k_asm) (by k_asm) (by k_asm) (by k_asm) (by kpt_hd) (by kpt_hd) (mget (by with_reducible assumption) (by lcg_sub) (by k_mem) (by with_reducible assumption) (by with_reducible assumption) (by omega) (by omega)) (by k_room) (by k_units) ?_; k_whole); k_dflt (intro y9 h9 tk9 F9 N9 p9; (have q9 := p9); (obtain ⟨dy9, ly9, ey9, t9, u9, v9, a9, b9, c9, d9⟩ := q9); (try dsimp only [List.nil_append, List.cons_append] at N9); (try k_sweep)); k_steps) | (refine Halt.go ?_; (with_reducible show wpAny _ _ (call (Value.ref 388) _) _ _ _); k_dflt (refine useRef (by k_asm) (by k_asm) (by k_asm) (by k_asm) (by k_asm) (by kpt_hd) (by kpt_hd) (subp (by exact RingAt.mono (by with_reducible assumption) (by lcg_sub)) (by exact PolyAt.mono (by with_reducible assumption) (by lcg_sub)) (by exact PolyAt.mono (by with_reducible assumption) (by lcg_sub)) (by with_reducible assumption) (by with_reducible assumption) (by with_reducible assumption) (by omega)) (by k_room) (by k_units) ?_; k_whole); k_dflt (intro z9 new9 h9 tk9 F9 N9 A9 p9; (try dsimp only [List.nil_append, List.cons_append] at N9); (try k_sweep)); k_steps))
    exact turnEnd_comp F₂ N₂ oD2 ap2 (fun _ h => h) hd2)
  intro g1
  unfold FinG
  intro D1 h1 tk1 ys1 new1 F₁ N₁ oD1 ap1 hd1
  clear N2 F2
  k_steps <;> repeat' (first | (refine Halt.go ?_; (with_reducible show wpAny _ _ (call (Value.ref 104) _) _ _ _); k_dflt (refine useTup (by k_asm) (by k_asm) (by k_asm) (by k_asm) (by k_asm) (by kpt_hd) (by kpt_hd) (mdim (by exact MatAt.mono (by with_reducible assumption) (by lcg_sub)) (by with_reducible assumption) (by omega) (by omega)) (by k_room) (by k_units) ?_; k_whole); k_dflt (intro T9 t9 u9 h9 tk9 F9 N9 A9; (have b9 := apHead A9); clear A9; (try dsimp only [List.nil_append, List.cons_append] at N9); (try k_sweep)); k_steps) | (refine Halt.go ?_; (with_reducible show wpAny _ _ (call (Value.ref 133) _) _ _ _); k_dflt (refine useNilP (by k_asm) (by k_asm) (by k_asm) (by k_asm) (by k_asm) (by kpt_hd) (by kpt_hd) (mget (by with_reducible assumption) (by lcg_sub) (by k_mem) (by with_reducible assumption) (by with_reducible assumption) (by omega) (by omega)) (by k_room) (by k_units) ?_; k_whole); k_dflt (intro y9 h9 tk9 F9 N9 p9; (have q9 := p9); (obtain ⟨dy9, ly9, ey9, t9, u9, v9, a9, b9, c9, d9⟩ := q9); (try dsimp only [List.nil_append, List.cons_append] at N9); (try k_sweep)); k_steps) | (refine Halt.go ?_; (with_reducible show wpAny _ _ (call (Value.ref 388) _) _ _ _); k_dflt (refine useRef (by k_asm) (by k_asm) (by k_asm) (by k_asm) (by k_asm) (by kpt_hd) (by kpt_hd) (subp (by exact RingAt.mono (by with_reducible assumption) (by lcg_sub)) (by exact PolyAt.mono (by with_reducible assumption) (by lcg_sub)) (by exact PolyAt.mono (by with_reducible assumption) (by lcg_sub)) (by with_reducible assumption) (by with_reducible assumption) (by with_reducible assumption) (by omega)) (by k_room) (by k_units) ?_; k_whole); k_dflt (intro z9 new9 h9 tk9 F9 N9 A9 p9; (try dsimp only [List.nil_append, List.cons_append] at N9); (try k_sweep)); k_steps))
  refine Halt.go ?_
  k_dflt (refine' useGoesZ (news := (D1, LCg.lst ys1) :: (new1 ++ news)) ?k1 ?k2 ?k3 ?k4 ?k40 tb1 tb2 tb3 (newsOff oD1 ap1 (by k_mem) n1) (newsOff oD1 ap1 (by k_mem) n2) (newsOff oD1 ap1 (by k_mem) n3) bare ?k5 ?kf ?kK (mcall callArgs3 (hM.mono (subTail (subR (fun _ h => h)))) (hR.mono (subTail (subR (fun _ h => h)))) ((dataOf hd1).mono (subCons (List.Mem.head _) (subTail (subL (fun _ h => h))))) hr hr' hc') ?kd ?ku ?_; (case k2 => k_asm); (case k1 => k_asm); (case k3 => k_asm); (case k4 => k_asm); (case k40 => lcg_sub); (case k5 => k_asm); (case kf => first | exact rfl | assumption); (case kK => first | exact rfl | assumption); (case kd => k_room); (case ku => k_units))
  intro z new9 h9 tk9 gs9 p1 p2 p3 tp1 tp2 tp3 F9 N9 A9 bare9 hz
  k_steps <;> repeat' (first | (refine Halt.go ?_; (with_reducible show wpAny _ _ (call (Value.ref 104) _) _ _ _); k_dflt (refine useTup (by k_asm) (by k_asm) (by k_asm) (by k_asm) (by k_asm) (by kpt_hd) (by kpt_hd) (mdim (by exact MatAt.mono (by with_reducible assumption) (by lcg_sub)) (by with_reducible assumption) (by omega) (by omega)) (by k_room) (by k_units) ?_; k_whole); k_dflt (intro T9 t9 u9 h9 tk9 F9 N9 A9; (have b9 := apHead A9); clear A9; (try dsimp only [List.nil_append, List.cons_append] at N9); (try k_sweep)); k_steps) | (refine Halt.go ?_; (with_reducible show wpAny _ _ (call (Value.ref 133) _) _ _ _); k_dflt (refine useNilP (by k_asm) (by k_asm) (by k_asm) (by k_asm) (by k_asm) (by kpt_hd) (by kpt_hd) (mget (by with_reducible assumption) (by lcg_sub) (by k_mem) (by with_reducible assumption) (by with_reducible assumption) (by omega) (by omega)) (by k_room) (by k_units) ?_; k_whole); k_dflt (intro y9 h9 tk9 F9 N9 p9; (have q9 := p9); (obtain ⟨dy9, ly9, ey9, t9, u9, v9, a9, b9, c9, d9⟩ := q9); (try dsimp only [List.nil_append, List.cons_append] at N9); (try k_sweep)); k_steps) | (refine Halt.go ?_; (with_reducible show wpAny _ _ (call (Value.ref 388) _) _ _ _); k_dflt (refine useRef (by k_asm) (by k_asm) (by k_asm) (by k_asm) (by k_asm) (by kpt_hd) (by kpt_hd) (subp (by exact RingAt.mono (by with_reducible assumption) (by lcg_sub)) (by exact PolyAt.mono (by with_reducible assumption) (by lcg_sub)) (by exact PolyAt.mono (by with_reducible assumption) (by lcg_sub)) (by with_reducible assumption) (by with_reducible assumption) (by with_reducible assumption) (by omega)) (by k_room) (by k_units) ?_; k_whole); k_dflt (intro z9 new9 h9 tk9 F9 N9 A9 p9; (try dsimp only [List.nil_append, List.cons_append] at N9); (try k_sweep)); k_steps))
  exact retMat hret (by assumption) (by assumption) A9 (midOff oD1 ap1 (tabsIn (by k_mem) (by k_mem) (by k_mem) (by lcg_sub)) (tabsIn (by k_mem) (by k_mem) (by k_mem) (by lcg_sub))) tp1 tp2 tp3 bare9 hz
end
end
section
example : True := by
  w_top off
  trivial
section
variable {w : World} {loose : List Str} {mean : ExcName → Option Value} {mg mb : Str → Option Value} {news : Led}
local macro_rules | `(tactic| walk_at "exec Assign cons ListComp") => `(tactic| (k_here; refine halt ?_))
local macro_rules | `(tactic| walk_at "exec For Name Call cons nil") => `(tactic| (k_here; refine halt ?_))
local macro_rules | `(tactic| walk_at "exec For Name Call") => `(tactic| (k_here; refine halt ?_))
local macro_rules | `(tactic| walk_at "exec For") => `(tactic| (k_here; refine halt ?_))
local macro_rules | `(tactic| walk_at "eval ListComp") => `(tactic| (k_here; refine halt ?_))
local macro_rules | `(tactic| walk_at "pyIter ref") => `(tactic| (k_here; refine halt ?_))
local macro_rules | `(tactic| walk_at "setItem ref int") => `(tactic| (k_here; k_dflt (refine ksa_set (by k_asm) (by k_asm) (by k_upd) (by with_reducible assumption) (by kpt_fact) (by kpt_fact) (by kpt_fact) ?_; k_whole); intro h' F' N' hI' hl' hs'; clear hl' hs'; (try k_sweep)))
set_option maxHeartbeats 2000000 in
theorem smul {rg x y : Addr} {q : Int} {n : Nat} {as bs : List Int} (hR : RingAt w news rg q n) (hx : PolyAt w news rg x as) (hy : PolyAt w news rg y bs) (hq : 0 < q) (ha : as.length = n) (hb : bs.length = n) (hn : n = 2 ∨ n = 3) (sa : Small as) (sb : Small bs) :
    Goes w loose mean mg mb news 345 [.ref x, .ref y] 3 40 (fun new r => ∃ l vs e, r = .ref l ∧ new = [(l, lsO vs e)] ∧ IntsAre vs (pmul q as bs)) := by
  intro dp un gd env outer A₀ base h₀ L m s R B F X N T hf hk hdp hun hret
  have hq0 : q ≠ 0 := by omega
  have n3 : n ≤ 3 := by omega
  have n2 : 2 ≤ n := by omega
  have hnW : N23 n := hn
  clear hn
  obtain ⟨dr, r1, r2, r3, r4, hr1, hr2⟩ := hR
  obtain ⟨dx, lx, ex, x1, x2, vx, hx1, hx2, hx3, hx4⟩ := hx
  obtain ⟨dy, ly, ey, y1, y2, vy, hy1, hy2, hy3, hy4⟩ := hy
  (refine' code_defC ?k1 ?k2 ?k3 ?k4 ?k5 ?kA ?kF ?kK ?k6 ?k7 ?k8 ?k9 ?kB ?kD ?_ ?c2 ?c3 ?c4; (case kA => exact rfl); (case kF => first | exact rfl | assumption); (case kK => first | exact rfl | assumption); (case k1 => k_asm); (case k2 => k_asm); (case k3 => k_asm); (case k4 => k_asm); (case k5 => k_asm); (case k6 => k_is); (case k7 => k_is); (case k8 => k_room); (case k9 => exact BindsTo.of_eq rfl); (case kB => exact rfl); (case kD => decide +kernel); (case c2 => exact rfl); (case c3 => exact rfl); (case c4 => exact rfl); k_whole; intro g' L' h' tk' cells' FG' F' N' Y' B' X' T' l1; (try k_lt l1); (have hY := CellsAre.one Y'; obtain ⟨oc1, hE', d1⟩ := hY; subst hE'; clear Y'); (try dsimp only [List.cons_append, List.nil_append] at N'); (try dsimp only); (try k_fold))
  k_steps
  refine Halt.go ?_
  k_dflt (refine comp_assign (by k_asm) (by rfl) (by with_unfolding_all rfl) (by with_unfolding_all rfl) (by rfl) (by decide) (by rfl) (by rfl) ?_)
  k_steps
  rename News _ _ _ _ => N1
  rename Fr _ _ _ _ => F1
  refine src_rangeN (IntEl fun _ => 0) (HoldsL (Str.ofString "_") fun i v => True) (by rfl) F1 N1 (by assumption) (by omega) ?st ?turn ?fin
  (case st =>
    intro C
    refine stores_local ?a ?b ?c C ?d
    (case a => rfl)
    (case b => rfl)
    (case c => exact fun _ _ _ _ => trivial)
    (case d => exact fun c hc => nomatch hc))
  (case turn =>
    intro C wr i g hi v h tk own names new D ys E' hH hna hwo hyl F₁ N₁ oD oN oNq hd
    obtain ⟨_, oC, m₂, r, rfl, hC, _⟩ := hH
    rcases names1 hna with rfl
    dsimp only [List.cons_append, List.nil_append] at N₁
    k_steps
    exact ⟨_, _, [], rfl, by assumption, by assumption, apNil, rfl, _, rfl⟩)
  intro g
  unfold FinGA
  intro D h tk ys new F₁ N₁ oD ap hd
  have hI : IntsAre ys (List.replicate n 0) := hd.ints (by simp) fun i hi => by simp [List.getD_eq_getElem?_getD, List.getElem?_replicate, hi]
  have oDf : ∀ p ∈ (L' + 1, oc1) :: news, p.1 ≠ D := fun p hp => oD p (List.mem_append_right _ hp)
  have hx98 : ∃ e0, News g' L' h ((D, lsO ys e0) :: ((L' + 1, oc1) :: news)) := ⟨_, newsSub N₁ (subCons (List.Mem.head _) (subTail (subR fun _ h => h)))⟩
  obtain ⟨e0, N₀⟩ := hx98
  clear N₁
  clear N1 F1 oD ap hd
  k_steps
  refine Halt.go ?_
  k_dflt (refine For_G g' (by rfl) (by rfl) ?_)
  k_steps
  refine Halt.go ?_
  rename News _ _ _ _ => N2
  rename Fr _ _ _ _ => F2
  refine for_rangeL (n := n) (fun i => cv2 as bs n i (List.replicate n 0)) (fun i m' => m' (Str.ofString "n") = some (.int (n : Int) r4) ∧ m' (Str.ofString "a") = some (.ref lx) ∧ m' (Str.ofString "b") = some (.ref ly) ∧ m' (Str.ofString "new_coeffs") = some (.ref D)) (by rfl) F2 N2 (by assumption) (smallN (lt20 n3)) (sizeN n) oDf hI ⟨rfl, rfl, rfl, rfl⟩ ?step ?fin1
  (case step =>
    intro i ti m₁ vs e led h tk hi hI hJ hs1 hoD F₃ N₃
    obtain ⟨hmn, hma, hmb, hmc⟩ := hJ
    rw [Int.zero_add] at F₃
    clear N2 F2
    k_steps
    refine Halt.go ?_
    k_dflt (refine For_G g' (by rfl) (by rfl) ?_)
    k_steps
    refine Halt.go ?_
    rename News _ _ _ _ => N4
    rename Fr _ _ _ _ => F4
    refine for_rangeL (n := n - i) (fun j => cv1 as bs i j (cv2 as bs n i (List.replicate n 0))) (fun j m' => m' (Str.ofString "n") = some (.int (n : Int) r4) ∧ m' (Str.ofString "a") = some (.ref lx) ∧ m' (Str.ofString "b") = some (.ref ly) ∧ m' (Str.ofString "new_coeffs") = some (.ref D) ∧ m' (Str.ofString "i") = some (.int (i : Int) ti)) (by rfl) F4 N4 (by assumption) (smallSub n3 hi) (sizeSub (Nat.le_of_lt hi)) hoD hI ⟨lkN rfl hmn, lkN rfl hma, lkN rfl hmb, lkN rfl hmc, rfl⟩ ?step2 ?fin2
    (case step2 =>
      intro j tj m₂ vs2 e2 led2 h2 tk2 hj hI2 hJ hs2 hoD2 F₅ N₅
      obtain ⟨kn, ka, kb, kc, ki⟩ := hJ
      rw [Int.zero_add] at F₅
      have hl2 : (cv1 as bs i j (cv2 as bs n i (List.replicate n 0))).length = n := by rw [cv1_length, cv2_length, List.length_replicate]
      have hij : i + j < n := ixAdd hj
      have hjn : j < n := Nat.lt_of_le_of_lt (Nat.le_add_left _ _) hij
      obtain ⟨u1, u2, u3⟩ := ix63 n3 hij (Int.natCast_add i j).symm
      obtain ⟨u4, u5, u6⟩ := ix63 n3 hi rfl
      obtain ⟨u7, u8, u9⟩ := ix63 n3 hjn rfl
      obtain ⟨tc, gc⟩ := ints_get (k := (i : Int) + (j : Int)) (i := i + j) hI2 u3 (by rwa [hl2])
      obtain ⟨ta, ga⟩ := ints_get (k := (i : Int)) (i := i) hx4 u6 (by rwa [ha])
      obtain ⟨tb, gb⟩ := ints_get (k := (j : Int)) (i := j) hy4 u9 (by rwa [hb])
      clear hj u6 u9
      have sai := small_getD sa i
      have sbj := small_getD sb j
      clear N4 F4
      k_steps
      rename News _ _ _ _ => N6
      rename Fr _ _ _ _ => F6
      rename IntsAre _ _ => hI3
      rw [u3] at N6 hI3
      exact LoopEndL.next F6 N6 hI3 ⟨lkN rfl kn, lkN rfl ka, lkN rfl kb, lkN rfl kc, lkN rfl ki⟩)
    intro h2 tk2 m2 vs2 e2 F₅ N₅ hI2 hJ
    obtain ⟨kn, ka, kb, kc, ki⟩ := hJ
    clear N4 F4
    k_steps
    exact LoopEndL.next F₅ N₅ hI2 ⟨kn, ka, kb, kc⟩)
  intro h1 tk1 m1 vs1 e1 F3 N3 hI1 hJ
  obtain ⟨hmn, hma, hmb, hmc⟩ := hJ
  clear N2 F2
  k_steps
  refine Halt.go ?_
  k_dflt (refine For_G g' (by rfl) (by rfl) ?_)
  k_steps
  refine Halt.go ?_
  rename News _ _ _ _ => N2
  rename Fr _ _ _ _ => F2
  refine for_rangeL (n := n - 1) (fun i => cv4 as bs n i (cv2 as bs n n (List.replicate n 0))) (fun i m' => m' (Str.ofString "n") = some (.int (n : Int) r4) ∧ m' (Str.ofString "a") = some (.ref lx) ∧ m' (Str.ofString "b") = some (.ref ly) ∧ m' (Str.ofString "new_coeffs") = some (.ref D)) (by rfl) F2 N2 (by assumption) (smallOne n3) (sizeFrom1 n) oDf hI1 ⟨hmn, hma, hmb, hmc⟩ ?step3 ?fin3
  (case step3 =>
    intro j tj m₁ vs e led h tk hj hI hJ hs1 hoD F₃ N₃
    obtain ⟨hmn, hma, hmb, hmc⟩ := hJ
    clear N2 F2
    k_steps
    refine Halt.go ?_
    k_dflt (refine For_G g' (by rfl) (by rfl) ?_)
    k_steps
    refine Halt.go ?_
    rename News _ _ _ _ => N4
    rename Fr _ _ _ _ => F4
    refine for_rangeL (n := j + 1) (fun i => cv3 as bs n (j + 1) i (cv4 as bs n j (cv2 as bs n n (List.replicate n 0)))) (fun i m' => m' (Str.ofString "n") = some (.int (n : Int) r4) ∧ m' (Str.ofString "a") = some (.ref lx) ∧ m' (Str.ofString "b") = some (.ref ly) ∧ m' (Str.ofString "new_coeffs") = some (.ref D) ∧ m' (Str.ofString "j") = some (.int (1 + (j : Int)) tj)) (by rfl) F4 N4 (by assumption) (smallTail n3 hj) (sizeTail (by omega)) hoD hI ⟨lkN rfl hmn, lkN rfl hma, lkN rfl hmb, lkN rfl hmc, rfl⟩ ?step4 ?fin4
    (case step4 =>
      intro i ti m₂ vs2 e2 led2 h2 tk2 hi hI2 hJ hs2 hoD2 F₅ N₅
      obtain ⟨kn, ka, kb, kc, kj⟩ := hJ
      have hl2 : (cv3 as bs n (j + 1) i (cv4 as bs n j (cv2 as bs n n (List.replicate n 0)))).length = n := by rw [cv3_length, cv4_length, cv2_length, List.length_replicate]
      obtain ⟨hin, hjn, hkn⟩ := ixT1 hi hj
      obtain ⟨u1, u2, u3⟩ := ix63 n3 hin (ixT2 (n := n) (j := j))
      obtain ⟨u4, u5, u6⟩ := ix63 n3 hkn (ixT3 hj)
      obtain ⟨u7, u8, u9⟩ := ix63 n3 hjn ixT4
      obtain ⟨tc, gc⟩ := ints_get (k := (n : Int) - (1 + (j : Int)) + (i : Int) + (1 + (j : Int)) - (n : Int)) (i := i) hI2 u3 (by rwa [hl2])
      obtain ⟨ta, ga⟩ := ints_get (k := (n : Int) - (1 + (j : Int)) + (i : Int)) (i := n - (j + 1) + i) hx4 u6 (by rwa [ha])
      obtain ⟨tb, gb⟩ := ints_get (k := 1 + (j : Int)) (i := j + 1) hy4 u9 (by rwa [hb])
      clear hj u6 u9
      have sai := small_getD sa (n - (j + 1) + i)
      have sbj := small_getD sb (j + 1)
      clear N4 F4
      k_steps
      rename News _ _ _ _ => N6
      rename Fr _ _ _ _ => F6
      rename IntsAre _ _ => hI3
      rw [u3] at N6 hI3
      exact LoopEndL.next F6 N6 hI3 ⟨lkN rfl kn, lkN rfl ka, lkN rfl kb, lkN rfl kc, lkN rfl kj⟩)
    intro h2 tk2 m2 vs2 e2 F₅ N₅ hI2 hJ
    obtain ⟨kn, ka, kb, kc, kj⟩ := hJ
    clear N4 F4
    k_steps
    exact LoopEndL.next F₅ N₅ hI2 ⟨kn, ka, kb, kc⟩)
  intro h2 tk2 m2 vs2 e2 F4 N4 hI2 hJ
  obtain ⟨kn, ka, kb, kc⟩ := hJ
  clear N2 F2
  have hl4 : (cv4 as bs n (n - 1) (cv2 as bs n n (List.replicate n 0))).length = n := by rw [cv4_length, cv2_length, List.length_replicate]
  k_steps
  refine Halt.go ?_
  k_dflt (refine comp_expr (by k_asm) (by with_unfolding_all rfl) (by rfl) (by decide) ?_)
  k_steps
  rename News _ _ _ _ => N5
  rename Fr _ _ _ _ => F5
  refine src_listI (IntEl fun i => (cv4 as bs n (n - 1) (cv2 as bs n n (List.replicate n 0))).getD i 0 % q) (by rfl) F5 N5 (by k_mem) hI2 hl4 (by omega) (by rfl) (by rfl) (fun _ => by rfl) ?turn5 ?fin5
  (case turn5 =>
    intro C i g t oC m₂ led h tk E' hi hC hmc' qC hs F₁ N₁
    clear N5 F5
    k_steps
    exact ⟨_, _, [], rfl, by assumption, by assumption, apNil, rfl, _, by rw [Int.fmod_eq_emod_of_nonneg _ (by omega)]⟩)
  intro g2
  unfold FinG
  intro D2 h3 tk3 ys3 new3 F₆ N₆ oD6 ap6 hd6
  have hI6 : IntsAre ys3 (pmul q as bs) := hd6.ints (by rw [← cv_pmul hnW ha hb, List.length_map, hl4]) fun i hi => by
    rw [← cv_pmul hnW ha hb]
    rw [← hl4] at hi
    simp [List.getD_eq_getElem?_getD, List.getElem?_map, List.getElem?_eq_getElem hi]
  clear N5 F5
  k_steps
  refine' retList hret ?F ?N ?c ?s ?z hI6
  (case F => assumption)
  (case N => assumption)
  (case c => k_mem)
  (case s => lcg_sub)
  (case z => exact fun p hp => oD6 p (List.mem_append_right _ (List.mem_cons_of_mem _ (List.mem_cons_of_mem _ hp))))
end
end
end
section
example : True := by
  w_top off
  trivial
section
variable {w : World} {loose : List Str} {mean : ExcName → Option Value} {mg mb : Str → Option Value} {news : Led}
local macro_rules | `(tactic| walk_at "call ref") => `(tactic| (k_here; kco_any "__call__"; kco_here; k_dflt (refine wpAny_call ?_; refine kco_code (by k_in) (by k_inst) rfl (by k_is) (by k_is) (by k_is) ?_; (try dsimp only); refine halt ?_)))
set_option maxHeartbeats 2000000 in
theorem mulpN {rg x y : Addr} {q : Int} {n : Nat} {as bs : List Int} (hR : RingAt w news rg q n) (hx : PolyAt w news rg x as) (hy : PolyAt w news rg y bs) (hq : 0 < q) (ha : as.length = n) (hb : bs.length = n) (hn : n = 2 ∨ n = 3) (sa : Small as) (sb : Small bs) :
    Goes w loose mean mg mb news 407 [.ref x, .ref y] 10 90 (fun new r => ∃ z, r = .ref z ∧ PolyAt w new rg z (pmul q as bs)) := by
  intro dp un gd env outer A₀ base h₀ L m s R B F X N T hf hk hdp hun hret
  have hxc345 : HaltCall 345 := .mk
  have hlen : ((pmul q as bs).length : Int) = n := pmul_length (q := q) (n := (n : Int)) (by omega) (by omega) (by omega)
  have hR' := hR
  have hx' := hx
  have hy' := hy
  obtain ⟨dr, r1, r2, r3, r4, hr1, hr2⟩ := hR
  obtain ⟨dx, lx, ex, x1, x2, vx, hx1, hx2, hx3, hx4⟩ := hx
  obtain ⟨dy, ly, ey, y1, y2, vy, hy1, hy2, hy3, hy4⟩ := hy
  k_dflt ktr_enter
  k_steps <;> repeat' (first | (refine Halt.go ?_; (with_reducible show wpAny _ _ (call (Value.ref 345) _) _ _ _); k_dflt (refine useAny (by k_asm) (by k_asm) (by k_asm) (by k_asm) (by k_asm) (by kpt_hd) (by kpt_hd) (smul (by exact RingAt.mono (by with_reducible assumption) (by lcg_sub)) (by exact PolyAt.mono (by with_reducible assumption) (by lcg_sub)) (by exact PolyAt.mono (by with_reducible assumption) (by lcg_sub)) (by with_reducible assumption) (by with_reducible assumption) (by with_reducible assumption) (by with_reducible assumption) (by with_reducible assumption) (by with_reducible assumption)) (by k_room) (by k_units) ?_; k_whole); k_dflt (intro r9 new9 h9 tk9 F9 N9 A9 O9; (obtain ⟨l9, v9, n9, f9, e9, i9⟩ := O9); subst f9; subst e9; (have b9 := A9 _ (List.Mem.head _)); clear A9; (try dsimp only at b9); (try dsimp only [List.nil_append, List.cons_append] at N9); (try k_sweep)); k_steps) | (refine Halt.go ?_; (with_reducible show codeAny _ _ (.call (.ref 272) _) _ _); k_dflt (refine useRing (by k_asm) (by k_asm) (by k_asm) (by k_asm) (by k_asm) (by kpt_hd) (by kpt_hd) (by exact RingAt.mono (by assumption) (by lcg_sub)) (by k_mem) (by first | assumption | exact IntsAre.cons _ _ (by assumption) | exact IntsAre.cons _ _ (IntsAre.cons _ _ .nil) | exact IntsAre.cons _ _ (IntsAre.cons _ _ (IntsAre.cons _ _ .nil))) (by first | assumption | (simp only [List.length_cons, List.length_nil] at *; omega)) (by omega) (by k_room) (by k_units) ?_; k_whole); k_dflt (intro x9 d9 t9 u9 h9 tk9 F9 N9 b9 c9; (try k_sweep)); k_steps))
  refine' retPoly hret ?F ?N ?a ?b ?c (by assumption) ?s ?x ?y ?z
  (case F => assumption)
  (case N => assumption)
  (case a => k_mem)
  (case b => k_mem)
  (case c => k_mem)
  (case s => lcg_sub)
  (case x => k_offL)
  (case y => k_offL)
  (case z => k_offL)
theorem mulp {rg x y : Addr} {q n : Int} {as bs : List Int} (hR : RingAt w news rg q n) (hx : PolyAt w news rg x as) (hy : PolyAt w news rg y bs) (hq : 0 < q) (ha : (as.length : Int) = n) (hb : (bs.length : Int) = n) (hn : n = 2 ∨ n = 3) (sa : Small as) (sb : Small bs) :
    Goes w loose mean mg mb news 407 [.ref x, .ref y] 10 90 (fun new r => ∃ z, r = .ref z ∧ PolyAt w new rg z (pmul q as bs)) := by
  rcases hn with rfl | rfl
  · exact mulpN (n := 2) hR hx hy hq (by omega) (by omega) (.inl rfl) sa sb
  · exact mulpN (n := 3) hR hx hy hq (by omega) (by omega) (.inr rfl) sa sb
end
end
section
local macro_rules | `(tactic| kpt_conv) => `(tactic| (k_here; (with_reducible show wpAny _ _ (binaryOp _ (Value.ref _) (Value.ref _)) _ _ _); k_dflt (refine binop_K (by k_asm) (by k_asm) (by k_inst) (by k_typeOf) (by k_is) (by k_is) (by k_is) ?_; k_whole)))
local macro_rules | `(tactic| walk_at "binaryOp Add ref ref") => `(tactic| kpt_conv)
local macro_rules | `(tactic| walk_at "binaryOp Sub ref ref") => `(tactic| kpt_conv)
local macro_rules | `(tactic| walk_at "binaryOp Mult ref ref") => `(tactic| kpt_conv)
local macro_rules | `(tactic| walk_at "binaryOp MatMult ref ref") => `(tactic| kpt_conv)
local macro_rules | `(tactic| walk_at "callWith ref") => `(tactic| (k_here; (with_reducible show wpAny _ _ (callWith _ (Value.ref _) _ _ (backToKw _ (keywordEach (_ :: _) _))) _ _ _); kco_any "__call__"; kco_here; k_dflt (refine kcoKW (by k_in) (by k_inst) rfl (by k_is) ?_; k_whole)))
section
example : True := by
  w_top off
  trivial
section
variable {w : World} {loose : List Str} {mean : ExcName → Option Value} {mg mb : Str → Option Value} {news : Led}
local macro_rules | `(tactic| walk_at "eval ListComp") => `(tactic| (k_here; refine halt ?_))
local macro_rules | `(tactic| walk_at "exec Assign cons ListComp") => `(tactic| (k_here; refine halt ?_))
local macro_rules | `(tactic| walk_at "call ref") => `(tactic| (k_here; kco_any "__call__"; kco_here; k_dflt (refine wpAny_call ?_; refine kco_code (by k_in) (by k_inst) rfl (by k_is) (by k_is) (by k_is) ?_; (try dsimp only); refine halt ?_)))
set_option maxHeartbeats 2000000 in
theorem mscale {md rg x y : Addr} {q n : Int} {r c : Nat} {f : Nat → Nat → List Int} {bs : List Int} (hM : ModAt w news md rg) (hR : RingAt w news rg q n) (hx : MatAt w news md rg x r c f) (hy : PolyAt w news rg y bs) (hr : 0 < r) (hr' : r < 2 ^ 11) (hc' : c < 2 ^ 20) (hq : 0 < q) (hn : n = 2 ∨ n = 3) (hlf : ∀ i j, i < r → j < c → ((f i j).length : Int) = n) (hlb : (bs.length : Int) = n) (hsf : ∀ i j, i < r → j < c → Small (f i j)) (hsb : Small bs) :
    GoesG w loose mean mg mb news 186 ⟨[.ref x, .ref y], []⟩ 40 400 (fun new v => ∃ z, v = .ref z ∧ MatAt w (new ++ news) md rg z r c (fun i j => pmul q bs (f i j))) := by
  intro dp un gd env outer A₀ base h₀ L m s R o1 o2 o3 tb1 tb2 tb3 B F X N n1 n2 n3 bare T hf hk hdp hun hret
  have hxc279 : HaltCall 279 := .mk
  have hxc407 : HaltCall 407 := .mk
  have hxc230 : HaltCall 230 := .mk
  have hx' := hx
  have hy' := hy
  have hyI := hy.is
  obtain ⟨dr, r1, r2, r3, r4, hr1, hr2⟩ := id hR
  obtain ⟨dm, tm, hm1, hm2⟩ := id hM
  obtain ⟨dx, lx, t1, t2, t3, hx1, hx2, ls, el, hx3, hx4, hx5⟩ := hx
  obtain ⟨dy, ly, ey, u1, u2, vy, hy1, hy2, hy3, hy4⟩ := hy
  k_dflt ktr_enter
  k_steps <;> repeat' (first | (refine Halt.go ?_; (with_reducible show wpAny _ _ (call (Value.ref 279) _) _ _ _); k_dflt (refine useNil (by k_asm) (by k_asm) (by k_asm) (by k_asm) (by k_asm) (by kpt_hd) (by kpt_hd) (isElem (by exact RingAt.mono (by with_reducible assumption) (by lcg_sub)) (by exact PolyIs.mono (by with_reducible assumption) (by lcg_sub))) (by k_room) (by k_units) ?_; k_whole); k_dflt (intro h9 tk9 F9 N9; (try dsimp only [List.nil_append, List.cons_append] at N9); (try k_sweep)); k_steps) | (refine Halt.go ?_; (with_reducible show wpAny _ _ (call (Value.ref 407) _) _ _ _); k_dflt (refine useRef (by k_asm) (by k_asm) (by k_asm) (by k_asm) (by k_asm) (by kpt_hd) (by kpt_hd) (mulp (by exact RingAt.mono (by with_reducible assumption) (by lcg_sub)) (by exact PolyAt.mono (by with_reducible assumption) (by lcg_sub)) (by exact PolyAt.mono (by with_reducible assumption) (by lcg_sub)) (by with_reducible assumption) (by with_reducible assumption) (by with_reducible assumption) (by with_reducible assumption) (by with_reducible assumption) (by with_reducible assumption)) (by k_room) (by k_units) ?_; k_whole); k_dflt (intro z9 new9 h9 tk9 F9 N9 A9 p9; (try dsimp only [List.nil_append, List.cons_append] at N9); (try k_sweep)); k_steps))
  refine Halt.go ?_
  k_dflt (refine comp_assign (by k_asm) (by rfl) (by with_unfolding_all rfl) (by with_unfolding_all rfl) (by rfl) (by decide) (by rfl) (by rfl) ?_)
  k_steps <;> repeat' (first | (refine Halt.go ?_; (with_reducible show wpAny _ _ (call (Value.ref 279) _) _ _ _); k_dflt (refine useNil (by k_asm) (by k_asm) (by k_asm) (by k_asm) (by k_asm) (by kpt_hd) (by kpt_hd) (isElem (by exact RingAt.mono (by with_reducible assumption) (by lcg_sub)) (by exact PolyIs.mono (by with_reducible assumption) (by lcg_sub))) (by k_room) (by k_units) ?_; k_whole); k_dflt (intro h9 tk9 F9 N9; (try dsimp only [List.nil_append, List.cons_append] at N9); (try k_sweep)); k_steps) | (refine Halt.go ?_; (with_reducible show wpAny _ _ (call (Value.ref 407) _) _ _ _); k_dflt (refine useRef (by k_asm) (by k_asm) (by k_asm) (by k_asm) (by k_asm) (by kpt_hd) (by kpt_hd) (mulp (by exact RingAt.mono (by with_reducible assumption) (by lcg_sub)) (by exact PolyAt.mono (by with_reducible assumption) (by lcg_sub)) (by exact PolyAt.mono (by with_reducible assumption) (by lcg_sub)) (by with_reducible assumption) (by with_reducible assumption) (by with_reducible assumption) (by with_reducible assumption) (by with_reducible assumption) (by with_reducible assumption)) (by k_room) (by k_units) ?_; k_whole); k_dflt (intro z9 new9 h9 tk9 F9 N9 A9 p9; (try dsimp only [List.nil_append, List.cons_append] at N9); (try k_sweep)); k_steps))
  rename News _ _ _ _ => N2
  rename Fr _ _ _ _ => F2
  refine src_listR (RowEl w rg c fun i j => pmul q bs (f i j)) (by rfl) F2 N2 (by k_mem) hx4 (by omega) (by rfl) (by rfl) (fun _ => by rfl) ?turn ?fin
  (case turn =>
    intro C i g1 yr oC m₂ led1 h tk E' hi' hyr hC hm2' qC hs1 F₁ N₁
    obtain ⟨xs, e', hx6, hx7, hx8⟩ := hx5 i yr hyr
    clear N2 F2
    k_steps <;> repeat' (first | (refine Halt.go ?_; (with_reducible show wpAny _ _ (call (Value.ref 279) _) _ _ _); k_dflt (refine useNil (by k_asm) (by k_asm) (by k_asm) (by k_asm) (by k_asm) (by kpt_hd) (by kpt_hd) (isElem (by exact RingAt.mono (by with_reducible assumption) (by lcg_sub)) (by exact PolyIs.mono (by with_reducible assumption) (by lcg_sub))) (by k_room) (by k_units) ?_; k_whole); k_dflt (intro h9 tk9 F9 N9; (try dsimp only [List.nil_append, List.cons_append] at N9); (try k_sweep)); k_steps) | (refine Halt.go ?_; (with_reducible show wpAny _ _ (call (Value.ref 407) _) _ _ _); k_dflt (refine useRef (by k_asm) (by k_asm) (by k_asm) (by k_asm) (by k_asm) (by kpt_hd) (by kpt_hd) (mulp (by exact RingAt.mono (by with_reducible assumption) (by lcg_sub)) (by exact PolyAt.mono (by with_reducible assumption) (by lcg_sub)) (by exact PolyAt.mono (by with_reducible assumption) (by lcg_sub)) (by with_reducible assumption) (by with_reducible assumption) (by with_reducible assumption) (by with_reducible assumption) (by with_reducible assumption) (by with_reducible assumption)) (by k_room) (by k_units) ?_; k_whole); k_dflt (intro z9 new9 h9 tk9 F9 N9 A9 p9; (try dsimp only [List.nil_append, List.cons_append] at N9); (try k_sweep)); k_steps))
    refine Halt.go ?_
    k_dflt (refine comp_expr (by k_asm) (by with_unfolding_all rfl) (by rfl) (by decide) ?_)
    k_steps <;> repeat' (first | (refine Halt.go ?_; (with_reducible show wpAny _ _ (call (Value.ref 279) _) _ _ _); k_dflt (refine useNil (by k_asm) (by k_asm) (by k_asm) (by k_asm) (by k_asm) (by kpt_hd) (by kpt_hd) (isElem (by exact RingAt.mono (by with_reducible assumption) (by lcg_sub)) (by exact PolyIs.mono (by with_reducible assumption) (by lcg_sub))) (by k_room) (by k_units) ?_; k_whole); k_dflt (intro h9 tk9 F9 N9; (try dsimp only [List.nil_append, List.cons_append] at N9); (try k_sweep)); k_steps) | (refine Halt.go ?_; (with_reducible show wpAny _ _ (call (Value.ref 407) _) _ _ _); k_dflt (refine useRef (by k_asm) (by k_asm) (by k_asm) (by k_asm) (by k_asm) (by kpt_hd) (by kpt_hd) (mulp (by exact RingAt.mono (by with_reducible assumption) (by lcg_sub)) (by exact PolyAt.mono (by with_reducible assumption) (by lcg_sub)) (by exact PolyAt.mono (by with_reducible assumption) (by lcg_sub)) (by with_reducible assumption) (by with_reducible assumption) (by with_reducible assumption) (by with_reducible assumption) (by with_reducible assumption) (by with_reducible assumption)) (by k_room) (by k_units) ?_; k_whole); k_dflt (intro z9 new9 h9 tk9 F9 N9 A9 p9; (try dsimp only [List.nil_append, List.cons_append] at N9); (try k_sweep)); k_steps))
    rename News _ _ _ _ => N3
    rename Fr _ _ _ _ => F3
    refine src_listR (PolyEl w rg fun j => pmul q bs (f i j)) (by rfl) F3 N3 (by k_mem) hx7 (by omega) (by rfl) (by rfl) (fun _ => by rfl) ?turn2 ?fin2
    (case turn2 =>
      intro C2 j g2 z oC2 m2 led2 h2 tk2 E2 hj' hz hC2 hm2 qC2 hs2 F₂ N₂
      have pz := hx8 j z hz
      obtain ⟨dz, lz, ez, z1, z2, vz, hz1, hz2, hz3, hz4⟩ := id pz
      have la := hlf i j hi' hj'
      have sa := hsf i j hi' hj'
      clear N3 F3
      k_steps <;> repeat' (first | (refine Halt.go ?_; (with_reducible show wpAny _ _ (call (Value.ref 279) _) _ _ _); k_dflt (refine useNil (by k_asm) (by k_asm) (by k_asm) (by k_asm) (by k_asm) (by kpt_hd) (by kpt_hd) (isElem (by exact RingAt.mono (by with_reducible assumption) (by lcg_sub)) (by exact PolyIs.mono (by with_reducible assumption) (by lcg_sub))) (by k_room) (by k_units) ?_; k_whole); k_dflt (intro h9 tk9 F9 N9; (try dsimp only [List.nil_append, List.cons_append] at N9); (try k_sweep)); k_steps) | (refine Halt.go ?_; (with_reducible show wpAny _ _ (call (Value.ref 407) _) _ _ _); k_dflt (refine useRef (by k_asm) (by k_asm) (by k_asm) (by k_asm) (by k_asm) (by kpt_hd) (by kpt_hd) (mulp (by exact RingAt.mono (by with_reducible assumption) (by lcg_sub)) (by exact PolyAt.mono (by with_reducible assumption) (by lcg_sub)) (by exact PolyAt.mono (by with_reducible assumption) (by lcg_sub)) (by with_reducible assumption) (by with_reducible assumption) (by with_reducible assumption) (by with_reducible assumption) (by with_reducible assumption) (by with_reducible assumption)) (by k_room) (by k_units) ?_; k_whole); k_dflt (intro z9 new9 h9 tk9 F9 N9 A9 p9; (try dsimp only [List.nil_append, List.cons_append] at N9); (try k_sweep)); k_steps))
      rename News _ _ _ _ => N5
      rename Fr _ _ _ _ => F5
      rename PolyAt _ _ _ _ _ => p5
      rename (∀ (q : Addr × Obj), q ∈ _ → ∀ (p : Addr × Obj), p ∈ _ → p.1 ≠ q.1) => A5
      exact turnEnd_new F5 N5 A5 (by lcg_sub) ⟨_, rfl, p5⟩)
    intro g2
    unfold FinG
    intro D2 h2 tk2 ys2 new2 F₂ N₂ oD2 ap2 hd2
    k_steps <;> repeat' (first | (refine Halt.go ?_; (with_reducible show wpAny _ _ (call (Value.ref 279) _) _ _ _); k_dflt (refine useNil (by k_asm) (by k_asm) (by k_asm) (by k_asm) (by k_asm) (by kpt_hd) (by kpt_hd) (isElem (by exact RingAt.mono (by with_reducible assumption) (by lcg_sub)) (by exact PolyIs.mono (by with_reducible assumption) (by lcg_sub))) (by k_room) (by k_units) ?_; k_whole); k_dflt (intro h9 tk9 F9 N9; (try dsimp only [List.nil_append, List.cons_append] at N9); (try k_sweep)); k_steps) | (refine Halt.go ?_; (with_reducible show wpAny _ _ (call (Value.ref 407) _) _ _ _); k_dflt (refine useRef (by k_asm) (by k_asm) (by k_asm) (by k_asm) (by k_asm) (by kpt_hd) (by kpt_hd) (mulp (by exact RingAt.mono (by with_reducible assumption) (by lcg_sub)) (by exact PolyAt.mono (by with_reducible assumption) (by lcg_sub)) (by exact PolyAt.mono (by with_reducible assumption) (by lcg_sub)) (by with_reducible assumption) (by with_reducible assumption) (by with_reducible assumption) (by with_reducible assumption) (by with_reducible assumption) (by with_reducible assumption)) (by k_room) (by k_units) ?_; k_whole); k_dflt (intro z9 new9 h9 tk9 F9 N9 A9 p9; (try dsimp only [List.nil_append, List.cons_append] at N9); (try k_sweep)); k_steps))
    exact turnEnd_comp F₂ N₂ oD2 ap2 (fun _ h => h) hd2)
  intro g1
  unfold FinGA
  intro D1 h1 tk1 ys1 new1 F₁ N₁ oD1 ap1 hd1
  clear N2 F2
  k_steps <;> repeat' (first | (refine Halt.go ?_; (with_reducible show wpAny _ _ (call (Value.ref 279) _) _ _ _); k_dflt (refine useNil (by k_asm) (by k_asm) (by k_asm) (by k_asm) (by k_asm) (by kpt_hd) (by kpt_hd) (isElem (by exact RingAt.mono (by with_reducible assumption) (by lcg_sub)) (by exact PolyIs.mono (by with_reducible assumption) (by lcg_sub))) (by k_room) (by k_units) ?_; k_whole); k_dflt (intro h9 tk9 F9 N9; (try dsimp only [List.nil_append, List.cons_append] at N9); (try k_sweep)); k_steps) | (refine Halt.go ?_; (with_reducible show wpAny _ _ (call (Value.ref 407) _) _ _ _); k_dflt (refine useRef (by k_asm) (by k_asm) (by k_asm) (by k_asm) (by k_asm) (by kpt_hd) (by kpt_hd) (mulp (by exact RingAt.mono (by with_reducible assumption) (by lcg_sub)) (by exact PolyAt.mono (by with_reducible assumption) (by lcg_sub)) (by exact PolyAt.mono (by with_reducible assumption) (by lcg_sub)) (by with_reducible assumption) (by with_reducible assumption) (by with_reducible assumption) (by with_reducible assumption) (by with_reducible assumption) (by with_reducible assumption)) (by k_room) (by k_units) ?_; k_whole); k_dflt (intro z9 new9 h9 tk9 F9 N9 A9 p9; (try dsimp only [List.nil_append, List.cons_append] at N9); (try k_sweep)); k_steps))
  refine Halt.go ?_
  k_dflt (refine' useGoesZ (news := (D1, LCg.lst ys1) :: (new1 ++ news)) ?k1 ?k2 ?k3 ?k4 ?k40 tb1 tb2 tb3 (newsOff oD1 ap1 (by k_mem) n1) (newsOff oD1 ap1 (by k_mem) n2) (newsOff oD1 ap1 (by k_mem) n3) bare ?k5 ?kf ?kK (mcall (callArgsKw rfl) (hM.mono (subTail (subR (fun _ h => h)))) (hR.mono (subTail (subR (fun _ h => h)))) ((dataOf hd1).mono (subCons (List.Mem.head _) (subTail (subL (fun _ h => h))))) hr hr' hc') ?kd ?ku ?_; (case k2 => k_asm); (case k1 => k_asm); (case k3 => k_asm); (case k4 => k_asm); (case k40 => lcg_sub); (case k5 => k_asm); (case kf => first | exact rfl | assumption); (case kK => first | exact rfl | assumption); (case kd => k_room); (case ku => k_units))
  intro z new9 h9 tk9 gs9 p1 p2 p3 tp1 tp2 tp3 F9 N9 A9 bare9 hz
  k_steps <;> repeat' (first | (refine Halt.go ?_; (with_reducible show wpAny _ _ (call (Value.ref 279) _) _ _ _); k_dflt (refine useNil (by k_asm) (by k_asm) (by k_asm) (by k_asm) (by k_asm) (by kpt_hd) (by kpt_hd) (isElem (by exact RingAt.mono (by with_reducible assumption) (by lcg_sub)) (by exact PolyIs.mono (by with_reducible assumption) (by lcg_sub))) (by k_room) (by k_units) ?_; k_whole); k_dflt (intro h9 tk9 F9 N9; (try dsimp only [List.nil_append, List.cons_append] at N9); (try k_sweep)); k_steps) | (refine Halt.go ?_; (with_reducible show wpAny _ _ (call (Value.ref 407) _) _ _ _); k_dflt (refine useRef (by k_asm) (by k_asm) (by k_asm) (by k_asm) (by k_asm) (by kpt_hd) (by kpt_hd) (mulp (by exact RingAt.mono (by with_reducible assumption) (by lcg_sub)) (by exact PolyAt.mono (by with_reducible assumption) (by lcg_sub)) (by exact PolyAt.mono (by with_reducible assumption) (by lcg_sub)) (by with_reducible assumption) (by with_reducible assumption) (by with_reducible assumption) (by with_reducible assumption) (by with_reducible assumption) (by with_reducible assumption)) (by k_room) (by k_units) ?_; k_whole); k_dflt (intro z9 new9 h9 tk9 F9 N9 A9 p9; (try dsimp only [List.nil_append, List.cons_append] at N9); (try k_sweep)); k_steps))
  exact retMat hret (by assumption) (by assumption) A9 (midOff oD1 ap1 (tabsIn (by k_mem) (by k_mem) (by k_mem) (by lcg_sub)) (tabsIn (by k_mem) (by k_mem) (by k_mem) (by lcg_sub))) tp1 tp2 tp3 bare9 hz
end
end
section
local macro_rules | `(tactic| walk_at "eval Name") => `(tactic| (k_here; (with_reducible show wpAny _ _ (eval (Expr.Name _ _) (gEnv _ _ _ _ _)) _ _ _); k_dflt (first | (refine gname_free (by k_asm) (by rfl) (by k_mem) (by k_asm) ?_ (by rfl) (by rfl); k_whole) | (refine gname_local (by k_asm) (by assumption) ?_ (by rfl) (by rfl); k_whole))))
section
example : True := by
  w_top off
  trivial
section
variable {w : World} {loose : List Str} {mean : ExcName → Option Value} {mg mb : Str → Option Value} {news : Led}
local macro_rules | `(tactic| walk_at "eval ListComp") => `(tactic| (k_here; refine halt ?_))
local macro_rules | `(tactic| walk_at "eval GeneratorExp") => `(tactic| (k_here; refine halt ?_))
local macro_rules | `(tactic| walk_at "pyIter ref") => `(tactic| (k_here; refine halt ?_))
local macro_rules | `(tactic| walk_at "call builtin:sum") => `(tactic| (k_here; refine halt ?_))
local macro_rules | `(tactic| walk_at "compareOp NotEq ref ref") => `(tactic| (k_here; k_dflt (refine module_ne_same (by k_asm) (by k_asm) (by k_asm) (by k_mem) (by have hcL9 := cLine_is; k_units) ?_; k_whole)))
local macro_rules | `(tactic| walk_at "exec Raise some none") => `(tactic| (k_here; k_dflt (rename ((_ : Int) ≠ _) => hb9; exact absurd rfl hb9)))
local macro_rules | `(tactic| walk_at "call ref") => `(tactic| (k_here; kco_any "__call__"; kco_here; k_dflt (refine wpAny_call ?_; refine kco_code (by k_in) (by k_inst) rfl (by k_is) (by k_is) (by k_is) ?_; (try dsimp only); refine halt ?_)))
set_option maxHeartbeats 2000000 in
theorem mmul {md rg x y : Addr} {q n : Int} {r c l : Nat} {f g : Nat → Nat → List Int} (hM : ModAt w news md rg) (hR : RingAt w news rg q n) (hx : MatAt w news md rg x r c f) (hy : MatAt w news md rg y c l g) (hr : 0 < r) (hr' : r < 2 ^ 11) (hc0 : 0 < c) (hc' : c < 2 ^ 11) (hl' : l < 2 ^ 20) (hq : 0 < q) (hn : n = 2 ∨ n = 3)
    (hlf : ∀ i j, i < r → j < c → ((f i j).length : Int) = n) (hlg : ∀ i j, i < c → j < l → ((g i j).length : Int) = n) (hsf : ∀ i j, i < r → j < c → Small (f i j)) (hsg : ∀ i j, i < c → j < l → Small (g i j)) :
    GoesG w loose mean mg mb news 181 ⟨[.ref x, .ref y], []⟩ 60 600 (fun new v => ∃ z, v = .ref z ∧ MatAt w (new ++ news) md rg z r l (fun i j => msum q (fun k => pmul q (f i k) (g k j)) c)) := by
  intro dp un gd env outer A₀ base h₀ L m s R o1 o2 o3 tb1 tb2 tb3 B F X N n1 n2 n3 bare T hf hk hdp hun hret
  have hxc104 : HaltCall 104 := .mk
  have hxc133 : HaltCall 133 := .mk
  have hxc407 : HaltCall 407 := .mk
  have hx' := hx
  have hy' := hy
  obtain ⟨dm, tm, hm1, hm2⟩ := id hM
  obtain ⟨dx, lx, t1, t2, t3, hx1, hx2, hx3⟩ := hx
  obtain ⟨dy, ly, u1, u2, u3, hy1, hy2, hy3⟩ := hy
  (refine' code_defC ?k1 ?k2 ?k3 ?k4 ?k5 ?kA ?kF ?kK ?k6 ?k7 ?k8 ?k9 ?kB ?kD ?_ ?c2 ?c3 ?c4; (case kA => exact rfl); (case kF => first | exact rfl | assumption); (case kK => first | exact rfl | assumption); (case k1 => k_asm); (case k2 => k_asm); (case k3 => k_asm); (case k4 => k_asm); (case k5 => k_asm); (case k6 => k_is); (case k7 => k_is); (case k8 => k_room); (case k9 => exact BindsTo.of_eq rfl); (case kB => exact rfl); (case kD => decide +kernel); (case c2 => exact rfl); (case c3 => exact rfl); (case c4 => exact rfl); k_whole; intro g' L' h' tk' cells' FG' F' N' Y' B' X' T' l1; (try k_lt l1); (have hY := CellsAre.four Y'; obtain ⟨oc4, oc3, oc2, oc1, hE', d4, d3, d2, d1⟩ := hY; subst hE'; clear Y'); (try dsimp only [List.cons_append, List.nil_append] at N'); (try dsimp only); (try k_fold))
  k_steps <;> repeat' (first | (refine Halt.go ?_; (with_reducible show wpAny _ _ (call (Value.ref 104) _) _ _ _); k_dflt (refine useTup (by k_asm) (by k_asm) (by k_asm) (by k_asm) (by k_asm) (by kpt_hd) (by kpt_hd) (mdim (by exact MatAt.mono (by with_reducible assumption) (by lcg_sub)) (by with_reducible assumption) (by omega) (by omega)) (by k_room) (by k_units) ?_; k_whole); k_dflt (intro T9 t9 u9 h9 tk9 F9 N9 A9; (have b9 := apHead A9); clear A9; (try dsimp only [List.nil_append, List.cons_append] at N9); (try k_sweep)); k_steps) | (refine Halt.go ?_; (with_reducible show wpAny _ _ (call (Value.ref 133) _) _ _ _); k_dflt (refine useNilP (by k_asm) (by k_asm) (by k_asm) (by k_asm) (by k_asm) (by kpt_hd) (by kpt_hd) (mget (by with_reducible assumption) (by lcg_sub) (by k_mem) (by with_reducible assumption) (by with_reducible assumption) (by omega) (by omega)) (by k_room) (by k_units) ?_; k_whole); k_dflt (intro y9 h9 tk9 F9 N9 p9; (have q9 := p9); (obtain ⟨dy9, ly9, ey9, t9, u9, v9, a9, b9, c9, d9⟩ := q9); (try dsimp only [List.nil_append, List.cons_append] at N9); (try k_sweep)); k_steps) | (refine Halt.go ?_; (with_reducible show wpAny _ _ (call (Value.ref 407) _) _ _ _); k_dflt (refine useRef (by k_asm) (by k_asm) (by k_asm) (by k_asm) (by k_asm) (by kpt_hd) (by kpt_hd) (mulp (by exact RingAt.mono (by with_reducible assumption) (by lcg_sub)) (by exact PolyAt.mono (by with_reducible assumption) (by lcg_sub)) (by exact PolyAt.mono (by with_reducible assumption) (by lcg_sub)) (by with_reducible assumption) (by with_reducible assumption) (by with_reducible assumption) (by with_reducible assumption) (by with_reducible assumption) (by with_reducible assumption)) (by k_room) (by k_units) ?_; k_whole); k_dflt (intro z9 new9 h9 tk9 F9 N9 A9 p9; (try dsimp only [List.nil_append, List.cons_append] at N9); (try k_sweep)); k_steps))
  refine Halt.go ?_
  rename News _ _ _ _ => N1
  rename Fr _ _ _ _ => F1
  have hx98 : ∃ oA oB ta tb, oA.data = .cell (some (.int (l : Int) ta)) ∧ oB.data = .cell (some (.int (c : Int) tb)) ∧ News g' L' _ ((178, o2) :: ((L' + 1 + 1 + 1 + 1, oA) :: (L' + 1 + 1 + 1, oB) :: (L' + 1 + 1, oc2) :: (L' + 1, oc1) :: (142, o1) :: (225, o3) :: news)) := ⟨_, _, _, _, by assumption, by assumption, newsSub N1 (by lcg_sub)⟩
  obtain ⟨oA, oB, ta, tb, dA, dB, N2⟩ := hx98
  clear N1
  k_dflt (refine comp_exprM (by k_asm) (by with_unfolding_all rfl) (by rfl) (by decide) ?_)
  k_steps <;> repeat' (first | (refine Halt.go ?_; (with_reducible show wpAny _ _ (call (Value.ref 104) _) _ _ _); k_dflt (refine useTup (by k_asm) (by k_asm) (by k_asm) (by k_asm) (by k_asm) (by kpt_hd) (by kpt_hd) (mdim (by exact MatAt.mono (by with_reducible assumption) (by lcg_sub)) (by with_reducible assumption) (by omega) (by omega)) (by k_room) (by k_units) ?_; k_whole); k_dflt (intro T9 t9 u9 h9 tk9 F9 N9 A9; (have b9 := apHead A9); clear A9; (try dsimp only [List.nil_append, List.cons_append] at N9); (try k_sweep)); k_steps) | (refine Halt.go ?_; (with_reducible show wpAny _ _ (call (Value.ref 133) _) _ _ _); k_dflt (refine useNilP (by k_asm) (by k_asm) (by k_asm) (by k_asm) (by k_asm) (by kpt_hd) (by kpt_hd) (mget (by with_reducible assumption) (by lcg_sub) (by k_mem) (by with_reducible assumption) (by with_reducible assumption) (by omega) (by omega)) (by k_room) (by k_units) ?_; k_whole); k_dflt (intro y9 h9 tk9 F9 N9 p9; (have q9 := p9); (obtain ⟨dy9, ly9, ey9, t9, u9, v9, a9, b9, c9, d9⟩ := q9); (try dsimp only [List.nil_append, List.cons_append] at N9); (try k_sweep)); k_steps) | (refine Halt.go ?_; (with_reducible show wpAny _ _ (call (Value.ref 407) _) _ _ _); k_dflt (refine useRef (by k_asm) (by k_asm) (by k_asm) (by k_asm) (by k_asm) (by kpt_hd) (by kpt_hd) (mulp (by exact RingAt.mono (by with_reducible assumption) (by lcg_sub)) (by exact PolyAt.mono (by with_reducible assumption) (by lcg_sub)) (by exact PolyAt.mono (by with_reducible assumption) (by lcg_sub)) (by with_reducible assumption) (by with_reducible assumption) (by with_reducible assumption) (by with_reducible assumption) (by with_reducible assumption) (by with_reducible assumption)) (by k_room) (by k_units) ?_; k_whole); k_dflt (intro z9 new9 h9 tk9 F9 N9 A9 p9; (try dsimp only [List.nil_append, List.cons_append] at N9); (try k_sweep)); k_steps))
  rename News _ _ _ _ => N3
  rename Fr _ _ _ _ => F3
  refine srcY_tabC (RowEl w rg l fun i j => msum q (fun k => pmul q (f i k) (g k j)) c) (by rfl) F3 N3 (by assumption) (by omega) (by rfl) (fun _ => by rfl) (fun _ => by rfl) (fun _ => by rfl) tb2 ?hne bare ?turn ?fin
  (case hne => k_all)
  (case turn =>
    intro g1 C i ti oC oi led1 p2 h tk gs E' hi di qC qi hs1 off1 tp2 bare₁ F₁ N₁
    clear N3 F3
    k_steps <;> repeat' (first | (refine Halt.go ?_; (with_reducible show wpAny _ _ (call (Value.ref 104) _) _ _ _); k_dflt (refine useTup (by k_asm) (by k_asm) (by k_asm) (by k_asm) (by k_asm) (by kpt_hd) (by kpt_hd) (mdim (by exact MatAt.mono (by with_reducible assumption) (by lcg_sub)) (by with_reducible assumption) (by omega) (by omega)) (by k_room) (by k_units) ?_; k_whole); k_dflt (intro T9 t9 u9 h9 tk9 F9 N9 A9; (have b9 := apHead A9); clear A9; (try dsimp only [List.nil_append, List.cons_append] at N9); (try k_sweep)); k_steps) | (refine Halt.go ?_; (with_reducible show wpAny _ _ (call (Value.ref 133) _) _ _ _); k_dflt (refine useNilP (by k_asm) (by k_asm) (by k_asm) (by k_asm) (by k_asm) (by kpt_hd) (by kpt_hd) (mget (by with_reducible assumption) (by lcg_sub) (by k_mem) (by with_reducible assumption) (by with_reducible assumption) (by omega) (by omega)) (by k_room) (by k_units) ?_; k_whole); k_dflt (intro y9 h9 tk9 F9 N9 p9; (have q9 := p9); (obtain ⟨dy9, ly9, ey9, t9, u9, v9, a9, b9, c9, d9⟩ := q9); (try dsimp only [List.nil_append, List.cons_append] at N9); (try k_sweep)); k_steps) | (refine Halt.go ?_; (with_reducible show wpAny _ _ (call (Value.ref 407) _) _ _ _); k_dflt (refine useRef (by k_asm) (by k_asm) (by k_asm) (by k_asm) (by k_asm) (by kpt_hd) (by kpt_hd) (mulp (by exact RingAt.mono (by with_reducible assumption) (by lcg_sub)) (by exact PolyAt.mono (by with_reducible assumption) (by lcg_sub)) (by exact PolyAt.mono (by with_reducible assumption) (by lcg_sub)) (by with_reducible assumption) (by with_reducible assumption) (by with_reducible assumption) (by with_reducible assumption) (by with_reducible assumption) (by with_reducible assumption)) (by k_room) (by k_units) ?_; k_whole); k_dflt (intro z9 new9 h9 tk9 F9 N9 A9 p9; (try dsimp only [List.nil_append, List.cons_append] at N9); (try k_sweep)); k_steps))
    refine Halt.go ?_
    k_dflt (refine comp_exprM (by k_asm) (by with_unfolding_all rfl) (by rfl) (by decide) ?_)
    k_steps <;> repeat' (first | (refine Halt.go ?_; (with_reducible show wpAny _ _ (call (Value.ref 104) _) _ _ _); k_dflt (refine useTup (by k_asm) (by k_asm) (by k_asm) (by k_asm) (by k_asm) (by kpt_hd) (by kpt_hd) (mdim (by exact MatAt.mono (by with_reducible assumption) (by lcg_sub)) (by with_reducible assumption) (by omega) (by omega)) (by k_room) (by k_units) ?_; k_whole); k_dflt (intro T9 t9 u9 h9 tk9 F9 N9 A9; (have b9 := apHead A9); clear A9; (try dsimp only [List.nil_append, List.cons_append] at N9); (try k_sweep)); k_steps) | (refine Halt.go ?_; (with_reducible show wpAny _ _ (call (Value.ref 133) _) _ _ _); k_dflt (refine useNilP (by k_asm) (by k_asm) (by k_asm) (by k_asm) (by k_asm) (by kpt_hd) (by kpt_hd) (mget (by with_reducible assumption) (by lcg_sub) (by k_mem) (by with_reducible assumption) (by with_reducible assumption) (by omega) (by omega)) (by k_room) (by k_units) ?_; k_whole); k_dflt (intro y9 h9 tk9 F9 N9 p9; (have q9 := p9); (obtain ⟨dy9, ly9, ey9, t9, u9, v9, a9, b9, c9, d9⟩ := q9); (try dsimp only [List.nil_append, List.cons_append] at N9); (try k_sweep)); k_steps) | (refine Halt.go ?_; (with_reducible show wpAny _ _ (call (Value.ref 407) _) _ _ _); k_dflt (refine useRef (by k_asm) (by k_asm) (by k_asm) (by k_asm) (by k_asm) (by kpt_hd) (by kpt_hd) (mulp (by exact RingAt.mono (by with_reducible assumption) (by lcg_sub)) (by exact PolyAt.mono (by with_reducible assumption) (by lcg_sub)) (by exact PolyAt.mono (by with_reducible assumption) (by lcg_sub)) (by with_reducible assumption) (by with_reducible assumption) (by with_reducible assumption) (by with_reducible assumption) (by with_reducible assumption) (by with_reducible assumption)) (by k_room) (by k_units) ?_; k_whole); k_dflt (intro z9 new9 h9 tk9 F9 N9 A9 p9; (try dsimp only [List.nil_append, List.cons_append] at N9); (try k_sweep)); k_steps))
    rename News _ _ _ _ => N4
    rename Fr _ _ _ _ => F4
    refine srcY_tabC (PolyEl w rg fun j => msum q (fun k => pmul q (f i k) (g k j)) c) (by rfl) F4 N4 (by assumption) (by omega) (by rfl) (fun _ => by rfl) (fun _ => by rfl) (fun _ => by rfl) tp2 off1 bare₁ ?turn2 ?fin2
    (case turn2 =>
      intro g2 C2 j tj oC2 oj led2 p2' h2 tk2 gs2 E2 hj dj qC2 hcj hs2 off2' tp2' bare₂ F₂ N₂
      have hc1 : (L' + 1, oc1) ∈ led2 := hs2 _ (hs1 _ (by k_mem))
      have hc2 : (L' + 1 + 1, oc2) ∈ led2 := hs2 _ (hs1 _ (by k_mem))
      have hcn : (L' + 1 + 1 + 1, oB) ∈ led2 := hs2 _ (hs1 _ (by k_mem))
      have hci := hs2 _ qi
      have hsub2 : ∀ p ∈ news, p ∈ led2 := subVia hs2 (subVia hs1 (by lcg_sub))
      clear N4 F4
      k_steps <;> repeat' (first | (refine Halt.go ?_; (with_reducible show wpAny _ _ (call (Value.ref 104) _) _ _ _); k_dflt (refine useTup (by k_asm) (by k_asm) (by k_asm) (by k_asm) (by k_asm) (by kpt_hd) (by kpt_hd) (mdim (by exact MatAt.mono (by with_reducible assumption) (by lcg_sub)) (by with_reducible assumption) (by omega) (by omega)) (by k_room) (by k_units) ?_; k_whole); k_dflt (intro T9 t9 u9 h9 tk9 F9 N9 A9; (have b9 := apHead A9); clear A9; (try dsimp only [List.nil_append, List.cons_append] at N9); (try k_sweep)); k_steps) | (refine Halt.go ?_; (with_reducible show wpAny _ _ (call (Value.ref 133) _) _ _ _); k_dflt (refine useNilP (by k_asm) (by k_asm) (by k_asm) (by k_asm) (by k_asm) (by kpt_hd) (by kpt_hd) (mget (by with_reducible assumption) (by lcg_sub) (by k_mem) (by with_reducible assumption) (by with_reducible assumption) (by omega) (by omega)) (by k_room) (by k_units) ?_; k_whole); k_dflt (intro y9 h9 tk9 F9 N9 p9; (have q9 := p9); (obtain ⟨dy9, ly9, ey9, t9, u9, v9, a9, b9, c9, d9⟩ := q9); (try dsimp only [List.nil_append, List.cons_append] at N9); (try k_sweep)); k_steps) | (refine Halt.go ?_; (with_reducible show wpAny _ _ (call (Value.ref 407) _) _ _ _); k_dflt (refine useRef (by k_asm) (by k_asm) (by k_asm) (by k_asm) (by k_asm) (by kpt_hd) (by kpt_hd) (mulp (by exact RingAt.mono (by with_reducible assumption) (by lcg_sub)) (by exact PolyAt.mono (by with_reducible assumption) (by lcg_sub)) (by exact PolyAt.mono (by with_reducible assumption) (by lcg_sub)) (by with_reducible assumption) (by with_reducible assumption) (by with_reducible assumption) (by with_reducible assumption) (by with_reducible assumption) (by with_reducible assumption)) (by k_room) (by k_units) ?_; k_whole); k_dflt (intro z9 new9 h9 tk9 F9 N9 A9 p9; (try dsimp only [List.nil_append, List.cons_append] at N9); (try k_sweep)); k_steps))
      refine Halt.go ?_
      k_dflt (refine gen_make (by k_asm) T' (codeHd_of_K (c := 180) (P := 178) X' (by kernel_rfl)) rfl rfl rfl rfl (by with_unfolding_all rfl) (by decide) (by rfl) (by rfl) (by rfl) (by k_room) ?_ (fun _ => rfl))
      k_steps <;> repeat' (first | (refine Halt.go ?_; (with_reducible show wpAny _ _ (call (Value.ref 104) _) _ _ _); k_dflt (refine useTup (by k_asm) (by k_asm) (by k_asm) (by k_asm) (by k_asm) (by kpt_hd) (by kpt_hd) (mdim (by exact MatAt.mono (by with_reducible assumption) (by lcg_sub)) (by with_reducible assumption) (by omega) (by omega)) (by k_room) (by k_units) ?_; k_whole); k_dflt (intro T9 t9 u9 h9 tk9 F9 N9 A9; (have b9 := apHead A9); clear A9; (try dsimp only [List.nil_append, List.cons_append] at N9); (try k_sweep)); k_steps) | (refine Halt.go ?_; (with_reducible show wpAny _ _ (call (Value.ref 133) _) _ _ _); k_dflt (refine useNilP (by k_asm) (by k_asm) (by k_asm) (by k_asm) (by k_asm) (by kpt_hd) (by kpt_hd) (mget (by with_reducible assumption) (by lcg_sub) (by k_mem) (by with_reducible assumption) (by with_reducible assumption) (by omega) (by omega)) (by k_room) (by k_units) ?_; k_whole); k_dflt (intro y9 h9 tk9 F9 N9 p9; (have q9 := p9); (obtain ⟨dy9, ly9, ey9, t9, u9, v9, a9, b9, c9, d9⟩ := q9); (try dsimp only [List.nil_append, List.cons_append] at N9); (try k_sweep)); k_steps) | (refine Halt.go ?_; (with_reducible show wpAny _ _ (call (Value.ref 407) _) _ _ _); k_dflt (refine useRef (by k_asm) (by k_asm) (by k_asm) (by k_asm) (by k_asm) (by kpt_hd) (by kpt_hd) (mulp (by exact RingAt.mono (by with_reducible assumption) (by lcg_sub)) (by exact PolyAt.mono (by with_reducible assumption) (by lcg_sub)) (by exact PolyAt.mono (by with_reducible assumption) (by lcg_sub)) (by with_reducible assumption) (by with_reducible assumption) (by with_reducible assumption) (by with_reducible assumption) (by with_reducible assumption) (by with_reducible assumption)) (by k_room) (by k_units) ?_; k_whole); k_dflt (intro z9 new9 h9 tk9 F9 N9 A9 p9; (try dsimp only [List.nil_append, List.cons_append] at N9); (try k_sweep)); k_steps))
      refine Halt.go ?_
      rename News _ _ _ _ => N5
      rename Fr _ _ _ _ => F5
      refine gsrc_rangeN (led := led2) (fun k v new => ∃ z, v = .ref z ∧ PolyAt w new rg z (pmul q (f i k) (g k j))) rfl F5 N5 tp2' (by assumption) (by omega) off2' bare₂ ?gturn ?gfin
      (case gturn =>
        intro code Cg Ig k hk'
        refine genTurn_in2 (dp := dp + 1) (un := un + 3) (outer := env :: outer) B' X' T' F5.above rfl rfl rfl rfl ?_
        intro gd' qual G s' v mC rest E' B₂ X₂ T₂ hv hmC hsub F₃ N₃
        obtain ⟨tk', rfl⟩ := hv
        have hsubN : ∀ p ∈ news, p ∈ rest := fun p hp => hsub p (hsub2 p hp)
        have hc1' := hsub _ hc1
        have hc2' := hsub _ hc2
        have hci' := hsub _ hci
        have hcj' := hsub _ hcj
        have hR₂ := hR.mono hsubN
        have hx₂ := hx'.mono hsubN
        have hy₂ := hy'.mono hsubN
        have gx1 := hsubN _ hx1
        have gx2 := hsubN _ hx2
        have gy1 := hsubN _ hy1
        have gy2 := hsubN _ hy2
        have la := hlf i k hi hk'
        have lb := hlg k j hk' hj
        have sa := hsf i k hi hk'
        have sb := hsg k j hk' hj
        clear hsub N5 F5
        k_steps <;> repeat' (first | (refine Halt.go ?_; (with_reducible show wpAny _ _ (call (Value.ref 104) _) _ _ _); k_dflt (refine useTup (by k_asm) (by k_asm) (by k_asm) (by k_asm) (by k_asm) (by kpt_hd) (by kpt_hd) (mdim (by exact MatAt.mono (by with_reducible assumption) (by lcg_sub)) (by with_reducible assumption) (by omega) (by omega)) (by k_room) (by k_units) ?_; k_whole); k_dflt (intro T9 t9 u9 h9 tk9 F9 N9 A9; (have b9 := apHead A9); clear A9; (try dsimp only [List.nil_append, List.cons_append] at N9); (try k_sweep)); k_steps) | (refine Halt.go ?_; (with_reducible show wpAny _ _ (call (Value.ref 133) _) _ _ _); k_dflt (refine useNilP (by k_asm) (by k_asm) (by k_asm) (by k_asm) (by k_asm) (by kpt_hd) (by kpt_hd) (mget (by with_reducible assumption) (by lcg_sub) (by k_mem) (by with_reducible assumption) (by with_reducible assumption) (by omega) (by omega)) (by k_room) (by k_units) ?_; k_whole); k_dflt (intro y9 h9 tk9 F9 N9 p9; (have q9 := p9); (obtain ⟨dy9, ly9, ey9, t9, u9, v9, a9, b9, c9, d9⟩ := q9); (try dsimp only [List.nil_append, List.cons_append] at N9); (try k_sweep)); k_steps) | (refine Halt.go ?_; (with_reducible show wpAny _ _ (call (Value.ref 407) _) _ _ _); k_dflt (refine useRef (by k_asm) (by k_asm) (by k_asm) (by k_asm) (by k_asm) (by kpt_hd) (by kpt_hd) (mulp (by exact RingAt.mono (by with_reducible assumption) (by lcg_sub)) (by exact PolyAt.mono (by with_reducible assumption) (by lcg_sub)) (by exact PolyAt.mono (by with_reducible assumption) (by lcg_sub)) (by with_reducible assumption) (by with_reducible assumption) (by with_reducible assumption) (by with_reducible assumption) (by with_reducible assumption) (by with_reducible assumption)) (by k_room) (by k_units) ?_; k_whole); k_dflt (intro z9 new9 h9 tk9 F9 N9 A9 p9; (try dsimp only [List.nil_append, List.cons_append] at N9); (try k_sweep)); k_steps))
        rename News _ _ _ _ => N7
        rename Fr _ _ _ _ => F7
        rename PolyAt _ _ _ _ _ => p7
        rename (∀ (q : Addr × Obj), q ∈ _ → ∀ (p : Addr × Obj), p ∈ _ → p.1 ≠ q.1) => A7
        exact turnEnd_new (F := fun v new => ∃ z, v = .ref z ∧ PolyAt w new rg z (pmul q (f i k) (g k j))) F7 N7 A7 (by lcg_sub) ⟨_, rfl, p7⟩)
      intro ag oag oP' h5 tk5 gs5 tT F6 N6 ap6 bare6 GR
      clear N5 F5
      k_steps <;> repeat' (first | (refine Halt.go ?_; (with_reducible show wpAny _ _ (call (Value.ref 104) _) _ _ _); k_dflt (refine useTup (by k_asm) (by k_asm) (by k_asm) (by k_asm) (by k_asm) (by kpt_hd) (by kpt_hd) (mdim (by exact MatAt.mono (by with_reducible assumption) (by lcg_sub)) (by with_reducible assumption) (by omega) (by omega)) (by k_room) (by k_units) ?_; k_whole); k_dflt (intro T9 t9 u9 h9 tk9 F9 N9 A9; (have b9 := apHead A9); clear A9; (try dsimp only [List.nil_append, List.cons_append] at N9); (try k_sweep)); k_steps) | (refine Halt.go ?_; (with_reducible show wpAny _ _ (call (Value.ref 133) _) _ _ _); k_dflt (refine useNilP (by k_asm) (by k_asm) (by k_asm) (by k_asm) (by k_asm) (by kpt_hd) (by kpt_hd) (mget (by with_reducible assumption) (by lcg_sub) (by k_mem) (by with_reducible assumption) (by with_reducible assumption) (by omega) (by omega)) (by k_room) (by k_units) ?_; k_whole); k_dflt (intro y9 h9 tk9 F9 N9 p9; (have q9 := p9); (obtain ⟨dy9, ly9, ey9, t9, u9, v9, a9, b9, c9, d9⟩ := q9); (try dsimp only [List.nil_append, List.cons_append] at N9); (try k_sweep)); k_steps) | (refine Halt.go ?_; (with_reducible show wpAny _ _ (call (Value.ref 407) _) _ _ _); k_dflt (refine useRef (by k_asm) (by k_asm) (by k_asm) (by k_asm) (by k_asm) (by kpt_hd) (by kpt_hd) (mulp (by exact RingAt.mono (by with_reducible assumption) (by lcg_sub)) (by exact PolyAt.mono (by with_reducible assumption) (by lcg_sub)) (by exact PolyAt.mono (by with_reducible assumption) (by lcg_sub)) (by with_reducible assumption) (by with_reducible assumption) (by with_reducible assumption) (by with_reducible assumption) (by with_reducible assumption) (by with_reducible assumption)) (by k_room) (by k_units) ?_; k_whole); k_dflt (intro z9 new9 h9 tk9 F9 N9 A9 p9; (try dsimp only [List.nil_append, List.cons_append] at N9); (try k_sweep)); k_steps))
      refine Halt.go ?_
      k_dflt (refine gen_sum (Acc := SumAcc w rg q fun k => pmul q (f i k) (g k j)) GR (by k_asm) N6 rfl T'.nolimit (by k_room) bare6 (fun t => ⟨⟨t, rfl⟩, rfl⟩) (fun v l h => h.1) (fun k v l h => let ⟨z, e, _⟩ := h; ⟨z, e⟩) (fun k v l h => let ⟨z, e, _⟩ := h; ⟨z, e⟩) ?step ?fin3)
      (case step =>
        refine sumStep (dp := dp + 1) (un := un + 3 + 1) (hR.mono (fun p hp => List.mem_cons_of_mem _ (List.mem_cons_of_mem _ (hsub2 p hp)))) B' X' T' rfl rfl ?sd ?su (fun k hk => pmul_length (hlf i k hi hk) (hlg k j hk hj) hn) ?sn ?sn0 hq (fun k hk => pmul_mod)
        (case sn => exact (n23lt hn).1)
        (case sn0 => exact (n23lt hn).2)
        all_goals omega)
      intro h7 tk7 gs7 total accL F8 N8 ap8 bare8 hAcc
      obtain ⟨z, rfl, hz⟩ := sumAcc_pos hc0 hAcc
      k_steps <;> repeat' (first | (refine Halt.go ?_; (with_reducible show wpAny _ _ (call (Value.ref 104) _) _ _ _); k_dflt (refine useTup (by k_asm) (by k_asm) (by k_asm) (by k_asm) (by k_asm) (by kpt_hd) (by kpt_hd) (mdim (by exact MatAt.mono (by with_reducible assumption) (by lcg_sub)) (by with_reducible assumption) (by omega) (by omega)) (by k_room) (by k_units) ?_; k_whole); k_dflt (intro T9 t9 u9 h9 tk9 F9 N9 A9; (have b9 := apHead A9); clear A9; (try dsimp only [List.nil_append, List.cons_append] at N9); (try k_sweep)); k_steps) | (refine Halt.go ?_; (with_reducible show wpAny _ _ (call (Value.ref 133) _) _ _ _); k_dflt (refine useNilP (by k_asm) (by k_asm) (by k_asm) (by k_asm) (by k_asm) (by kpt_hd) (by kpt_hd) (mget (by with_reducible assumption) (by lcg_sub) (by k_mem) (by with_reducible assumption) (by with_reducible assumption) (by omega) (by omega)) (by k_room) (by k_units) ?_; k_whole); k_dflt (intro y9 h9 tk9 F9 N9 p9; (have q9 := p9); (obtain ⟨dy9, ly9, ey9, t9, u9, v9, a9, b9, c9, d9⟩ := q9); (try dsimp only [List.nil_append, List.cons_append] at N9); (try k_sweep)); k_steps) | (refine Halt.go ?_; (with_reducible show wpAny _ _ (call (Value.ref 407) _) _ _ _); k_dflt (refine useRef (by k_asm) (by k_asm) (by k_asm) (by k_asm) (by k_asm) (by kpt_hd) (by kpt_hd) (mulp (by exact RingAt.mono (by with_reducible assumption) (by lcg_sub)) (by exact PolyAt.mono (by with_reducible assumption) (by lcg_sub)) (by exact PolyAt.mono (by with_reducible assumption) (by lcg_sub)) (by with_reducible assumption) (by with_reducible assumption) (by with_reducible assumption) (by with_reducible assumption) (by with_reducible assumption) (by with_reducible assumption)) (by k_room) (by k_units) ?_; k_whole); k_dflt (intro z9 new9 h9 tk9 F9 N9 A9 p9; (try dsimp only [List.nil_append, List.cons_append] at N9); (try k_sweep)); k_steps))
      exact ⟨_, _, _, accL, oP', rfl, bare8, tT, F8, newsSub N8 (by lcg_sub), (fun q hq p hp => ap8 q hq p (List.mem_cons_of_mem _ hp)), z, rfl, hz⟩)
    intro g2
    refine finTab bare₁ ?_
    intro D2 h2 tk2 gs2 ys2 new2 q2 bare2 tq2 F₂ N₂ oD2 ap2 hd2
    k_steps <;> repeat' (first | (refine Halt.go ?_; (with_reducible show wpAny _ _ (call (Value.ref 104) _) _ _ _); k_dflt (refine useTup (by k_asm) (by k_asm) (by k_asm) (by k_asm) (by k_asm) (by kpt_hd) (by kpt_hd) (mdim (by exact MatAt.mono (by with_reducible assumption) (by lcg_sub)) (by with_reducible assumption) (by omega) (by omega)) (by k_room) (by k_units) ?_; k_whole); k_dflt (intro T9 t9 u9 h9 tk9 F9 N9 A9; (have b9 := apHead A9); clear A9; (try dsimp only [List.nil_append, List.cons_append] at N9); (try k_sweep)); k_steps) | (refine Halt.go ?_; (with_reducible show wpAny _ _ (call (Value.ref 133) _) _ _ _); k_dflt (refine useNilP (by k_asm) (by k_asm) (by k_asm) (by k_asm) (by k_asm) (by kpt_hd) (by kpt_hd) (mget (by with_reducible assumption) (by lcg_sub) (by k_mem) (by with_reducible assumption) (by with_reducible assumption) (by omega) (by omega)) (by k_room) (by k_units) ?_; k_whole); k_dflt (intro y9 h9 tk9 F9 N9 p9; (have q9 := p9); (obtain ⟨dy9, ly9, ey9, t9, u9, v9, a9, b9, c9, d9⟩ := q9); (try dsimp only [List.nil_append, List.cons_append] at N9); (try k_sweep)); k_steps) | (refine Halt.go ?_; (with_reducible show wpAny _ _ (call (Value.ref 407) _) _ _ _); k_dflt (refine useRef (by k_asm) (by k_asm) (by k_asm) (by k_asm) (by k_asm) (by kpt_hd) (by kpt_hd) (mulp (by exact RingAt.mono (by with_reducible assumption) (by lcg_sub)) (by exact PolyAt.mono (by with_reducible assumption) (by lcg_sub)) (by exact PolyAt.mono (by with_reducible assumption) (by lcg_sub)) (by with_reducible assumption) (by with_reducible assumption) (by with_reducible assumption) (by with_reducible assumption) (by with_reducible assumption) (by with_reducible assumption)) (by k_room) (by k_units) ?_; k_whole); k_dflt (intro z9 new9 h9 tk9 F9 N9 A9 p9; (try dsimp only [List.nil_append, List.cons_append] at N9); (try k_sweep)); k_steps))
    exact ⟨_, _, _, (D2, LCg.lst ys2) :: new2, q2, rfl, bare2, tq2, F₂, N₂, apCons (neSub oD2 (by lcg_sub)) ap2, D2, rfl, rowOf hd2⟩)
  intro g1
  refine finTab bare ?_
  intro D1 h1 tk1 gs1 ys1 new1 q2 bare1 tq2 F₁ N₁ oD1 ap1 hd1
  clear N3 F3
  k_steps <;> repeat' (first | (refine Halt.go ?_; (with_reducible show wpAny _ _ (call (Value.ref 104) _) _ _ _); k_dflt (refine useTup (by k_asm) (by k_asm) (by k_asm) (by k_asm) (by k_asm) (by kpt_hd) (by kpt_hd) (mdim (by exact MatAt.mono (by with_reducible assumption) (by lcg_sub)) (by with_reducible assumption) (by omega) (by omega)) (by k_room) (by k_units) ?_; k_whole); k_dflt (intro T9 t9 u9 h9 tk9 F9 N9 A9; (have b9 := apHead A9); clear A9; (try dsimp only [List.nil_append, List.cons_append] at N9); (try k_sweep)); k_steps) | (refine Halt.go ?_; (with_reducible show wpAny _ _ (call (Value.ref 133) _) _ _ _); k_dflt (refine useNilP (by k_asm) (by k_asm) (by k_asm) (by k_asm) (by k_asm) (by kpt_hd) (by kpt_hd) (mget (by with_reducible assumption) (by lcg_sub) (by k_mem) (by with_reducible assumption) (by with_reducible assumption) (by omega) (by omega)) (by k_room) (by k_units) ?_; k_whole); k_dflt (intro y9 h9 tk9 F9 N9 p9; (have q9 := p9); (obtain ⟨dy9, ly9, ey9, t9, u9, v9, a9, b9, c9, d9⟩ := q9); (try dsimp only [List.nil_append, List.cons_append] at N9); (try k_sweep)); k_steps) | (refine Halt.go ?_; (with_reducible show wpAny _ _ (call (Value.ref 407) _) _ _ _); k_dflt (refine useRef (by k_asm) (by k_asm) (by k_asm) (by k_asm) (by k_asm) (by kpt_hd) (by kpt_hd) (mulp (by exact RingAt.mono (by with_reducible assumption) (by lcg_sub)) (by exact PolyAt.mono (by with_reducible assumption) (by lcg_sub)) (by exact PolyAt.mono (by with_reducible assumption) (by lcg_sub)) (by with_reducible assumption) (by with_reducible assumption) (by with_reducible assumption) (by with_reducible assumption) (by with_reducible assumption) (by with_reducible assumption)) (by k_room) (by k_units) ?_; k_whole); k_dflt (intro z9 new9 h9 tk9 F9 N9 A9 p9; (try dsimp only [List.nil_append, List.cons_append] at N9); (try k_sweep)); k_steps))
  refine Halt.go ?_
  k_dflt (refine' useGoesZ (news := (D1, LCg.lst ys1) :: (new1 ++ news)) ?k1 ?k2 ?k3 ?k4 ?k40 tb1 tq2 tb3 (newsOff2 oD1 ap1 (by k_mem) (by k_mem) n1) (newsOff2 oD1 ap1 (by k_mem) (by k_mem) n2) (newsOff2 oD1 ap1 (by k_mem) (by k_mem) n3) bare1 ?k5 ?kf ?kK (mcall callArgs2 (hM.mono (subTail (subR (fun _ h => h)))) (hR.mono (subTail (subR (fun _ h => h)))) ((dataOf hd1).mono (subCons (List.Mem.head _) (subTail (subL (fun _ h => h))))) hr hr' hl') ?kd ?ku ?_; (case k2 => k_asm); (case k1 => k_asm); (case k3 => k_asm); (case k4 => k_asm); (case k40 => lcg_sub); (case k5 => k_asm); (case kf => first | exact rfl | assumption); (case kK => first | exact rfl | assumption); (case kd => k_room); (case ku => k_units))
  intro z new9 h9 tk9 gs9 p1 p2 p3 tp1 tp2 tp3 F9 N9 A9 bare9 hz
  k_steps <;> repeat' (first | (refine Halt.go ?_; (with_reducible show wpAny _ _ (call (Value.ref 104) _) _ _ _); k_dflt (refine useTup (by k_asm) (by k_asm) (by k_asm) (by k_asm) (by k_asm) (by kpt_hd) (by kpt_hd) (mdim (by exact MatAt.mono (by with_reducible assumption) (by lcg_sub)) (by with_reducible assumption) (by omega) (by omega)) (by k_room) (by k_units) ?_; k_whole); k_dflt (intro T9 t9 u9 h9 tk9 F9 N9 A9; (have b9 := apHead A9); clear A9; (try dsimp only [List.nil_append, List.cons_append] at N9); (try k_sweep)); k_steps) | (refine Halt.go ?_; (with_reducible show wpAny _ _ (call (Value.ref 133) _) _ _ _); k_dflt (refine useNilP (by k_asm) (by k_asm) (by k_asm) (by k_asm) (by k_asm) (by kpt_hd) (by kpt_hd) (mget (by with_reducible assumption) (by lcg_sub) (by k_mem) (by with_reducible assumption) (by with_reducible assumption) (by omega) (by omega)) (by k_room) (by k_units) ?_; k_whole); k_dflt (intro y9 h9 tk9 F9 N9 p9; (have q9 := p9); (obtain ⟨dy9, ly9, ey9, t9, u9, v9, a9, b9, c9, d9⟩ := q9); (try dsimp only [List.nil_append, List.cons_append] at N9); (try k_sweep)); k_steps) | (refine Halt.go ?_; (with_reducible show wpAny _ _ (call (Value.ref 407) _) _ _ _); k_dflt (refine useRef (by k_asm) (by k_asm) (by k_asm) (by k_asm) (by k_asm) (by kpt_hd) (by kpt_hd) (mulp (by exact RingAt.mono (by with_reducible assumption) (by lcg_sub)) (by exact PolyAt.mono (by with_reducible assumption) (by lcg_sub)) (by exact PolyAt.mono (by with_reducible assumption) (by lcg_sub)) (by with_reducible assumption) (by with_reducible assumption) (by with_reducible assumption) (by with_reducible assumption) (by with_reducible assumption) (by with_reducible assumption)) (by k_room) (by k_units) ?_; k_whole); k_dflt (intro z9 new9 h9 tk9 F9 N9 A9 p9; (try dsimp only [List.nil_append, List.cons_append] at N9); (try k_sweep)); k_steps))
  exact retMat hret (by assumption) (by assumption) A9 (midOff oD1 ap1 (tabsIn (by k_mem) (by k_mem) (by k_mem) (by lcg_sub)) (tabsIn (by k_mem) (by k_mem) (by k_mem) (by lcg_sub))) tp1 tp2 tp3 bare9 hz
end
end
section
local macro_rules | `(tactic| walk_at "eval Name") => `(tactic| (k_here; (with_reducible show wpAny _ _ (eval (Expr.Name _ _) (gEnv _ _ _ _ _)) _ _ _); k_dflt (refine gname_builtin (by k_asm) (by k_asm) (by k_asm) (by k_is) (by boot_fast) (by decide) ?_ (by rfl) (by rfl); k_whole)))
section
example : True := by
  w_top off
  trivial
section
variable {w : World} {loose : List Str} {mean : ExcName → Option Value} {mg mb : Str → Option Value} {news : Led}
local macro_rules | `(tactic| walk_at "eval GeneratorExp") => `(tactic| (k_here; refine halt ?_))
local macro_rules | `(tactic| walk_at "call builtin:all") => `(tactic| (k_here; refine halt ?_))
local macro_rules | `(tactic| walk_at "compareOp Eq ref ref") => `(tactic| (k_here; (with_reducible show wpAny _ _ (compareOp CmpOp.Eq (Value.ref _) _) _ _ _); (refine cmp_ofEq ?_); k_dflt (refine cmp_K (by have hcL9 := cLine_is; k_units) (by k_asm) (by k_asm) (by k_inst) (by k_typeOf) (by k_is) (by k_is) (by k_is) ?_; k_whole)))
set_option maxHeartbeats 2000000 in
/-- two columns that are alike -/
theorem meq {md rg x y : Addr} {q n : Int} {r : Nat} {f g : Nat → Nat → List Int} (hR : RingAt w news rg q n) (hx : MatAt w news md rg x r 1 f) (hy : MatAt w news md rg y r 1 g) (hr : 0 < r) (hr' : r < 2 ^ 11) (hl : ∀ i, i < r → (f i 0).length < 2 ^ 20) (hfg : ∀ i, i < r → f i 0 = g i 0) :
    GoesG w loose mean mg mb news 147 ⟨[.ref x, .ref y], []⟩ 60 600 (fun new v => new = [] ∧ v = .bool true) := by
  intro dp un gd env outer A₀ base h₀ L m s R o1 o2 o3 tb1 tb2 tb3 B F X N n1 n2 n3 bare T hf hk hdp hun hret
  have hxc104 : HaltCall 104 := .mk
  have hxc133 : HaltCall 133 := .mk
  have hxc435 : HaltCall 435 := .mk
  have hx' := hx
  have hy' := hy
  obtain ⟨dx, lx, t1, t2, t3, hx1, hx2, hx3⟩ := hx
  obtain ⟨dy, ly, u1, u2, u3, hy1, hy2, hy3⟩ := hy
  (refine' code_defC ?k1 ?k2 ?k3 ?k4 ?k5 ?kA ?kF ?kK ?k6 ?k7 ?k8 ?k9 ?kB ?kD ?_ ?c2 ?c3 ?c4; (case kA => exact rfl); (case kF => first | exact rfl | assumption); (case kK => first | exact rfl | assumption); (case k1 => k_asm); (case k2 => k_asm); (case k3 => k_asm); (case k4 => k_asm); (case k5 => k_asm); (case k6 => k_is); (case k7 => k_is); (case k8 => k_room); (case k9 => exact BindsTo.of_eq rfl); (case kB => exact rfl); (case kD => decide +kernel); (case c2 => exact rfl); (case c3 => exact rfl); (case c4 => exact rfl); k_whole; intro g' L' h' tk' cells' FG' F' N' Y' B' X' T' l1; (try k_lt l1); (have hY := CellsAre.three Y'; obtain ⟨oc3, oc2, oc1, hE', d3, d2, d1⟩ := hY; subst hE'; clear Y'); (try dsimp only [List.cons_append, List.nil_append] at N'); (try dsimp only); (try k_fold))
  k_steps <;> repeat' (first | (refine Halt.go ?_; (with_reducible show wpAny _ _ (call (Value.ref 104) _) _ _ _); k_dflt (refine useTup (by k_asm) (by k_asm) (by k_asm) (by k_asm) (by k_asm) (by kpt_hd) (by kpt_hd) (mdim (by exact MatAt.mono (by with_reducible assumption) (by lcg_sub)) (by with_reducible assumption) (by omega) (by omega)) (by k_room) (by k_units) ?_; k_whole); k_dflt (intro T9 t9 u9 h9 tk9 F9 N9 A9; (have b9 := apHead A9); clear A9; (try dsimp only [List.nil_append, List.cons_append] at N9); (try k_sweep)); k_steps) | (refine Halt.go ?_; (with_reducible show wpAny _ _ (call (Value.ref 133) _) _ _ _); k_dflt (refine useNilP (by k_asm) (by k_asm) (by k_asm) (by k_asm) (by k_asm) (by kpt_hd) (by kpt_hd) (mget (by with_reducible assumption) (by lcg_sub) (by k_mem) (by with_reducible assumption) (by with_reducible assumption) (by omega) (by omega)) (by k_room) (by k_units) ?_; k_whole); k_dflt (intro y9 h9 tk9 F9 N9 p9; (have q9 := p9); (obtain ⟨dy9, ly9, ey9, t9, u9, v9, a9, b9, c9, d9⟩ := q9); (try dsimp only [List.nil_append, List.cons_append] at N9); (try k_sweep)); k_steps) | (refine Halt.go ?_; (with_reducible show wpAny _ _ (call (Value.ref 435) _) _ _ _); k_dflt (refine useNil (by k_asm) (by k_asm) (by k_asm) (by k_asm) (by k_asm) (by kpt_hd) (by kpt_hd) (polyEq (by exact PolyAt.mono (by with_reducible assumption) (by lcg_sub)) (by exact PolyAt.mono (by with_reducible assumption) (by lcg_sub)) (by omega) (by omega)) (by k_room) (by k_units) ?_; k_whole); k_dflt (intro h9 tk9 F9 N9; (try dsimp only [List.nil_append, List.cons_append] at N9); (try k_sweep)); k_steps))
  refine Halt.go ?_
  rename News _ _ _ _ => N1
  rename Fr _ _ _ _ => F1
  have hx98 : ∃ oB tb, oB.data = .cell (some (.int ((1 : Nat) : Int) tb)) ∧ News g' L' _ ((142, o1) :: ((L' + 1 + 1 + 1, oB) :: (L' + 1 + 1, oc2) :: (L' + 1, oc1) :: (178, o2) :: (225, o3) :: news)) := ⟨_, _, by assumption, newsSub N1 (by lcg_sub)⟩
  obtain ⟨oB, tb, dB, N2⟩ := hx98
  clear N1
  k_dflt (refine gen2_make (r := r) (by k_asm) T' (codeHd_of_K (c := 146) (P := 142) X' (by kernel_rfl)) rfl rfl rfl rfl (by with_unfolding_all rfl) (by decide) rfl rfl rfl (by decide) rfl (by k_room) (fun _ _ _ => rfl) ?_ (fun _ => rfl))
  k_steps <;> repeat' (first | (refine Halt.go ?_; (with_reducible show wpAny _ _ (call (Value.ref 104) _) _ _ _); k_dflt (refine useTup (by k_asm) (by k_asm) (by k_asm) (by k_asm) (by k_asm) (by kpt_hd) (by kpt_hd) (mdim (by exact MatAt.mono (by with_reducible assumption) (by lcg_sub)) (by with_reducible assumption) (by omega) (by omega)) (by k_room) (by k_units) ?_; k_whole); k_dflt (intro T9 t9 u9 h9 tk9 F9 N9 A9; (have b9 := apHead A9); clear A9; (try dsimp only [List.nil_append, List.cons_append] at N9); (try k_sweep)); k_steps) | (refine Halt.go ?_; (with_reducible show wpAny _ _ (call (Value.ref 133) _) _ _ _); k_dflt (refine useNilP (by k_asm) (by k_asm) (by k_asm) (by k_asm) (by k_asm) (by kpt_hd) (by kpt_hd) (mget (by with_reducible assumption) (by lcg_sub) (by k_mem) (by with_reducible assumption) (by with_reducible assumption) (by omega) (by omega)) (by k_room) (by k_units) ?_; k_whole); k_dflt (intro y9 h9 tk9 F9 N9 p9; (have q9 := p9); (obtain ⟨dy9, ly9, ey9, t9, u9, v9, a9, b9, c9, d9⟩ := q9); (try dsimp only [List.nil_append, List.cons_append] at N9); (try k_sweep)); k_steps) | (refine Halt.go ?_; (with_reducible show wpAny _ _ (call (Value.ref 435) _) _ _ _); k_dflt (refine useNil (by k_asm) (by k_asm) (by k_asm) (by k_asm) (by k_asm) (by kpt_hd) (by kpt_hd) (polyEq (by exact PolyAt.mono (by with_reducible assumption) (by lcg_sub)) (by exact PolyAt.mono (by with_reducible assumption) (by lcg_sub)) (by omega) (by omega)) (by k_room) (by k_units) ?_; k_whole); k_dflt (intro h9 tk9 F9 N9; (try dsimp only [List.nil_append, List.cons_append] at N9); (try k_sweep)); k_steps))
  refine Halt.go ?_
  rename News _ _ _ _ => N3
  rename Fr _ _ _ _ => F3
  refine ⟨_, _, _, _, o1, _, rfl, (by assumption), by omega, F3, N3, tb1, ?off, bare, ?hi, ?he, ?fin⟩
  (case off => k_all)
  (case hi =>
    intro code C I
    refine inGen_in B' X' T' F3.above rfl rfl rfl over0 ?_
    intro G s' mC rest E' B₂ X₂ T₂ _ hsub F₄ N₄
    have hcn := hsub (L' + 1 + 1 + 1, oB) (by k_mem)
    clear N3 F3 hsub
    k_steps <;> repeat' (first | (refine Halt.go ?_; (with_reducible show wpAny _ _ (call (Value.ref 104) _) _ _ _); k_dflt (refine useTup (by k_asm) (by k_asm) (by k_asm) (by k_asm) (by k_asm) (by kpt_hd) (by kpt_hd) (mdim (by exact MatAt.mono (by with_reducible assumption) (by lcg_sub)) (by with_reducible assumption) (by omega) (by omega)) (by k_room) (by k_units) ?_; k_whole); k_dflt (intro T9 t9 u9 h9 tk9 F9 N9 A9; (have b9 := apHead A9); clear A9; (try dsimp only [List.nil_append, List.cons_append] at N9); (try k_sweep)); k_steps) | (refine Halt.go ?_; (with_reducible show wpAny _ _ (call (Value.ref 133) _) _ _ _); k_dflt (refine useNilP (by k_asm) (by k_asm) (by k_asm) (by k_asm) (by k_asm) (by kpt_hd) (by kpt_hd) (mget (by with_reducible assumption) (by lcg_sub) (by k_mem) (by with_reducible assumption) (by with_reducible assumption) (by omega) (by omega)) (by k_room) (by k_units) ?_; k_whole); k_dflt (intro y9 h9 tk9 F9 N9 p9; (have q9 := p9); (obtain ⟨dy9, ly9, ey9, t9, u9, v9, a9, b9, c9, d9⟩ := q9); (try dsimp only [List.nil_append, List.cons_append] at N9); (try k_sweep)); k_steps) | (refine Halt.go ?_; (with_reducible show wpAny _ _ (call (Value.ref 435) _) _ _ _); k_dflt (refine useNil (by k_asm) (by k_asm) (by k_asm) (by k_asm) (by k_asm) (by kpt_hd) (by kpt_hd) (polyEq (by exact PolyAt.mono (by with_reducible assumption) (by lcg_sub)) (by exact PolyAt.mono (by with_reducible assumption) (by lcg_sub)) (by omega) (by omega)) (by k_room) (by k_units) ?_; k_whole); k_dflt (intro h9 tk9 F9 N9; (try dsimp only [List.nil_append, List.cons_append] at N9); (try k_sweep)); k_steps))
    rename News _ _ _ _ => N5
    rename Fr _ _ _ _ => F5
    exact Halt.go ⟨_, _, rfl, F5, N5, _, _, _, _, rfl, by assumption⟩)
  (case he =>
    intro code C I k l p I2 i hi
    refine inGen_in B' X' T' F3.above rfl rfl rfl over1 ?_
    rintro G s' mC rest E' B₂ X₂ T₂ ⟨⟨ti, hmi⟩, tj, hmj'⟩ hsub F₄ N₄
    have hmj : mC (Str.ofString "j") = some (.int ((0 : Nat) : Int) tj) := hmj'
    have hsubN : ∀ p ∈ news, p ∈ rest := fun p hp => hsub p (subTail (subTail (subTail (subTail (subTail fun _ h => h)))) p hp)
    have hc1' := hsub (L' + 1, oc1) (by k_mem)
    have hc2' := hsub (L' + 1 + 1, oc2) (by k_mem)
    have hR₂ := hR.mono hsubN
    have hx₂ := hx'.mono hsubN
    have hy₂ := hy'.mono hsubN
    have gx1 := hsubN _ hx1
    have gx2 := hsubN _ hx2
    have gy1 := hsubN _ hy1
    have gy2 := hsubN _ hy2
    have hj0 : 0 < 1 := Nat.one_pos
    have ll := hl i hi
    have e0 := hfg i hi
    have lg : (g i 0).length < 2 ^ 20 := e0 ▸ ll
    clear hsub N3 F3 hmj'
    k_steps <;> repeat' (first | (refine Halt.go ?_; (with_reducible show wpAny _ _ (call (Value.ref 104) _) _ _ _); k_dflt (refine useTup (by k_asm) (by k_asm) (by k_asm) (by k_asm) (by k_asm) (by kpt_hd) (by kpt_hd) (mdim (by exact MatAt.mono (by with_reducible assumption) (by lcg_sub)) (by with_reducible assumption) (by omega) (by omega)) (by k_room) (by k_units) ?_; k_whole); k_dflt (intro T9 t9 u9 h9 tk9 F9 N9 A9; (have b9 := apHead A9); clear A9; (try dsimp only [List.nil_append, List.cons_append] at N9); (try k_sweep)); k_steps) | (refine Halt.go ?_; (with_reducible show wpAny _ _ (call (Value.ref 133) _) _ _ _); k_dflt (refine useNilP (by k_asm) (by k_asm) (by k_asm) (by k_asm) (by k_asm) (by kpt_hd) (by kpt_hd) (mget (by with_reducible assumption) (by lcg_sub) (by k_mem) (by with_reducible assumption) (by with_reducible assumption) (by omega) (by omega)) (by k_room) (by k_units) ?_; k_whole); k_dflt (intro y9 h9 tk9 F9 N9 p9; (have q9 := p9); (obtain ⟨dy9, ly9, ey9, t9, u9, v9, a9, b9, c9, d9⟩ := q9); (try dsimp only [List.nil_append, List.cons_append] at N9); (try k_sweep)); k_steps) | (refine Halt.go ?_; (with_reducible show wpAny _ _ (call (Value.ref 435) _) _ _ _); k_dflt (refine useNil (by k_asm) (by k_asm) (by k_asm) (by k_asm) (by k_asm) (by kpt_hd) (by kpt_hd) (polyEq (by exact PolyAt.mono (by with_reducible assumption) (by lcg_sub)) (by exact PolyAt.mono (by with_reducible assumption) (by lcg_sub)) (by omega) (by omega)) (by k_room) (by k_units) ?_; k_whole); k_dflt (intro h9 tk9 F9 N9; (try dsimp only [List.nil_append, List.cons_append] at N9); (try k_sweep)); k_steps))
    rename News _ _ _ _ => N5
    rename Fr _ _ _ _ => F5
    rw [decide_eq_true e0]
    exact Halt.go ⟨_, _, rfl, F5, newsSub N5 (subTail (subTail fun _ h => h)), rfl⟩)
  intro ag oag oP' h5 tk5 gg gs5 tT Hd5 ap5 bare5 hg5 Run5
  clear N3 F3
  have N6 := Hd5.2
  have F6 := Hd5.1
  k_steps <;> repeat' (first | (refine Halt.go ?_; (with_reducible show wpAny _ _ (call (Value.ref 104) _) _ _ _); k_dflt (refine useTup (by k_asm) (by k_asm) (by k_asm) (by k_asm) (by k_asm) (by kpt_hd) (by kpt_hd) (mdim (by exact MatAt.mono (by with_reducible assumption) (by lcg_sub)) (by with_reducible assumption) (by omega) (by omega)) (by k_room) (by k_units) ?_; k_whole); k_dflt (intro T9 t9 u9 h9 tk9 F9 N9 A9; (have b9 := apHead A9); clear A9; (try dsimp only [List.nil_append, List.cons_append] at N9); (try k_sweep)); k_steps) | (refine Halt.go ?_; (with_reducible show wpAny _ _ (call (Value.ref 133) _) _ _ _); k_dflt (refine useNilP (by k_asm) (by k_asm) (by k_asm) (by k_asm) (by k_asm) (by kpt_hd) (by kpt_hd) (mget (by with_reducible assumption) (by lcg_sub) (by k_mem) (by with_reducible assumption) (by with_reducible assumption) (by omega) (by omega)) (by k_room) (by k_units) ?_; k_whole); k_dflt (intro y9 h9 tk9 F9 N9 p9; (have q9 := p9); (obtain ⟨dy9, ly9, ey9, t9, u9, v9, a9, b9, c9, d9⟩ := q9); (try dsimp only [List.nil_append, List.cons_append] at N9); (try k_sweep)); k_steps) | (refine Halt.go ?_; (with_reducible show wpAny _ _ (call (Value.ref 435) _) _ _ _); k_dflt (refine useNil (by k_asm) (by k_asm) (by k_asm) (by k_asm) (by k_asm) (by kpt_hd) (by kpt_hd) (polyEq (by exact PolyAt.mono (by with_reducible assumption) (by lcg_sub)) (by exact PolyAt.mono (by with_reducible assumption) (by lcg_sub)) (by omega) (by omega)) (by k_room) (by k_units) ?_; k_whole); k_dflt (intro h9 tk9 F9 N9; (try dsimp only [List.nil_append, List.cons_append] at N9); (try k_sweep)); k_steps))
  refine Halt.go ?_
  k_dflt (refine gen2_all rfl T'.nolimit (by k_room) List.mem_cons_self hg5 Hd5 bare5 Run5 ?_)
  intro h6 tk6 gs6 Hd6 bare6
  have N7 := Hd6.2
  have F7 := Hd6.1
  clear N6 F6 Hd5 Hd6
  k_steps <;> repeat' (first | (refine Halt.go ?_; (with_reducible show wpAny _ _ (call (Value.ref 104) _) _ _ _); k_dflt (refine useTup (by k_asm) (by k_asm) (by k_asm) (by k_asm) (by k_asm) (by kpt_hd) (by kpt_hd) (mdim (by exact MatAt.mono (by with_reducible assumption) (by lcg_sub)) (by with_reducible assumption) (by omega) (by omega)) (by k_room) (by k_units) ?_; k_whole); k_dflt (intro T9 t9 u9 h9 tk9 F9 N9 A9; (have b9 := apHead A9); clear A9; (try dsimp only [List.nil_append, List.cons_append] at N9); (try k_sweep)); k_steps) | (refine Halt.go ?_; (with_reducible show wpAny _ _ (call (Value.ref 133) _) _ _ _); k_dflt (refine useNilP (by k_asm) (by k_asm) (by k_asm) (by k_asm) (by k_asm) (by kpt_hd) (by kpt_hd) (mget (by with_reducible assumption) (by lcg_sub) (by k_mem) (by with_reducible assumption) (by with_reducible assumption) (by omega) (by omega)) (by k_room) (by k_units) ?_; k_whole); k_dflt (intro y9 h9 tk9 F9 N9 p9; (have q9 := p9); (obtain ⟨dy9, ly9, ey9, t9, u9, v9, a9, b9, c9, d9⟩ := q9); (try dsimp only [List.nil_append, List.cons_append] at N9); (try k_sweep)); k_steps) | (refine Halt.go ?_; (with_reducible show wpAny _ _ (call (Value.ref 435) _) _ _ _); k_dflt (refine useNil (by k_asm) (by k_asm) (by k_asm) (by k_asm) (by k_asm) (by kpt_hd) (by kpt_hd) (polyEq (by exact PolyAt.mono (by with_reducible assumption) (by lcg_sub)) (by exact PolyAt.mono (by with_reducible assumption) (by lcg_sub)) (by omega) (by omega)) (by k_room) (by k_units) ?_; k_whole); k_dflt (intro h9 tk9 F9 N9; (try dsimp only [List.nil_append, List.cons_append] at N9); (try k_sweep)); k_steps))
  rename News _ _ _ _ => N8
  exact hret _ [] _ _ _ _ _ _ tT tb2 tb3 (by assumption) (newsSub N8 (by simp only [List.nil_append]; lcg_sub)) apNil bare6 ⟨rfl, rfl⟩
end
end
section
/-- the law's statements from the k-th on, whatever their text: read off the given program -/
def LawTail (k : Nat) (P : List Stmt → Scope → Prop) : Prop := ∀ name params body scope pos kw, defOf viewQ (Str.ofString "law") = some (⟨name, params, body, scope, pos⟩, kw) → P (body.drop k) scope
theorem LawTail.of {k : Nat} {P : List Stmt → Scope → Prop} {name : Str} {params : Arguments} {body : List Stmt} {scope : Scope} {pos : Pos} {kw : List (Str × Expr)} (h : defOf viewQ (Str.ofString "law") = some (⟨name, params, body, scope, pos⟩, kw)) (p : P (body.drop k) scope) : LawTail k P := fun _ _ _ _ _ _ h' => by
  rw [h] at h'
  cases h'
  exact p
theorem LawTail.step {k j : Nat} {P R : List Stmt → Scope → Prop} {name : Str} {params : Arguments} {body : List Stmt} {scope : Scope} {pos : Pos} {kw : List (Str × Expr)} (t : LawTail j R) (h : defOf viewQ (Str.ofString "law") = some (⟨name, params, body, scope, pos⟩, kw)) (p : R (body.drop j) scope → P (body.drop k) scope) : LawTail k P := LawTail.of h (p (t _ _ _ _ _ _ h))
theorem ints_cons {vs : List Value} {a : Int} {as : List Int} (h : IntsAre vs (a :: as)) : ∃ t vs', vs = .int a t :: vs' ∧ IntsAre vs' as := by
  cases h with
  | cons _ t h => exact ⟨t, _, rfl, h⟩
theorem or12 {r : Nat} (h : r = 1 ∨ r = 2) : r ≤ 2 := by omega
theorem or23 {r : Nat} (h : r = 2 ∨ r = 3) : r ≤ 3 := by omega
theorem nInt {n : Nat} (h : n = 2 ∨ n = 3) : (n : Int) = 2 ∨ (n : Int) = 3 := by omega
/-- what the law's end has to show -/
def Ends (h₀ : Heap) (L : Addr) (s : Shared) (Q : Flow → Shared → Prop) : Prop := ∀ (s' : Shared) (m' : Str → Option Value) (o1 o2 o3 : Obj), s'.os = s.os → IsTab o1 → IsTab o2 → IsTab o3 → AllBare s'.gens → Fr h₀ L s'.heap m' → News h₀ L s'.heap [(142, o1), (178, o2), (225, o3)] → Q (.ret (.bool true)) s'
structure Par (q a eta : Int) (dep : Nat) : Prop where
  gm : ∃ g m, a = 2 * g ∧ 8 ≤ g ∧ 2 ≤ m ∧ q = 2 * g * m + 1
  a20 : a < 2 ^ 20
  q24 : q < 2 ^ 24
  eta1 : 1 ≤ eta
  eta4 : eta ≤ 4
  dep1 : 1 ≤ dep
  dep13 : dep ≤ 13
def Tame (f : Nat → Nat → List Int) (r c n : Nat) (b : Int) : Prop := ∀ i j, i < r → j < c → (f i j).length = n ∧ ∀ x ∈ f i j, -b < x ∧ x < b
inductive IntRows (news : Led) (l : Addr) (r : Nat) (f : Nat → List Int) : Prop
  | mk (xs : List Addr) (e : Nat) (h1 : (l, lsO (xs.map Value.ref) e) ∈ news) (h2 : xs.length = r) (h3 : ∀ i x, xs[i]? = some x → ∃ vs e', (x, lsO vs e') ∈ news ∧ IntsAre vs (f i))
theorem IntRows.mono {news news' : Led} {l : Addr} {r : Nat} {f : Nat → List Int} (h : IntRows news l r f) (k : ∀ p ∈ news, p ∈ news') : IntRows news' l r f :=
  let ⟨xs, e, h1, h2, h3⟩ := h; ⟨xs, e, k _ h1, h2, fun i x hx => let ⟨vs, e', h4, h5⟩ := h3 i x hx; ⟨vs, e', k _ h4, h5⟩⟩
theorem PolyAt.strip {w : World} {news news' : Led} {r x : Addr} {cs : List Int} (h : PolyAt w news r x cs) (k : ∀ p ∈ news, (∀ v, p.2.data ≠ .cell v) → p ∈ news') : PolyAt w news' r x cs :=
  let ⟨dx, l, e, t1, t2, vs, h1, h2, h3, h4⟩ := h; ⟨dx, l, e, t1, t2, vs, k _ h1 nofun, k _ h2 nofun, k _ h3 nofun, h4⟩
theorem RowAt.strip {w : World} {news news' : Led} {rg l : Addr} {c : Nat} {f : Nat → List Int} (h : RowAt w news rg l c f) (k : ∀ p ∈ news, (∀ v, p.2.data ≠ .cell v) → p ∈ news') : RowAt w news' rg l c f :=
  let ⟨xs, e, h1, h2, h3⟩ := h; ⟨xs, e, k _ h1 nofun, h2, fun j x hx => (h3 j x hx).strip k⟩
theorem DataAt.strip {w : World} {news news' : Led} {rg l : Addr} {r c : Nat} {f : Nat → Nat → List Int} (h : DataAt w news rg l r c f) (k : ∀ p ∈ news, (∀ v, p.2.data ≠ .cell v) → p ∈ news') : DataAt w news' rg l r c f :=
  let ⟨xs, e, h1, h2, h3⟩ := h; ⟨xs, e, k _ h1 nofun, h2, fun i x hx => (h3 i x hx).strip k⟩
/-- a matrix does not stand among the cells -/
theorem MatAt.strip {w : World} {news news' : Led} {md rg x : Addr} {r c : Nat} {f : Nat → Nat → List Int} (h : MatAt w news md rg x r c f) (k : ∀ p ∈ news, (∀ v, p.2.data ≠ .cell v) → p ∈ news') : MatAt w news' md rg x r c f :=
  let ⟨dx, l, t1, t2, t3, h1, h2, h3⟩ := h; ⟨dx, l, t1, t2, t3, k _ h1 nofun, k _ h2 nofun, h3.strip k⟩
theorem cellsOut {new news : Led} {a1 a2 a3 a4 a5 a6 a7 : Addr} {oc1 oc2 oc3 oc4 oc5 oc6 oc7 : Obj} {v1 v2 v3 v4 v5 v6 v7 : Option Value} (d1 : oc1.data = .cell v1) (d2 : oc2.data = .cell v2) (d3 : oc3.data = .cell v3) (d4 : oc4.data = .cell v4) (d5 : oc5.data = .cell v5) (d6 : oc6.data = .cell v6) (d7 : oc7.data = .cell v7) :
    ∀ p ∈ new ++ ((a7, oc7) :: (a6, oc6) :: (a5, oc5) :: (a4, oc4) :: (a3, oc3) :: (a2, oc2) :: (a1, oc1) :: news), (∀ v, p.2.data ≠ .cell v) → p ∈ new ++ news := fun p hp hv => by
  simp only [List.mem_append, List.mem_cons] at hp ⊢
  rcases hp with hp | rfl | rfl | rfl | rfl | rfl | rfl | rfl | hp
  · exact .inl hp
  · exact absurd d7 (hv _)
  · exact absurd d6 (hv _)
  · exact absurd d5 (hv _)
  · exact absurd d4 (hv _)
  · exact absurd d3 (hv _)
  · exact absurd d2 (hv _)
  · exact absurd d1 (hv _)
  · exact .inr hp
/-- what a call made is off what stood -/
theorem offNew {new led news : Led} {c : Addr} {o : Obj} (A : ∀ q ∈ new, ∀ p ∈ led, p.1 ≠ q.1) (hm : (c, o) ∈ led) (hn : ∀ p ∈ news, p.1 ≠ c) : ∀ p ∈ new ++ news, p.1 ≠ c := fun p hp => (List.mem_append.mp hp).elim (fun h e => A p h _ hm e.symm) (hn p)
theorem tame_mod {n r c : Nat} {g : Nat → Nat → Nat → Int} {bound less b : Int} (hb : 0 < bound) (h1 : less < b) (h2 : bound - less ≤ b) : Tame (fun i j => (List.range n).map fun k => g i j k % bound - less) r c n b := fun i j _ _ => by
  refine ⟨by simp, fun x hx => ?_⟩
  obtain ⟨k, _, rfl⟩ := List.mem_map.mp hx
  have := Int.emod_nonneg (g i j k) (show bound ≠ 0 by omega)
  have := Int.emod_lt_of_pos (g i j k) hb
  omega
theorem eta_mod {n : Nat} {g : Nat → Int} {eta : Int} (h : 1 ≤ eta) : ∀ x ∈ (List.range n).map (fun k => g k % (2 * eta + 1) - eta), -eta ≤ x ∧ x ≤ eta := fun x hx => by
  obtain ⟨k, _, rfl⟩ := List.mem_map.mp hx
  have := Int.emod_nonneg (g k) (show 2 * eta + 1 ≠ 0 by omega)
  have := Int.emod_lt_of_pos (g k) (show 0 < 2 * eta + 1 by omega)
  omega
theorem Par.q0 {q a eta : Int} {dep : Nat} (h : Par q a eta dep) : 33 ≤ q := by
  obtain ⟨g, m, rfl, hg, hm, rfl⟩ := h.gm
  have : 2 * g * 2 ≤ 2 * g * m := Int.mul_le_mul_of_nonneg_left hm (by omega)
  omega
theorem dropLo {a b k m t : Nat} (e : a = b - k) (hk : k ≤ m) (h : m + t ≤ b) : t ≤ a := by omega
theorem dropHi {a b k t : Nat} (e : a = b - k) (h : b < t) : a < t := e ▸ Nat.lt_of_le_of_lt (Nat.sub_le _ _) h
theorem fmodIn {b : Int} (q : Int) (h : 0 < b) : 0 ≤ q.fmod b ∧ q.fmod b < b := by rw [fmod_pos h]; exact ⟨Int.emod_nonneg _ (Int.ne_of_gt h), Int.emod_lt_of_pos _ h⟩
theorem mod3Of (q : Int) : q.fmod 3 = 0 ∨ q.fmod 3 = 1 ∨ q.fmod 3 = 2 := by have := fmodIn (b := 3) q (by decide); lia
theorem natOf4 (q : Int) : ∃ d : Nat, 1 + q.fmod 4 = (d : Int) ∧ 1 ≤ d ∧ d ≤ 4 := by have := fmodIn (b := 4) q (by decide); exact ⟨(1 + q.fmod 4).toNat, by lia, by lia, by lia⟩
theorem natOf1 (q : Int) : ∃ d : Nat, 1 + q.fmod 2 = (d : Int) ∧ (d = 1 ∨ d = 2) := by have := fmodIn (b := 2) q (by decide); exact ⟨(1 + q.fmod 2).toNat, by lia, by lia⟩
theorem natOf2 (q : Int) : ∃ d : Nat, 2 + q.fmod 2 = (d : Int) ∧ (d = 2 ∨ d = 3) := by have := fmodIn (b := 2) q (by decide); exact ⟨(2 + q.fmod 2).toNat, by lia, by lia⟩
theorem cellsNe {c L : Nat} {news : Led} {oc1 oc2 oc3 oc4 oc5 oc6 oc7 : Obj} (h : c < L + 1 ∨ L + 1 + 1 + 1 + 1 + 1 + 1 + 1 < c) (hn : ∀ p ∈ news, p.1 ≠ c) :
    ∀ p ∈ ((L + 1 + 1 + 1 + 1 + 1 + 1 + 1, oc7) :: (L + 1 + 1 + 1 + 1 + 1 + 1, oc6) :: (L + 1 + 1 + 1 + 1 + 1, oc5) :: (L + 1 + 1 + 1 + 1, oc4) :: (L + 1 + 1 + 1, oc3) :: (L + 1 + 1, oc2) :: (L + 1, oc1) :: news : Led), p.1 ≠ c := by
  rcases h with h | h <;> k_all
theorem c142of {L : Nat} (h : 225 < L) : 142 < L + 1 ∨ L + 1 + 1 + 1 + 1 + 1 + 1 + 1 < 142 := .inl (by omega)
theorem c178of {L : Nat} (h : 225 < L) : 178 < L + 1 ∨ L + 1 + 1 + 1 + 1 + 1 + 1 + 1 < 178 := .inl (by omega)
theorem c225of {L : Nat} (h : 225 < L) : 225 < L + 1 ∨ L + 1 + 1 + 1 + 1 + 1 + 1 + 1 < 225 := .inl (by omega)
theorem garNe {c g : Nat} {o : Obj} {news : Led} (h : c < g) (hn : ∀ p ∈ news, p.1 ≠ c) : ∀ p ∈ ((g, o) :: news : Led), p.1 ≠ c := fun p hp => by
  rcases List.mem_cons.mp hp with rfl | hp
  · exact Nat.ne_of_gt h
  · exact hn p hp
theorem rowOne {w : World} {part : Led} {rg D x dx l : Addr} {t1 t2 : Tok} {vs : List Value} {e e0 : Nat} {cs : List Int} (h0 : (D, lsO [.ref x] e0) ∈ part) (h1 : (x, instObj 445 dx) ∈ part) (h2 : (dx, dictOf [ent w (Str.ofString "parent") t1 (.ref rg), ent w (Str.ofString "coeffs") t2 (.ref l)] 2) ∈ part) (h3 : (l, lsO vs e) ∈ part) (h4 : IntsAre vs cs) : RowAt w part rg D 1 (fun _ => cs) := by
  refine ⟨[x], e0, h0, rfl, fun j z hz => ?_⟩
  cases j with
  | zero =>
    have : x = z := by simpa using hz
    subst this
    exact ⟨dx, l, e, t1, t2, vs, h1, h2, h3, h4⟩
  | succ j => simp at hz
theorem dataOfO {w : World} {rg D : Addr} {r c : Nat} {f : Nat → Nat → List Int} {ys : List Value} {new old : Led} (hd : CompDone (fun i y part => RowEl w rg c f i y (part ++ old)) r ys new) : DataAt w ((D, LCg.lst ys) :: (new ++ old)) rg D r c f := by
  obtain ⟨hl, hy⟩ := hd
  obtain ⟨xs, rfl, hx⟩ := refs_of (P := fun i z => RowAt w ((D, LCg.lst ys) :: (new ++ old)) rg z c (f i)) fun i y h => by
    obtain ⟨part, hp, z, e, hz⟩ := hy i y h
    exact ⟨z, e, hz.mono fun p hq => List.mem_cons_of_mem _ ((List.mem_append.mp hq).elim (fun h => List.mem_append_left _ (hp p h)) fun h => List.mem_append_right _ h)⟩
  exact ⟨xs, _, List.mem_cons_self, by rw [← hl, List.length_map], hx⟩
/-- an entry of a column -/
theorem mget0 {w : World} {loose : List Str} {mean : ExcName → Option Value} {mg mb : Str → Option Value} {old news : Led} {md rg x T : Addr} {r i : Nat} {ti tj : Tok} {f : Nat → Nat → List Int} (hx : MatAt w old md rg x r 1 f) (ko : ∀ p ∈ old, p ∈ news) (hT : (T, tupO [.int i ti, .int 0 tj]) ∈ news) (hi : i < r) (hr : r < 2 ^ 20) :
    Goes w loose mean mg mb news 133 [.ref x, .ref T] 3 40 (fun new v => new = [] ∧ ∃ y, v = .ref y ∧ PolyAt w old rg y (f i 0)) := mget (j := 0) hx ko hT hi Nat.one_pos hr (by decide)
abbrev IntRowEl (f : Nat → List Int) (i : Nat) (y : Value) (part : Led) : Prop := ∃ D, y = .ref D ∧ ∃ vs e, (D, lsO vs e) ∈ part ∧ IntsAre vs (f i)
theorem intRowsOf {D : Addr} {r : Nat} {f : Nat → List Int} {ys : List Value} {new : Led} (hd : CompDone (IntRowEl f) r ys new) : IntRows ((D, LCg.lst ys) :: new) D r f := by
  obtain ⟨hl, hy⟩ := hd
  obtain ⟨xs, rfl, hx⟩ := refs_of (P := fun i z => ∃ vs e, (z, lsO vs e) ∈ (D, LCg.lst ys) :: new ∧ IntsAre vs (f i)) fun i y h => by
    obtain ⟨part, hp, z, e, vs, e', hm, hi⟩ := hy i y h
    exact ⟨z, e, vs, e', List.mem_cons_of_mem _ (hp _ hm), hi⟩
  exact ⟨xs, _, List.mem_cons_self, by rw [← hl, List.length_map], hx⟩
theorem plNe {L pl c : Nat} (h : 225 < L) (hp : @LT.lt Nat _ (L + 1 + 1 + 1 + 1 + 1 + 1 + 1) pl) (hc : c ≤ 225) : @Ne Nat pl c := fun e => by
  subst e
  exact absurd (Nat.lt_of_lt_of_le h (Nat.le_trans (Nat.le_add_right L 7) (Nat.le_of_lt hp))) (Nat.not_lt.mpr hc)
theorem callMat {w : World} {loose : List Str} {mean : ExcName → Option Value} {mg mb : Str → Option Value} {all news : Led} {f : Addr} {vs : List Value} {d u : Nat} {o1 o2 o3 oc1 oc2 oc3 oc4 oc5 oc6 oc7 : Obj} {v1 v2 v3 v4 v5 v6 v7 : Option Value} {md rg : Addr} {r c : Nat} {g : Nat → Nat → List Int}
    {dp un : Nat} {gd : Option (List Code)} {env : Env} {outer : List Env} {A₀ : Around} {base h₀ : Heap} {L : Addr} {m : Str → Option Value} {s : Shared} {Q E : Value → Shared → Prop}
    (B : Below A₀ base outer h₀) (F : Fr h₀ L s.heap m) (X : (hd.heap_1 w.params).In h₀) (N : News h₀ L s.heap all) (hs : ∀ p ∈ (142, o1) :: (178, o2) :: (225, o3) :: (L + 1 + 1 + 1 + 1 + 1 + 1 + 1, oc7) :: (L + 1 + 1 + 1 + 1 + 1 + 1, oc6) :: (L + 1 + 1 + 1 + 1 + 1, oc5) :: (L + 1 + 1 + 1 + 1, oc4) :: (L + 1 + 1 + 1, oc3) :: (L + 1 + 1, oc2) :: (L + 1, oc1) :: news, p ∈ all) (t1 : IsTab o1) (t2 : IsTab o2) (t3 : IsTab o3) (hL : 225 < L)
    (d1 : oc1.data = .cell v1) (d2 : oc2.data = .cell v2) (d3 : oc3.data = .cell v3) (d4 : oc4.data = .cell v4) (d5 : oc5.data = .cell v5) (d6 : oc6.data = .cell v6) (d7 : oc7.data = .cell v7)
    (n1 : ∀ p ∈ news, p.1 ≠ 142) (n2 : ∀ p ∈ news, p.1 ≠ 178) (n3 : ∀ p ∈ news, p.1 ≠ 225) (k1 : ∀ p ∈ news, p.1 ≠ L + 1) (k5 : ∀ p ∈ news, p.1 ≠ L + 1 + 1 + 1 + 1 + 1) (k6 : ∀ p ∈ news, p.1 ≠ L + 1 + 1 + 1 + 1 + 1 + 1) (k7 : ∀ p ∈ news, p.1 ≠ L + 1 + 1 + 1 + 1 + 1 + 1 + 1)
    (bare : AllBare s.gens) (T : Top topProg loose mean mg mb h₀) (hf : env.frame = some L) (hk : env.scope.kind = .function) (G : GoesG w loose mean mg mb ((L + 1 + 1 + 1 + 1 + 1 + 1 + 1, oc7) :: (L + 1 + 1 + 1 + 1 + 1 + 1, oc6) :: (L + 1 + 1 + 1 + 1 + 1, oc5) :: (L + 1 + 1 + 1 + 1, oc4) :: (L + 1 + 1 + 1, oc3) :: (L + 1 + 1, oc2) :: (L + 1, oc1) :: news) f ⟨vs, []⟩ d u (fun new v => ∃ z, v = .ref z ∧ MatAt w (new ++ ((L + 1 + 1 + 1 + 1 + 1 + 1 + 1, oc7) :: (L + 1 + 1 + 1 + 1 + 1 + 1, oc6) :: (L + 1 + 1 + 1 + 1 + 1, oc5) :: (L + 1 + 1 + 1 + 1, oc4) :: (L + 1 + 1 + 1, oc3) :: (L + 1 + 1, oc2) :: (L + 1, oc1) :: news)) md rg z r c g)) (hd : dp + d < recursionLimit) (hu : un + u < cLine)
    (ret : ∀ z led h' tk' gs' p1 p2 p3, (∀ p ∈ news, p ∈ led) → MatAt w led md rg z r c g → IsTab p1 → IsTab p2 → IsTab p3 → Fr h₀ L h' m → AllBare gs' → News h₀ L h' ((142, p1) :: (178, p2) :: (225, p3) :: (L + 1 + 1 + 1 + 1 + 1 + 1 + 1, oc7) :: (L + 1 + 1 + 1 + 1 + 1 + 1, oc6) :: (L + 1 + 1 + 1 + 1 + 1, oc5) :: (L + 1 + 1 + 1 + 1, oc4) :: (L + 1 + 1 + 1, oc3) :: (L + 1 + 1, oc2) :: (L + 1, oc1) :: led) → (∀ p ∈ led, p.1 ≠ 142) → (∀ p ∈ led, p.1 ≠ 178) → (∀ p ∈ led, p.1 ≠ 225) → (∀ p ∈ led, p.1 ≠ L + 1) → (∀ p ∈ led, p.1 ≠ L + 1 + 1 + 1 + 1 + 1) → (∀ p ∈ led, p.1 ≠ L + 1 + 1 + 1 + 1 + 1 + 1) → (∀ p ∈ led, p.1 ≠ L + 1 + 1 + 1 + 1 + 1 + 1 + 1) → Q (.ref z) { s with heap := h', toks := tk', gens := gs' }) :
    wpAny (model PySem.Challenge.pw_ay0011_01 w) (gTop dp un gd env outer) (call (.ref f) vs) Q E s :=
  useGoesG B F X N hs t1 t2 t3 (cellsNe (c142of hL) n1) (cellsNe (c178of hL) n2) (cellsNe (c225of hL) n3) bare T hf hk G hd hu fun r new h' tk' gs' p1 p2 p3 tp1 tp2 tp3 F9 N9 A9 bare9 ⟨z, ez, hz⟩ => by
    subst ez
    exact ret z (new ++ news) h' tk' gs' p1 p2 p3 (by lcg_sub) (hz.strip (cellsOut d1 d2 d3 d4 d5 d6 d7)) tp1 tp2 tp3 F9 bare9 (newsSub N9 (by lcg_sub)) (offNew A9 (by k_mem) n1) (offNew A9 (by k_mem) n2) (offNew A9 (by k_mem) n3) (offNew A9 (by k_mem) k1) (offNew A9 (by k_mem) k5) (offNew A9 (by k_mem) k6) (offNew A9 (by k_mem) k7)
theorem callMatC {w : World} {loose : List Str} {mean : ExcName → Option Value} {mg mb : Str → Option Value} {all news : Led} {f : Addr} {vs : List Value} {d u : Nat} {o1 o2 o3 oc1 oc2 oc3 oc4 oc5 oc6 oc7 : Obj} {v1 v2 v3 v4 v5 v6 v7 : Option Value} {md rg : Addr} {r c : Nat} {g : Nat → Nat → List Int}
    {dp un : Nat} {gd : Option (List Code)} {env : Env} {outer : List Env} {A₀ : Around} {base h₀ : Heap} {L : Addr} {m : Str → Option Value} {s : Shared} {R : Result → Shared → Prop}
    (B : Below A₀ base outer h₀) (F : Fr h₀ L s.heap m) (X : (hd.heap_1 w.params).In h₀) (N : News h₀ L s.heap all) (hs : ∀ p ∈ (142, o1) :: (178, o2) :: (225, o3) :: (L + 1 + 1 + 1 + 1 + 1 + 1 + 1, oc7) :: (L + 1 + 1 + 1 + 1 + 1 + 1, oc6) :: (L + 1 + 1 + 1 + 1 + 1, oc5) :: (L + 1 + 1 + 1 + 1, oc4) :: (L + 1 + 1 + 1, oc3) :: (L + 1 + 1, oc2) :: (L + 1, oc1) :: news, p ∈ all) (t1 : IsTab o1) (t2 : IsTab o2) (t3 : IsTab o3) (hL : 225 < L)
    (d1 : oc1.data = .cell v1) (d2 : oc2.data = .cell v2) (d3 : oc3.data = .cell v3) (d4 : oc4.data = .cell v4) (d5 : oc5.data = .cell v5) (d6 : oc6.data = .cell v6) (d7 : oc7.data = .cell v7)
    (n1 : ∀ p ∈ news, p.1 ≠ 142) (n2 : ∀ p ∈ news, p.1 ≠ 178) (n3 : ∀ p ∈ news, p.1 ≠ 225) (k1 : ∀ p ∈ news, p.1 ≠ L + 1) (k5 : ∀ p ∈ news, p.1 ≠ L + 1 + 1 + 1 + 1 + 1) (k6 : ∀ p ∈ news, p.1 ≠ L + 1 + 1 + 1 + 1 + 1 + 1) (k7 : ∀ p ∈ news, p.1 ≠ L + 1 + 1 + 1 + 1 + 1 + 1 + 1)
    (bare : AllBare s.gens) (T : Top topProg loose mean mg mb h₀) (hf : env.frame = some L) (hk : env.scope.kind = .function) (G : GoesG w loose mean mg mb ((L + 1 + 1 + 1 + 1 + 1 + 1 + 1, oc7) :: (L + 1 + 1 + 1 + 1 + 1 + 1, oc6) :: (L + 1 + 1 + 1 + 1 + 1, oc5) :: (L + 1 + 1 + 1 + 1, oc4) :: (L + 1 + 1 + 1, oc3) :: (L + 1 + 1, oc2) :: (L + 1, oc1) :: news) f ⟨vs, []⟩ d u (fun new v => ∃ z, v = .ref z ∧ MatAt w (new ++ ((L + 1 + 1 + 1 + 1 + 1 + 1 + 1, oc7) :: (L + 1 + 1 + 1 + 1 + 1 + 1, oc6) :: (L + 1 + 1 + 1 + 1 + 1, oc5) :: (L + 1 + 1 + 1 + 1, oc4) :: (L + 1 + 1 + 1, oc3) :: (L + 1 + 1, oc2) :: (L + 1, oc1) :: news)) md rg z r c g)) (hd : dp + d < recursionLimit) (hu : un + u < cLine)
    (ret : ∀ z led h' tk' gs' p1 p2 p3, (∀ p ∈ news, p ∈ led) → MatAt w led md rg z r c g → IsTab p1 → IsTab p2 → IsTab p3 → Fr h₀ L h' m → AllBare gs' → News h₀ L h' ((142, p1) :: (178, p2) :: (225, p3) :: (L + 1 + 1 + 1 + 1 + 1 + 1 + 1, oc7) :: (L + 1 + 1 + 1 + 1 + 1 + 1, oc6) :: (L + 1 + 1 + 1 + 1 + 1, oc5) :: (L + 1 + 1 + 1 + 1, oc4) :: (L + 1 + 1 + 1, oc3) :: (L + 1 + 1, oc2) :: (L + 1, oc1) :: led) → (∀ p ∈ led, p.1 ≠ 142) → (∀ p ∈ led, p.1 ≠ 178) → (∀ p ∈ led, p.1 ≠ 225) → (∀ p ∈ led, p.1 ≠ L + 1) → (∀ p ∈ led, p.1 ≠ L + 1 + 1 + 1 + 1 + 1) → (∀ p ∈ led, p.1 ≠ L + 1 + 1 + 1 + 1 + 1 + 1) → (∀ p ∈ led, p.1 ≠ L + 1 + 1 + 1 + 1 + 1 + 1 + 1) → R (.ok (.ret (.ref z))) { s with heap := h', toks := tk', gens := gs' }) :
    codeAny (model PySem.Challenge.pw_ay0011_01 w) (gTop dp un gd env outer) (.call (.ref f) ⟨vs, []⟩) R s :=
  useGoesGC B F X N hs t1 t2 t3 (cellsNe (c142of hL) n1) (cellsNe (c178of hL) n2) (cellsNe (c225of hL) n3) bare T hf hk G hd hu fun r new h' tk' gs' p1 p2 p3 tp1 tp2 tp3 F9 N9 A9 bare9 ⟨z, ez, hz⟩ => by
    subst ez
    exact ret z (new ++ news) h' tk' gs' p1 p2 p3 (by lcg_sub) (hz.strip (cellsOut d1 d2 d3 d4 d5 d6 d7)) tp1 tp2 tp3 F9 bare9 (newsSub N9 (by lcg_sub)) (offNew A9 (by k_mem) n1) (offNew A9 (by k_mem) n2) (offNew A9 (by k_mem) n3) (offNew A9 (by k_mem) k1) (offNew A9 (by k_mem) k5) (offNew A9 (by k_mem) k6) (offNew A9 (by k_mem) k7)
theorem callPool {w : World} {loose : List Str} {mean : ExcName → Option Value} {mg mb : Str → Option Value} {all news : Led} {f : Addr} {vs : List Value} {d u : Nat} {o1 o2 o3 oc1 oc2 oc3 oc4 oc5 oc6 oc7 : Obj} {v1 v2 v3 v4 v5 v6 v7 : Option Value} {md rg : Addr} {r c : Nat} {g : Nat → Nat → List Int} {pl : Addr} {ps : List Int} {used : Nat} {vl : List Value} {e : Nat}
    {dp un : Nat} {gd : Option (List Code)} {env : Env} {outer : List Env} {A₀ : Around} {base h₀ : Heap} {L : Addr} {m : Str → Option Value} {s : Shared} {Q E : Value → Shared → Prop}
    (B : Below A₀ base outer h₀) (F : Fr h₀ L s.heap m) (X : (hd.heap_1 w.params).In h₀) (N : News h₀ L s.heap all) (hs : ∀ p ∈ (142, o1) :: (178, o2) :: (225, o3) :: (pl, lsO vl e) :: (L + 1 + 1 + 1 + 1 + 1 + 1 + 1, oc7) :: (L + 1 + 1 + 1 + 1 + 1 + 1, oc6) :: (L + 1 + 1 + 1 + 1 + 1, oc5) :: (L + 1 + 1 + 1 + 1, oc4) :: (L + 1 + 1 + 1, oc3) :: (L + 1 + 1, oc2) :: (L + 1, oc1) :: news, p ∈ all) (t1 : IsTab o1) (t2 : IsTab o2) (t3 : IsTab o3) (hI : IntsAre vl ps) (hL : 225 < L)
    (d1 : oc1.data = .cell v1) (d2 : oc2.data = .cell v2) (d3 : oc3.data = .cell v3) (d4 : oc4.data = .cell v4) (d5 : oc5.data = .cell v5) (d6 : oc6.data = .cell v6) (d7 : oc7.data = .cell v7)
    (n1 : ∀ p ∈ news, p.1 ≠ 142) (n2 : ∀ p ∈ news, p.1 ≠ 178) (n3 : ∀ p ∈ news, p.1 ≠ 225) (k1 : ∀ p ∈ news, p.1 ≠ L + 1) (k5 : ∀ p ∈ news, p.1 ≠ L + 1 + 1 + 1 + 1 + 1) (k6 : ∀ p ∈ news, p.1 ≠ L + 1 + 1 + 1 + 1 + 1 + 1) (k7 : ∀ p ∈ news, p.1 ≠ L + 1 + 1 + 1 + 1 + 1 + 1 + 1) (np : ∀ p ∈ news, p.1 ≠ pl) (hpl : @LT.lt Nat _ (L + 1 + 1 + 1 + 1 + 1 + 1 + 1) pl)
    (bare : AllBare s.gens) (T : Top topProg loose mean mg mb h₀) (hf : env.frame = some L) (hk : env.scope.kind = .function) (G : GoesP w loose mean mg mb ((L + 1 + 1 + 1 + 1 + 1 + 1 + 1, oc7) :: (L + 1 + 1 + 1 + 1 + 1 + 1, oc6) :: (L + 1 + 1 + 1 + 1 + 1, oc5) :: (L + 1 + 1 + 1 + 1, oc4) :: (L + 1 + 1 + 1, oc3) :: (L + 1 + 1, oc2) :: (L + 1, oc1) :: news) pl ps used f ⟨vs, []⟩ d u (fun new v => ∃ z, v = .ref z ∧ MatAt w (new ++ ((L + 1 + 1 + 1 + 1 + 1 + 1 + 1, oc7) :: (L + 1 + 1 + 1 + 1 + 1 + 1, oc6) :: (L + 1 + 1 + 1 + 1 + 1, oc5) :: (L + 1 + 1 + 1 + 1, oc4) :: (L + 1 + 1 + 1, oc3) :: (L + 1 + 1, oc2) :: (L + 1, oc1) :: news)) md rg z r c g)) (hd : dp + d < recursionLimit) (hu : un + u < cLine)
    (ret : ∀ z led h' tk' gs' p1 p2 p3 vs' e', (∀ p ∈ news, p ∈ led) → MatAt w led md rg z r c g → IsTab p1 → IsTab p2 → IsTab p3 → IntsAre vs' (ps.drop used) → Fr h₀ L h' m → AllBare gs' → News h₀ L h' ((142, p1) :: (178, p2) :: (225, p3) :: (pl, lsO vs' e') :: (L + 1 + 1 + 1 + 1 + 1 + 1 + 1, oc7) :: (L + 1 + 1 + 1 + 1 + 1 + 1, oc6) :: (L + 1 + 1 + 1 + 1 + 1, oc5) :: (L + 1 + 1 + 1 + 1, oc4) :: (L + 1 + 1 + 1, oc3) :: (L + 1 + 1, oc2) :: (L + 1, oc1) :: led) → (∀ p ∈ led, p.1 ≠ 142) → (∀ p ∈ led, p.1 ≠ 178) → (∀ p ∈ led, p.1 ≠ 225) → (∀ p ∈ led, p.1 ≠ L + 1) → (∀ p ∈ led, p.1 ≠ L + 1 + 1 + 1 + 1 + 1) → (∀ p ∈ led, p.1 ≠ L + 1 + 1 + 1 + 1 + 1 + 1) → (∀ p ∈ led, p.1 ≠ L + 1 + 1 + 1 + 1 + 1 + 1 + 1) → (∀ p ∈ led, p.1 ≠ pl) → Q (.ref z) { s with heap := h', toks := tk', gens := gs' }) :
    wpAny (model PySem.Challenge.pw_ay0011_01 w) (gTop dp un gd env outer) (call (.ref f) vs) Q E s :=
  useGoesP B F X N hs t1 t2 t3 hI (cellsNe (c142of hL) n1) (cellsNe (c178of hL) n2) (cellsNe (c225of hL) n3) (cellsNe (.inr hpl) np) (plNe hL hpl (by decide)) (plNe hL hpl (by decide)) (plNe hL hpl (by decide)) bare T hf hk G hd hu fun r new h' tk' gs' p1 p2 p3 vs' e' tp1 tp2 tp3 hI' F9 N9 A9 bare9 ⟨z, ez, hz⟩ => by
    subst ez
    exact ret z (new ++ news) h' tk' gs' p1 p2 p3 vs' e' (by lcg_sub) (hz.strip (cellsOut d1 d2 d3 d4 d5 d6 d7)) tp1 tp2 tp3 hI' F9 bare9 (newsSub N9 (by lcg_sub)) (offNew A9 (by k_mem) n1) (offNew A9 (by k_mem) n2) (offNew A9 (by k_mem) n3) (offNew A9 (by k_mem) k1) (offNew A9 (by k_mem) k5) (offNew A9 (by k_mem) k6) (offNew A9 (by k_mem) k7) (offNew A9 (by k_mem) np)
/-- what the law reckons -/
def fProd (q : Int) (c : Nat) (f g : Nat → Nat → List Int) : Nat → Nat → List Int := fun i j => msum q (fun k => pmul q (f i k) (g k j)) c
def fAdd (q : Int) (f g : Nat → Nat → List Int) : Nat → Nat → List Int := fun i j => List.zipWith (fun a b => (a + b) % q) (f i j) (g i j)
def fSub (q : Int) (f g : Nat → Nat → List Int) : Nat → Nat → List Int := fun i j => List.zipWith (fun a b => (a - b) % q) (f i j) (g i j)
def fScale (q : Int) (cs : List Int) (f : Nat → Nat → List Int) : Nat → Nat → List Int := fun i j => pmul q cs (f i j)
def fWhole (q : Int) (c : Nat) (fA f1 f2 : Nat → Nat → List Int) : Nat → Nat → List Int := fAdd q (fProd q c fA f1) f2
def fLows (dep : Nat) (f : Nat → Nat → List Int) : Nat → List Int := fun i => (f i 0).map fun x => rmod x (2 ^ dep)
def fHighs (dep : Nat) (f : Nat → Nat → List Int) : Nat → List Int := fun i => List.zipWith (fun a b => a - b) (f i 0) (fLows dep f i)
def fAns (q : Int) (cs : List Int) (f1 fm : Nat → Nat → List Int) : Nat → Nat → List Int := fAdd q fm (fScale q cs f1)
def fTold (q : Int) (c : Nat) (cs : List Int) (fA f1 fm : Nat → Nat → List Int) (hi : Nat → List Int) : Nat → Nat → List Int := fSub q (fProd q c fA (fAns q cs f1 fm)) (fScale q cs (fun i _ => hi i))
def fRest (q : Int) (c : Nat) (cs : List Int) (fA f2 fm : Nat → Nat → List Int) : Nat → Nat → List Int := fSub q (fProd q c fA fm) (fScale q cs f2)
theorem Tame.len {f : Nat → Nat → List Int} {r c n : Nat} {b : Int} (h : Tame f r c n b) : ∀ i j, i < r → j < c → ((f i j).length : Int) = n := fun i j hi hj => by rw [(h i j hi hj).1]
theorem Tame.small {f : Nat → Nat → List Int} {r c n : Nat} {b : Int} (h : Tame f r c n b) (hb : b ≤ 2 ^ 40) : ∀ i j, i < r → j < c → Small (f i j) := fun i j hi hj x hx => by
  have := (h i j hi hj).2 x hx
  omega
theorem mod_in {q x : Int} (h0 : 0 < q) (h1 : q < 2 ^ 24) : -2 ^ 24 < x % q ∧ x % q < 2 ^ 24 := by
  have := Int.emod_nonneg x (show q ≠ 0 by omega)
  have := Int.emod_lt_of_pos x h0
  omega
theorem pmul_in {q x : Int} {as bs : List Int} (h0 : 0 < q) (h1 : q < 2 ^ 24) (hx : x ∈ pmul q as bs) : -2 ^ 24 < x ∧ x < 2 ^ 24 := by
  rw [← pmul_mod x hx]
  exact mod_in h0 h1
theorem pmul_len {q : Int} {as bs : List Int} {n : Nat} (hn : n = 2 ∨ n = 3) (ha : as.length = n) (hb : bs.length = n) : (pmul q as bs).length = n := by
  have := pmul_length (q := q) (n := (n : Int)) (as := as) (bs := bs) (by omega) (by omega) (by omega)
  omega
theorem zip_in {q x : Int} {g : Int → Int → Int} (h0 : 0 < q) (h1 : q < 2 ^ 24) : ∀ {as bs : List Int}, x ∈ List.zipWith (fun a b => g a b % q) as bs → -2 ^ 24 < x ∧ x < 2 ^ 24
  | [], _, h => by simp at h
  | _ :: _, [], h => by simp at h
  | a :: as, b :: bs, h => by
    rw [List.zipWith_cons_cons] at h
    rcases List.mem_cons.mp h with rfl | h
    · exact mod_in h0 h1
    · exact zip_in h0 h1 h
theorem tame_scale {q b : Int} {cs : List Int} {f : Nat → Nat → List Int} {r c n : Nat} (h0 : 0 < q) (h1 : q < 2 ^ 24) (hn : n = 2 ∨ n = 3) (hc : cs.length = n) (t : Tame f r c n b) : Tame (fScale q cs f) r c n (2 ^ 24) := fun i j hi hj => ⟨pmul_len hn hc (t i j hi hj).1, fun _ => pmul_in h0 h1⟩
theorem tame_add {q b b' : Int} {f g : Nat → Nat → List Int} {r c n : Nat} (h0 : 0 < q) (h1 : q < 2 ^ 24) (t : Tame f r c n b) (t' : Tame g r c n b') : Tame (fAdd q f g) r c n (2 ^ 24) := fun i j hi hj => ⟨by unfold fAdd; rw [List.length_zipWith, (t i j hi hj).1, (t' i j hi hj).1, Nat.min_self], fun _ hx => zip_in (g := fun a b => a + b) h0 h1 hx⟩
theorem tame_sub {q b b' : Int} {f g : Nat → Nat → List Int} {r c n : Nat} (h0 : 0 < q) (h1 : q < 2 ^ 24) (t : Tame f r c n b) (t' : Tame g r c n b') : Tame (fSub q f g) r c n (2 ^ 24) := fun i j hi hj => ⟨by unfold fSub; rw [List.length_zipWith, (t i j hi hj).1, (t' i j hi hj).1, Nat.min_self], fun _ hx => zip_in (g := fun a b => a - b) h0 h1 hx⟩
theorem msum_tame {q : Int} {p : Nat → List Int} {n : Nat} (h0 : 0 < q) (h1 : q < 2 ^ 24) : ∀ {c : Nat}, 0 < c → (∀ k, k < c → (p k).length = n ∧ ∀ x ∈ p k, -2 ^ 24 < x ∧ x < 2 ^ 24) → (msum q p c).length = n ∧ ∀ x ∈ msum q p c, -2 ^ 24 < x ∧ x < 2 ^ 24
  | 1, _, h => h 0 (by omega)
  | c + 2, _, h => by
    have a := msum_tame (c := c + 1) h0 h1 (by omega) fun k hk => h k (by omega)
    have b := h (c + 1) (by omega)
    exact ⟨by show (List.zipWith _ _ _).length = n; rw [List.length_zipWith, a.1, b.1, Nat.min_self], fun _ hx => zip_in (g := fun a b => a + b) h0 h1 hx⟩
theorem tame_prod {q b b' : Int} {f g : Nat → Nat → List Int} {r c l n : Nat} (h0 : 0 < q) (h1 : q < 2 ^ 24) (hn : n = 2 ∨ n = 3) (hc : 0 < c) (t : Tame f r c n b) (t' : Tame g c l n b') : Tame (fProd q c f g) r l n (2 ^ 24) := fun i j hi hj =>
  msum_tame h0 h1 hc fun k hk => ⟨pmul_len hn (t i k hi hk).1 (t' k j hk hj).1, fun _ => pmul_in h0 h1⟩
theorem rmod_in {x N : Int} (hN : 0 < N) : -N < rmod x N ∧ rmod x N < N := by
  have := Int.emod_nonneg x (show N ≠ 0 by omega)
  have := Int.emod_lt_of_pos x hN
  unfold rmod
  split <;> omega
theorem pow_in {dep : Nat} (h : dep ≤ 13) : (0 : Int) < 2 ^ dep ∧ (2 : Int) ^ dep ≤ 8192 :=
  (by decide +kernel : ∀ d : Fin 14, (0 : Int) < 2 ^ d.val ∧ (2 : Int) ^ d.val ≤ 8192) ⟨dep, Nat.lt_succ_of_le h⟩
theorem tame_lows {b : Int} {f : Nat → Nat → List Int} {r n dep : Nat} (hd : dep ≤ 13) (t : Tame f r 1 n b) : Tame (fun i _ => fLows dep f i) r 1 n (2 ^ 14) := fun i j hi hj => by
  refine ⟨by unfold fLows; rw [List.length_map, (t i 0 hi (by omega)).1], fun x hx => ?_⟩
  obtain ⟨y, _, rfl⟩ := List.mem_map.mp hx
  have := pow_in hd
  have := rmod_in (x := y) this.1
  omega
theorem tame_highs {f : Nat → Nat → List Int} {r n dep : Nat} (hd : dep ≤ 13) (t : Tame f r 1 n (2 ^ 24)) : Tame (fun i _ => fHighs dep f i) r 1 n (2 ^ 26) := fun i j hi hj => by
  have a := t i 0 hi (by omega)
  have l := tame_lows hd t i 0 hi (by omega)
  refine ⟨by unfold fHighs; rw [List.length_zipWith, a.1, l.1, Nat.min_self], fun x hx => ?_⟩
  obtain ⟨k, hk, rfl⟩ := List.mem_iff_getElem.mp hx
  simp only [fHighs, List.getElem_zipWith]
  have hk' : k < (f i 0).length ∧ k < (fLows dep f i).length := by simpa [fHighs, List.length_zipWith, Nat.lt_min] using hk
  have h1 := a.2 _ (List.getElem_mem hk'.1)
  have h2 := l.2 _ (List.getElem_mem hk'.2)
  omega
def absSum (cs : List Int) : Int := (cs.map fun x => (x.natAbs : Int)).sum
theorem absSum_in : ∀ {cs : List Int}, (∀ x ∈ cs, -1 ≤ x ∧ x ≤ 1) → 0 ≤ absSum cs ∧ absSum cs ≤ cs.length
  | [], _ => by simp [absSum]
  | a :: cs, h => by
    have h1 := absSum_in fun x hx => h x (List.mem_cons_of_mem _ hx)
    have h2 := h a List.mem_cons_self
    have e : absSum (a :: cs) = (a.natAbs : Int) + absSum cs := by simp [absSum]
    rw [e, List.length_cons]
    omega
def T0 (w : World) : Prop := LawTail 0 fun body scope => ∀ {loose : List Str} {mean : ExcName → Option Value} {mg mb : Str → Option Value} {dp un : Nat} {gd : Option (List Code)} {outer : List Env} {A₀ : Around} {base h₀ : Heap} {L fa : Addr} {cd : Value} {m : Str → Option Value} {s : Shared} {Q : Flow → Shared → Prop} {o1 o2 o3 oc1 oc2 oc3 oc4 oc5 oc6 oc7 : Obj} {x1 x2 x3 x4 x5 x6 x7 : Option Value} {sc : Addr} {vs : List Value} {ps : List Int},
  Below A₀ base outer h₀ → Fr h₀ L s.heap m → (hd.heap_1 w.params).In h₀ → Top topProg loose mean mg mb h₀ → dp + 100 < recursionLimit → un + 2000 < cLine → Ends h₀ L s Q → IsTab o1 → IsTab o2 → IsTab o3 → AllBare s.gens → @LT.lt Nat _ 225 L → News h₀ L s.heap ((142, o1) :: (178, o2) :: (225, o3) :: (L + 1 + 1 + 1 + 1 + 1 + 1 + 1, oc7) :: (L + 1 + 1 + 1 + 1 + 1 + 1, oc6) :: (L + 1 + 1 + 1 + 1 + 1, oc5) :: (L + 1 + 1 + 1 + 1, oc4) :: (L + 1 + 1 + 1, oc3) :: (L + 1 + 1, oc2) :: (L + 1, oc1) :: []) → oc1.data = .cell x1 → oc2.data = .cell x2 → oc3.data = .cell x3 → oc4.data = .cell x4 → oc5.data = .cell x5 → oc6.data = .cell x6 → oc7.data = .cell x7 → h₀.IsList sc vs.toArray → IntsAre vs ps → ps.length ≤ 63 → m (Str.ofString "script") = some (.ref sc) →
  wpAny (model PySem.Challenge.pw_ay0011_01 w) (gTop dp un gd (envOfC (Str.ofString "law") scope L fa cd) outer) (execs body (envOfC (Str.ofString "law") scope L fa cd)) Q (fun _ _ => False) s
def T1 (w : World) : Prop := LawTail 1 fun body scope => ∀ {loose : List Str} {mean : ExcName → Option Value} {mg mb : Str → Option Value} {dp un : Nat} {gd : Option (List Code)} {outer : List Env} {A₀ : Around} {base h₀ : Heap} {L fa : Addr} {cd : Value} {m : Str → Option Value} {s : Shared} {Q : Flow → Shared → Prop} {o1 o2 o3 oc1 oc2 oc3 oc4 oc5 oc6 oc7 : Obj} {pl : Addr} {vs : List Value} {e : Nat} {ps : List Int} {x1 x3 x4 x5 x6 x7 : Option Value},
  Below A₀ base outer h₀ → Fr h₀ L s.heap m → (hd.heap_1 w.params).In h₀ → Top topProg loose mean mg mb h₀ → dp + 100 < recursionLimit → un + 2000 < cLine → Ends h₀ L s Q → IsTab o1 → IsTab o2 → IsTab o3 → AllBare s.gens → @LT.lt Nat _ 225 L → News h₀ L s.heap ((142, o1) :: (178, o2) :: (225, o3) :: (pl, lsO vs e) :: (L + 1 + 1 + 1 + 1 + 1 + 1 + 1, oc7) :: (L + 1 + 1 + 1 + 1 + 1 + 1, oc6) :: (L + 1 + 1 + 1 + 1 + 1, oc5) :: (L + 1 + 1 + 1 + 1, oc4) :: (L + 1 + 1 + 1, oc3) :: (L + 1 + 1, oc2) :: (L + 1, oc1) :: []) → oc1.data = .cell x1 → oc2.data = .cell (some (.ref pl)) → oc3.data = .cell x3 → oc4.data = .cell x4 → oc5.data = .cell x5 → oc6.data = .cell x6 → oc7.data = .cell x7 → IntsAre vs ps → @LT.lt Nat _ (L + 1 + 1 + 1 + 1 + 1 + 1 + 1) pl → ps.length = 44 →
  wpAny (model PySem.Challenge.pw_ay0011_01 w) (gTop dp un gd (envOfC (Str.ofString "law") scope L fa cd) outer) (execs body (envOfC (Str.ofString "law") scope L fa cd)) Q (fun _ _ => False) s
def T5 (w : World) : Prop := LawTail 5 fun body scope => ∀ {loose : List Str} {mean : ExcName → Option Value} {mg mb : Str → Option Value} {dp un : Nat} {gd : Option (List Code)} {outer : List Env} {A₀ : Around} {base h₀ : Heap} {L fa : Addr} {cd : Value} {m : Str → Option Value} {s : Shared} {Q : Flow → Shared → Prop} {o1 o2 o3 oc1 oc2 oc3 oc4 oc5 oc6 oc7 : Obj} {pl : Addr} {vs : List Value} {e : Nat} {ps : List Int} {x1 x4 x5 x6 x7 : Option Value} {q a eta : Int} {dep : Nat} {tq ta te td : Tok},
  Below A₀ base outer h₀ → Fr h₀ L s.heap m → (hd.heap_1 w.params).In h₀ → Top topProg loose mean mg mb h₀ → dp + 100 < recursionLimit → un + 2000 < cLine → Ends h₀ L s Q → IsTab o1 → IsTab o2 → IsTab o3 → AllBare s.gens → @LT.lt Nat _ 225 L → News h₀ L s.heap ((142, o1) :: (178, o2) :: (225, o3) :: (pl, lsO vs e) :: (L + 1 + 1 + 1 + 1 + 1 + 1 + 1, oc7) :: (L + 1 + 1 + 1 + 1 + 1 + 1, oc6) :: (L + 1 + 1 + 1 + 1 + 1, oc5) :: (L + 1 + 1 + 1 + 1, oc4) :: (L + 1 + 1 + 1, oc3) :: (L + 1 + 1, oc2) :: (L + 1, oc1) :: []) → oc1.data = .cell x1 → oc2.data = .cell (some (.ref pl)) → oc3.data = .cell (some (.int (dep : Int) td)) → oc4.data = .cell x4 → oc5.data = .cell x5 → oc6.data = .cell x6 → oc7.data = .cell x7 → IntsAre vs ps → @LT.lt Nat _ (L + 1 + 1 + 1 + 1 + 1 + 1 + 1) pl → ps.length = 40 → m (Str.ofString "q") = some (.int q tq) → m (Str.ofString "step") = some (.int a ta) → m (Str.ofString "eta") = some (.int eta te) → Par q a eta dep →
  wpAny (model PySem.Challenge.pw_ay0011_01 w) (gTop dp un gd (envOfC (Str.ofString "law") scope L fa cd) outer) (execs body (envOfC (Str.ofString "law") scope L fa cd)) Q (fun _ _ => False) s
def T8 (w : World) : Prop := LawTail 8 fun body scope => ∀ {loose : List Str} {mean : ExcName → Option Value} {mg mb : Str → Option Value} {dp un : Nat} {gd : Option (List Code)} {outer : List Env} {A₀ : Around} {base h₀ : Heap} {L fa : Addr} {cd : Value} {m : Str → Option Value} {s : Shared} {Q : Flow → Shared → Prop} {o1 o2 o3 oc1 oc2 oc3 oc4 oc5 oc6 oc7 : Obj} {news : Led} {pl : Addr} {vs : List Value} {e : Nat} {ps : List Int} {x1 x5 x6 x7 : Option Value} {q a eta : Int} {dep : Nat} {tq ta te td : Tok} {sz rg md : Addr} {r c n : Nat} {tr tc : Tok} {es : Nat},
  Below A₀ base outer h₀ → Fr h₀ L s.heap m → (hd.heap_1 w.params).In h₀ → Top topProg loose mean mg mb h₀ → dp + 100 < recursionLimit → un + 2000 < cLine → Ends h₀ L s Q → IsTab o1 → IsTab o2 → IsTab o3 → AllBare s.gens → @LT.lt Nat _ 225 L → News h₀ L s.heap ((142, o1) :: (178, o2) :: (225, o3) :: (pl, lsO vs e) :: (L + 1 + 1 + 1 + 1 + 1 + 1 + 1, oc7) :: (L + 1 + 1 + 1 + 1 + 1 + 1, oc6) :: (L + 1 + 1 + 1 + 1 + 1, oc5) :: (L + 1 + 1 + 1 + 1, oc4) :: (L + 1 + 1 + 1, oc3) :: (L + 1 + 1, oc2) :: (L + 1, oc1) :: news) → oc1.data = .cell x1 → oc2.data = .cell (some (.ref pl)) → oc3.data = .cell (some (.int (dep : Int) td)) → oc4.data = .cell (some (.ref rg)) → oc5.data = .cell x5 → oc6.data = .cell x6 → oc7.data = .cell x7 → IntsAre vs ps → (∀ p ∈ news, p.1 ≠ 142) → (∀ p ∈ news, p.1 ≠ 178) → (∀ p ∈ news, p.1 ≠ 225) → (∀ p ∈ news, p.1 ≠ (L + 1)) → (∀ p ∈ news, p.1 ≠ (L + 1 + 1 + 1 + 1 + 1)) → (∀ p ∈ news, p.1 ≠ (L + 1 + 1 + 1 + 1 + 1 + 1)) → (∀ p ∈ news, p.1 ≠ (L + 1 + 1 + 1 + 1 + 1 + 1 + 1)) → (∀ p ∈ news, p.1 ≠ pl) → @LT.lt Nat _ (L + 1 + 1 + 1 + 1 + 1 + 1 + 1) pl → ps.length = 37 → m (Str.ofString "q") = some (.int q tq) → m (Str.ofString "step") = some (.int a ta) → m (Str.ofString "eta") = some (.int eta te) → Par q a eta dep → m (Str.ofString "sizes") = some (.ref sz) → (sz, lsO [.int (r : Int) tr, .int (c : Int) tc] es) ∈ news → r = 1 ∨ r = 2 → c = 1 ∨ c = 2 → n = 2 ∨ n = 3 → m (Str.ofString "module") = some (.ref md) → ModAt w news md rg → RingAt w news rg q n →
  wpAny (model PySem.Challenge.pw_ay0011_01 w) (gTop dp un gd (envOfC (Str.ofString "law") scope L fa cd) outer) (execs body (envOfC (Str.ofString "law") scope L fa cd)) Q (fun _ _ => False) s
def T12 (w : World) : Prop := LawTail 12 fun body scope => ∀ {loose : List Str} {mean : ExcName → Option Value} {mg mb : Str → Option Value} {dp un : Nat} {gd : Option (List Code)} {outer : List Env} {A₀ : Around} {base h₀ : Heap} {L fa : Addr} {cd : Value} {m : Str → Option Value} {s : Shared} {Q : Flow → Shared → Prop} {o1 o2 o3 oc1 oc2 oc3 oc4 oc5 oc6 oc7 : Obj} {news : Led} {pl : Addr} {vs : List Value} {e : Nat} {ps : List Int} {x1 x5 x6 x7 : Option Value} {q a eta : Int} {dep : Nat} {tq ta te td : Tok} {sz rg md : Addr} {r c n : Nat} {tr tc : Tok} {es : Nat} {xA x1' x2' xm : Addr} {fA f1 f2 fm : Nat → Nat → List Int},
  Below A₀ base outer h₀ → Fr h₀ L s.heap m → (hd.heap_1 w.params).In h₀ → Top topProg loose mean mg mb h₀ → dp + 100 < recursionLimit → un + 2000 < cLine → Ends h₀ L s Q → IsTab o1 → IsTab o2 → IsTab o3 → AllBare s.gens → @LT.lt Nat _ 225 L → News h₀ L s.heap ((142, o1) :: (178, o2) :: (225, o3) :: (pl, lsO vs e) :: (L + 1 + 1 + 1 + 1 + 1 + 1 + 1, oc7) :: (L + 1 + 1 + 1 + 1 + 1 + 1, oc6) :: (L + 1 + 1 + 1 + 1 + 1, oc5) :: (L + 1 + 1 + 1 + 1, oc4) :: (L + 1 + 1 + 1, oc3) :: (L + 1 + 1, oc2) :: (L + 1, oc1) :: news) → oc1.data = .cell x1 → oc2.data = .cell (some (.ref pl)) → oc3.data = .cell (some (.int (dep : Int) td)) → oc4.data = .cell (some (.ref rg)) → oc5.data = .cell x5 → oc6.data = .cell x6 → oc7.data = .cell x7 → IntsAre vs ps → (∀ p ∈ news, p.1 ≠ 142) → (∀ p ∈ news, p.1 ≠ 178) → (∀ p ∈ news, p.1 ≠ 225) → (∀ p ∈ news, p.1 ≠ (L + 1)) → (∀ p ∈ news, p.1 ≠ (L + 1 + 1 + 1 + 1 + 1)) → (∀ p ∈ news, p.1 ≠ (L + 1 + 1 + 1 + 1 + 1 + 1)) → (∀ p ∈ news, p.1 ≠ (L + 1 + 1 + 1 + 1 + 1 + 1 + 1)) → (∀ p ∈ news, p.1 ≠ pl) → @LT.lt Nat _ (L + 1 + 1 + 1 + 1 + 1 + 1 + 1) pl → 3 ≤ ps.length → ps.length < 2 ^ 20 → m (Str.ofString "q") = some (.int q tq) → m (Str.ofString "step") = some (.int a ta) → m (Str.ofString "eta") = some (.int eta te) → Par q a eta dep → m (Str.ofString "sizes") = some (.ref sz) → (sz, lsO [.int (r : Int) tr, .int (c : Int) tc] es) ∈ news → r = 1 ∨ r = 2 → c = 1 ∨ c = 2 → n = 2 ∨ n = 3 → m (Str.ofString "module") = some (.ref md) → ModAt w news md rg → RingAt w news rg q n → m (Str.ofString "matrix") = some (.ref xA) → MatAt w news md rg xA r c fA → m (Str.ofString "first") = some (.ref x1') → MatAt w news md rg x1' c 1 f1 → m (Str.ofString "second") = some (.ref x2') → MatAt w news md rg x2' r 1 f2 → m (Str.ofString "mask") = some (.ref xm) → MatAt w news md rg xm c 1 fm → Tame fA r c n (2 ^ 24) → Tame f1 c 1 n 8 → Tame f2 r 1 n 8 → (∀ i, i < r → ∀ x ∈ f2 i 0, -eta ≤ x ∧ x ≤ eta) → Tame fm c 1 n (2 ^ 24) →
  wpAny (model PySem.Challenge.pw_ay0011_01 w) (gTop dp un gd (envOfC (Str.ofString "law") scope L fa cd) outer) (execs body (envOfC (Str.ofString "law") scope L fa cd)) Q (fun _ _ => False) s
def T14 (w : World) : Prop := LawTail 14 fun body scope => ∀ {loose : List Str} {mean : ExcName → Option Value} {mg mb : Str → Option Value} {dp un : Nat} {gd : Option (List Code)} {outer : List Env} {A₀ : Around} {base h₀ : Heap} {L fa : Addr} {cd : Value} {m : Str → Option Value} {s : Shared} {Q : Flow → Shared → Prop} {o1 o2 o3 oc1 oc2 oc3 oc4 oc5 oc6 oc7 : Obj} {news : Led} {x1 x2 x5 x6 x7 : Option Value} {q a eta : Int} {dep : Nat} {tq ta te td : Tok} {sz rg md : Addr} {r c n : Nat} {tr tc : Tok} {es : Nat} {xA x1' x2' xm : Addr} {fA f1 f2 fm : Nat → Nat → List Int} {sg xc : Addr} {cs : List Int} {vsg : List Value} {eg : Nat},
  Below A₀ base outer h₀ → Fr h₀ L s.heap m → (hd.heap_1 w.params).In h₀ → Top topProg loose mean mg mb h₀ → dp + 100 < recursionLimit → un + 2000 < cLine → Ends h₀ L s Q → IsTab o1 → IsTab o2 → IsTab o3 → AllBare s.gens → @LT.lt Nat _ 225 L → News h₀ L s.heap ((142, o1) :: (178, o2) :: (225, o3) :: (L + 1 + 1 + 1 + 1 + 1 + 1 + 1, oc7) :: (L + 1 + 1 + 1 + 1 + 1 + 1, oc6) :: (L + 1 + 1 + 1 + 1 + 1, oc5) :: (L + 1 + 1 + 1 + 1, oc4) :: (L + 1 + 1 + 1, oc3) :: (L + 1 + 1, oc2) :: (L + 1, oc1) :: news) → oc1.data = .cell x1 → oc2.data = .cell x2 → oc3.data = .cell (some (.int (dep : Int) td)) → oc4.data = .cell (some (.ref rg)) → oc5.data = .cell x5 → oc6.data = .cell x6 → oc7.data = .cell x7 → (∀ p ∈ news, p.1 ≠ 142) → (∀ p ∈ news, p.1 ≠ 178) → (∀ p ∈ news, p.1 ≠ 225) → (∀ p ∈ news, p.1 ≠ (L + 1)) → (∀ p ∈ news, p.1 ≠ (L + 1 + 1 + 1 + 1 + 1)) → (∀ p ∈ news, p.1 ≠ (L + 1 + 1 + 1 + 1 + 1 + 1)) → (∀ p ∈ news, p.1 ≠ (L + 1 + 1 + 1 + 1 + 1 + 1 + 1)) → m (Str.ofString "q") = some (.int q tq) → m (Str.ofString "step") = some (.int a ta) → m (Str.ofString "eta") = some (.int eta te) → Par q a eta dep → m (Str.ofString "sizes") = some (.ref sz) → (sz, lsO [.int (r : Int) tr, .int (c : Int) tc] es) ∈ news → r = 1 ∨ r = 2 → c = 1 ∨ c = 2 → n = 2 ∨ n = 3 → m (Str.ofString "module") = some (.ref md) → ModAt w news md rg → RingAt w news rg q n → m (Str.ofString "matrix") = some (.ref xA) → MatAt w news md rg xA r c fA → m (Str.ofString "first") = some (.ref x1') → MatAt w news md rg x1' c 1 f1 → m (Str.ofString "second") = some (.ref x2') → MatAt w news md rg x2' r 1 f2 → m (Str.ofString "mask") = some (.ref xm) → MatAt w news md rg xm c 1 fm → Tame fA r c n (2 ^ 24) → Tame f1 c 1 n 8 → Tame f2 r 1 n 8 → (∀ i, i < r → ∀ x ∈ f2 i 0, -eta ≤ x ∧ x ≤ eta) → Tame fm c 1 n (2 ^ 24) → m (Str.ofString "signs") = some (.ref sg) → (sg, lsO vsg eg) ∈ news → IntsAre vsg cs → cs.length = n → (∀ x ∈ cs, -1 ≤ x ∧ x ≤ 1) → m (Str.ofString "challenge") = some (.ref xc) → PolyAt w news rg xc cs →
  wpAny (model PySem.Challenge.pw_ay0011_01 w) (gTop dp un gd (envOfC (Str.ofString "law") scope L fa cd) outer) (execs body (envOfC (Str.ofString "law") scope L fa cd)) Q (fun _ _ => False) s
def T15 (w : World) : Prop := LawTail 15 fun body scope => ∀ {loose : List Str} {mean : ExcName → Option Value} {mg mb : Str → Option Value} {dp un : Nat} {gd : Option (List Code)} {outer : List Env} {A₀ : Around} {base h₀ : Heap} {L fa : Addr} {cd : Value} {m : Str → Option Value} {s : Shared} {Q : Flow → Shared → Prop} {o1 o2 o3 oc1 oc2 oc3 oc4 oc5 oc6 oc7 : Obj} {news : Led} {x1 x2 x6 x7 : Option Value} {q a eta : Int} {dep : Nat} {tq ta te td : Tok} {sz rg md : Addr} {r c n : Nat} {tr tc : Tok} {es : Nat} {xA x1' x2' xm : Addr} {fA f1 f2 fm : Nat → Nat → List Int} {sg xc : Addr} {cs : List Int} {vsg : List Value} {eg : Nat} {xw : Addr},
  Below A₀ base outer h₀ → Fr h₀ L s.heap m → (hd.heap_1 w.params).In h₀ → Top topProg loose mean mg mb h₀ → dp + 100 < recursionLimit → un + 2000 < cLine → Ends h₀ L s Q → IsTab o1 → IsTab o2 → IsTab o3 → AllBare s.gens → @LT.lt Nat _ 225 L → News h₀ L s.heap ((142, o1) :: (178, o2) :: (225, o3) :: (L + 1 + 1 + 1 + 1 + 1 + 1 + 1, oc7) :: (L + 1 + 1 + 1 + 1 + 1 + 1, oc6) :: (L + 1 + 1 + 1 + 1 + 1, oc5) :: (L + 1 + 1 + 1 + 1, oc4) :: (L + 1 + 1 + 1, oc3) :: (L + 1 + 1, oc2) :: (L + 1, oc1) :: news) → oc1.data = .cell x1 → oc2.data = .cell x2 → oc3.data = .cell (some (.int (dep : Int) td)) → oc4.data = .cell (some (.ref rg)) → oc5.data = .cell (some (.ref xw)) → oc6.data = .cell x6 → oc7.data = .cell x7 → (∀ p ∈ news, p.1 ≠ 142) → (∀ p ∈ news, p.1 ≠ 178) → (∀ p ∈ news, p.1 ≠ 225) → (∀ p ∈ news, p.1 ≠ (L + 1)) → (∀ p ∈ news, p.1 ≠ (L + 1 + 1 + 1 + 1 + 1)) → (∀ p ∈ news, p.1 ≠ (L + 1 + 1 + 1 + 1 + 1 + 1)) → (∀ p ∈ news, p.1 ≠ (L + 1 + 1 + 1 + 1 + 1 + 1 + 1)) → m (Str.ofString "q") = some (.int q tq) → m (Str.ofString "step") = some (.int a ta) → m (Str.ofString "eta") = some (.int eta te) → Par q a eta dep → m (Str.ofString "sizes") = some (.ref sz) → (sz, lsO [.int (r : Int) tr, .int (c : Int) tc] es) ∈ news → r = 1 ∨ r = 2 → c = 1 ∨ c = 2 → n = 2 ∨ n = 3 → m (Str.ofString "module") = some (.ref md) → ModAt w news md rg → RingAt w news rg q n → m (Str.ofString "matrix") = some (.ref xA) → MatAt w news md rg xA r c fA → m (Str.ofString "first") = some (.ref x1') → MatAt w news md rg x1' c 1 f1 → m (Str.ofString "second") = some (.ref x2') → MatAt w news md rg x2' r 1 f2 → m (Str.ofString "mask") = some (.ref xm) → MatAt w news md rg xm c 1 fm → Tame fA r c n (2 ^ 24) → Tame f1 c 1 n 8 → Tame f2 r 1 n 8 → (∀ i, i < r → ∀ x ∈ f2 i 0, -eta ≤ x ∧ x ≤ eta) → Tame fm c 1 n (2 ^ 24) → m (Str.ofString "signs") = some (.ref sg) → (sg, lsO vsg eg) ∈ news → IntsAre vsg cs → cs.length = n → (∀ x ∈ cs, -1 ≤ x ∧ x ≤ 1) → m (Str.ofString "challenge") = some (.ref xc) → PolyAt w news rg xc cs → MatAt w news md rg xw r 1 (fWhole q c fA f1 f2) →
  wpAny (model PySem.Challenge.pw_ay0011_01 w) (gTop dp un gd (envOfC (Str.ofString "law") scope L fa cd) outer) (execs body (envOfC (Str.ofString "law") scope L fa cd)) Q (fun _ _ => False) s
def T16 (w : World) : Prop := LawTail 16 fun body scope => ∀ {loose : List Str} {mean : ExcName → Option Value} {mg mb : Str → Option Value} {dp un : Nat} {gd : Option (List Code)} {outer : List Env} {A₀ : Around} {base h₀ : Heap} {L fa : Addr} {cd : Value} {m : Str → Option Value} {s : Shared} {Q : Flow → Shared → Prop} {o1 o2 o3 oc1 oc2 oc3 oc4 oc5 oc6 oc7 : Obj} {news : Led} {x1 x2 x6 : Option Value} {q a eta : Int} {dep : Nat} {tq ta te td : Tok} {sz rg md : Addr} {r c n : Nat} {tr tc : Tok} {es : Nat} {xA x1' x2' xm : Addr} {fA f1 f2 fm : Nat → Nat → List Int} {sg xc : Addr} {cs : List Int} {vsg : List Value} {eg : Nat} {xw : Addr} {lw : Addr},
  Below A₀ base outer h₀ → Fr h₀ L s.heap m → (hd.heap_1 w.params).In h₀ → Top topProg loose mean mg mb h₀ → dp + 100 < recursionLimit → un + 2000 < cLine → Ends h₀ L s Q → IsTab o1 → IsTab o2 → IsTab o3 → AllBare s.gens → @LT.lt Nat _ 225 L → News h₀ L s.heap ((142, o1) :: (178, o2) :: (225, o3) :: (L + 1 + 1 + 1 + 1 + 1 + 1 + 1, oc7) :: (L + 1 + 1 + 1 + 1 + 1 + 1, oc6) :: (L + 1 + 1 + 1 + 1 + 1, oc5) :: (L + 1 + 1 + 1 + 1, oc4) :: (L + 1 + 1 + 1, oc3) :: (L + 1 + 1, oc2) :: (L + 1, oc1) :: news) → oc1.data = .cell x1 → oc2.data = .cell x2 → oc3.data = .cell (some (.int (dep : Int) td)) → oc4.data = .cell (some (.ref rg)) → oc5.data = .cell (some (.ref xw)) → oc6.data = .cell x6 → oc7.data = .cell (some (.ref lw)) → (∀ p ∈ news, p.1 ≠ 142) → (∀ p ∈ news, p.1 ≠ 178) → (∀ p ∈ news, p.1 ≠ 225) → (∀ p ∈ news, p.1 ≠ (L + 1)) → (∀ p ∈ news, p.1 ≠ (L + 1 + 1 + 1 + 1 + 1)) → (∀ p ∈ news, p.1 ≠ (L + 1 + 1 + 1 + 1 + 1 + 1)) → (∀ p ∈ news, p.1 ≠ (L + 1 + 1 + 1 + 1 + 1 + 1 + 1)) → m (Str.ofString "q") = some (.int q tq) → m (Str.ofString "step") = some (.int a ta) → m (Str.ofString "eta") = some (.int eta te) → Par q a eta dep → m (Str.ofString "sizes") = some (.ref sz) → (sz, lsO [.int (r : Int) tr, .int (c : Int) tc] es) ∈ news → r = 1 ∨ r = 2 → c = 1 ∨ c = 2 → n = 2 ∨ n = 3 → m (Str.ofString "module") = some (.ref md) → ModAt w news md rg → RingAt w news rg q n → m (Str.ofString "matrix") = some (.ref xA) → MatAt w news md rg xA r c fA → m (Str.ofString "first") = some (.ref x1') → MatAt w news md rg x1' c 1 f1 → m (Str.ofString "second") = some (.ref x2') → MatAt w news md rg x2' r 1 f2 → m (Str.ofString "mask") = some (.ref xm) → MatAt w news md rg xm c 1 fm → Tame fA r c n (2 ^ 24) → Tame f1 c 1 n 8 → Tame f2 r 1 n 8 → (∀ i, i < r → ∀ x ∈ f2 i 0, -eta ≤ x ∧ x ≤ eta) → Tame fm c 1 n (2 ^ 24) → m (Str.ofString "signs") = some (.ref sg) → (sg, lsO vsg eg) ∈ news → IntsAre vsg cs → cs.length = n → (∀ x ∈ cs, -1 ≤ x ∧ x ≤ 1) → m (Str.ofString "challenge") = some (.ref xc) → PolyAt w news rg xc cs → MatAt w news md rg xw r 1 (fWhole q c fA f1 f2) → IntRows news lw r (fLows dep (fWhole q c fA f1 f2)) →
  wpAny (model PySem.Challenge.pw_ay0011_01 w) (gTop dp un gd (envOfC (Str.ofString "law") scope L fa cd) outer) (execs body (envOfC (Str.ofString "law") scope L fa cd)) Q (fun _ _ => False) s
def T17 (w : World) : Prop := LawTail 17 fun body scope => ∀ {loose : List Str} {mean : ExcName → Option Value} {mg mb : Str → Option Value} {dp un : Nat} {gd : Option (List Code)} {outer : List Env} {A₀ : Around} {base h₀ : Heap} {L fa : Addr} {cd : Value} {m : Str → Option Value} {s : Shared} {Q : Flow → Shared → Prop} {o1 o2 o3 oc1 oc2 oc3 oc4 oc5 oc6 oc7 : Obj} {news : Led} {x1 x2 x5 x6 : Option Value} {q a eta : Int} {dep : Nat} {tq ta te td : Tok} {sz rg md : Addr} {r c n : Nat} {tr tc : Tok} {es : Nat} {xA x1' x2' xm : Addr} {fA f1 f2 fm : Nat → Nat → List Int} {sg xc : Addr} {cs : List Int} {vsg : List Value} {eg : Nat} {lw hg : Addr},
  Below A₀ base outer h₀ → Fr h₀ L s.heap m → (hd.heap_1 w.params).In h₀ → Top topProg loose mean mg mb h₀ → dp + 100 < recursionLimit → un + 2000 < cLine → Ends h₀ L s Q → IsTab o1 → IsTab o2 → IsTab o3 → AllBare s.gens → @LT.lt Nat _ 225 L → News h₀ L s.heap ((142, o1) :: (178, o2) :: (225, o3) :: (L + 1 + 1 + 1 + 1 + 1 + 1 + 1, oc7) :: (L + 1 + 1 + 1 + 1 + 1 + 1, oc6) :: (L + 1 + 1 + 1 + 1 + 1, oc5) :: (L + 1 + 1 + 1 + 1, oc4) :: (L + 1 + 1 + 1, oc3) :: (L + 1 + 1, oc2) :: (L + 1, oc1) :: news) → oc1.data = .cell x1 → oc2.data = .cell x2 → oc3.data = .cell (some (.int (dep : Int) td)) → oc4.data = .cell (some (.ref rg)) → oc5.data = .cell x5 → oc6.data = .cell x6 → oc7.data = .cell (some (.ref lw)) → (∀ p ∈ news, p.1 ≠ 142) → (∀ p ∈ news, p.1 ≠ 178) → (∀ p ∈ news, p.1 ≠ 225) → (∀ p ∈ news, p.1 ≠ (L + 1)) → (∀ p ∈ news, p.1 ≠ (L + 1 + 1 + 1 + 1 + 1)) → (∀ p ∈ news, p.1 ≠ (L + 1 + 1 + 1 + 1 + 1 + 1)) → (∀ p ∈ news, p.1 ≠ (L + 1 + 1 + 1 + 1 + 1 + 1 + 1)) → m (Str.ofString "q") = some (.int q tq) → m (Str.ofString "step") = some (.int a ta) → m (Str.ofString "eta") = some (.int eta te) → Par q a eta dep → m (Str.ofString "sizes") = some (.ref sz) → (sz, lsO [.int (r : Int) tr, .int (c : Int) tc] es) ∈ news → r = 1 ∨ r = 2 → c = 1 ∨ c = 2 → n = 2 ∨ n = 3 → m (Str.ofString "module") = some (.ref md) → ModAt w news md rg → RingAt w news rg q n → m (Str.ofString "matrix") = some (.ref xA) → MatAt w news md rg xA r c fA → m (Str.ofString "first") = some (.ref x1') → MatAt w news md rg x1' c 1 f1 → m (Str.ofString "second") = some (.ref x2') → MatAt w news md rg x2' r 1 f2 → m (Str.ofString "mask") = some (.ref xm) → MatAt w news md rg xm c 1 fm → Tame fA r c n (2 ^ 24) → Tame f1 c 1 n 8 → Tame f2 r 1 n 8 → (∀ i, i < r → ∀ x ∈ f2 i 0, -eta ≤ x ∧ x ≤ eta) → Tame fm c 1 n (2 ^ 24) → m (Str.ofString "signs") = some (.ref sg) → (sg, lsO vsg eg) ∈ news → IntsAre vsg cs → cs.length = n → (∀ x ∈ cs, -1 ≤ x ∧ x ≤ 1) → m (Str.ofString "challenge") = some (.ref xc) → PolyAt w news rg xc cs → IntRows news lw r (fLows dep (fWhole q c fA f1 f2)) → m (Str.ofString "highs") = some (.ref hg) → IntRows news hg r (fHighs dep (fWhole q c fA f1 f2)) →
  wpAny (model PySem.Challenge.pw_ay0011_01 w) (gTop dp un gd (envOfC (Str.ofString "law") scope L fa cd) outer) (execs body (envOfC (Str.ofString "law") scope L fa cd)) Q (fun _ _ => False) s
def T18 (w : World) : Prop := LawTail 18 fun body scope => ∀ {loose : List Str} {mean : ExcName → Option Value} {mg mb : Str → Option Value} {dp un : Nat} {gd : Option (List Code)} {outer : List Env} {A₀ : Around} {base h₀ : Heap} {L fa : Addr} {cd : Value} {m : Str → Option Value} {s : Shared} {Q : Flow → Shared → Prop} {o1 o2 o3 oc1 oc2 oc3 oc4 oc5 oc6 oc7 : Obj} {news : Led} {x1 x2 x5 x6 : Option Value} {q a eta : Int} {dep : Nat} {tq ta te td : Tok} {sz rg md : Addr} {r c n : Nat} {tr tc : Tok} {es : Nat} {xA x1' xm : Addr} {fA f1 f2 fm : Nat → Nat → List Int} {sg xc : Addr} {cs : List Int} {vsg : List Value} {eg : Nat} {lw hg : Addr} {yw ys : Addr},
  Below A₀ base outer h₀ → Fr h₀ L s.heap m → (hd.heap_1 w.params).In h₀ → Top topProg loose mean mg mb h₀ → dp + 100 < recursionLimit → un + 2000 < cLine → Ends h₀ L s Q → IsTab o1 → IsTab o2 → IsTab o3 → AllBare s.gens → @LT.lt Nat _ 225 L → News h₀ L s.heap ((142, o1) :: (178, o2) :: (225, o3) :: (L + 1 + 1 + 1 + 1 + 1 + 1 + 1, oc7) :: (L + 1 + 1 + 1 + 1 + 1 + 1, oc6) :: (L + 1 + 1 + 1 + 1 + 1, oc5) :: (L + 1 + 1 + 1 + 1, oc4) :: (L + 1 + 1 + 1, oc3) :: (L + 1 + 1, oc2) :: (L + 1, oc1) :: news) → oc1.data = .cell x1 → oc2.data = .cell x2 → oc3.data = .cell (some (.int (dep : Int) td)) → oc4.data = .cell (some (.ref rg)) → oc5.data = .cell x5 → oc6.data = .cell x6 → oc7.data = .cell (some (.ref lw)) → (∀ p ∈ news, p.1 ≠ 142) → (∀ p ∈ news, p.1 ≠ 178) → (∀ p ∈ news, p.1 ≠ 225) → (∀ p ∈ news, p.1 ≠ (L + 1)) → (∀ p ∈ news, p.1 ≠ (L + 1 + 1 + 1 + 1 + 1)) → (∀ p ∈ news, p.1 ≠ (L + 1 + 1 + 1 + 1 + 1 + 1)) → (∀ p ∈ news, p.1 ≠ (L + 1 + 1 + 1 + 1 + 1 + 1 + 1)) → m (Str.ofString "q") = some (.int q tq) → m (Str.ofString "step") = some (.int a ta) → m (Str.ofString "eta") = some (.int eta te) → Par q a eta dep → m (Str.ofString "sizes") = some (.ref sz) → (sz, lsO [.int (r : Int) tr, .int (c : Int) tc] es) ∈ news → r = 1 ∨ r = 2 → c = 1 ∨ c = 2 → n = 2 ∨ n = 3 → m (Str.ofString "module") = some (.ref md) → ModAt w news md rg → RingAt w news rg q n → m (Str.ofString "matrix") = some (.ref xA) → MatAt w news md rg xA r c fA → m (Str.ofString "first") = some (.ref x1') → MatAt w news md rg x1' c 1 f1 → m (Str.ofString "mask") = some (.ref xm) → MatAt w news md rg xm c 1 fm → Tame fA r c n (2 ^ 24) → Tame f1 c 1 n 8 → Tame f2 r 1 n 8 → (∀ i, i < r → ∀ x ∈ f2 i 0, -eta ≤ x ∧ x ≤ eta) → Tame fm c 1 n (2 ^ 24) → m (Str.ofString "signs") = some (.ref sg) → (sg, lsO vsg eg) ∈ news → IntsAre vsg cs → cs.length = n → (∀ x ∈ cs, -1 ≤ x ∧ x ≤ 1) → m (Str.ofString "challenge") = some (.ref xc) → PolyAt w news rg xc cs → IntRows news lw r (fLows dep (fWhole q c fA f1 f2)) → m (Str.ofString "highs") = some (.ref hg) → IntRows news hg r (fHighs dep (fWhole q c fA f1 f2)) → m (Str.ofString "w") = some (.ref yw) → MatAt w news md rg yw r 1 (fProd q c fA fm) → m (Str.ofString "small") = some (.ref ys) → MatAt w news md rg ys r 1 (fScale q cs f2) →
  wpAny (model PySem.Challenge.pw_ay0011_01 w) (gTop dp un gd (envOfC (Str.ofString "law") scope L fa cd) outer) (execs body (envOfC (Str.ofString "law") scope L fa cd)) Q (fun _ _ => False) s
def T19 (w : World) : Prop := LawTail 19 fun body scope => ∀ {loose : List Str} {mean : ExcName → Option Value} {mg mb : Str → Option Value} {dp un : Nat} {gd : Option (List Code)} {outer : List Env} {A₀ : Around} {base h₀ : Heap} {L fa : Addr} {cd : Value} {m : Str → Option Value} {s : Shared} {Q : Flow → Shared → Prop} {o1 o2 o3 oc1 oc2 oc3 oc4 oc5 oc6 oc7 : Obj} {news : Led} {x1 x2 x5 x6 x7 : Option Value} {q a eta : Int} {dep : Nat} {tq ta te td : Tok} {sz rg md : Addr} {r c n : Nat} {tr tc : Tok} {es : Nat} {xA x1' xm : Addr} {fA f1 f2 fm : Nat → Nat → List Int} {sg xc : Addr} {cs : List Int} {vsg : List Value} {eg : Nat} {hg : Addr} {yw ys : Addr} {yl : Addr},
  Below A₀ base outer h₀ → Fr h₀ L s.heap m → (hd.heap_1 w.params).In h₀ → Top topProg loose mean mg mb h₀ → dp + 100 < recursionLimit → un + 2000 < cLine → Ends h₀ L s Q → IsTab o1 → IsTab o2 → IsTab o3 → AllBare s.gens → @LT.lt Nat _ 225 L → News h₀ L s.heap ((142, o1) :: (178, o2) :: (225, o3) :: (L + 1 + 1 + 1 + 1 + 1 + 1 + 1, oc7) :: (L + 1 + 1 + 1 + 1 + 1 + 1, oc6) :: (L + 1 + 1 + 1 + 1 + 1, oc5) :: (L + 1 + 1 + 1 + 1, oc4) :: (L + 1 + 1 + 1, oc3) :: (L + 1 + 1, oc2) :: (L + 1, oc1) :: news) → oc1.data = .cell x1 → oc2.data = .cell x2 → oc3.data = .cell (some (.int (dep : Int) td)) → oc4.data = .cell (some (.ref rg)) → oc5.data = .cell x5 → oc6.data = .cell x6 → oc7.data = .cell x7 → (∀ p ∈ news, p.1 ≠ 142) → (∀ p ∈ news, p.1 ≠ 178) → (∀ p ∈ news, p.1 ≠ 225) → (∀ p ∈ news, p.1 ≠ (L + 1)) → (∀ p ∈ news, p.1 ≠ (L + 1 + 1 + 1 + 1 + 1)) → (∀ p ∈ news, p.1 ≠ (L + 1 + 1 + 1 + 1 + 1 + 1)) → (∀ p ∈ news, p.1 ≠ (L + 1 + 1 + 1 + 1 + 1 + 1 + 1)) → m (Str.ofString "q") = some (.int q tq) → m (Str.ofString "step") = some (.int a ta) → m (Str.ofString "eta") = some (.int eta te) → Par q a eta dep → m (Str.ofString "sizes") = some (.ref sz) → (sz, lsO [.int (r : Int) tr, .int (c : Int) tc] es) ∈ news → r = 1 ∨ r = 2 → c = 1 ∨ c = 2 → n = 2 ∨ n = 3 → m (Str.ofString "module") = some (.ref md) → ModAt w news md rg → RingAt w news rg q n → m (Str.ofString "matrix") = some (.ref xA) → MatAt w news md rg xA r c fA → m (Str.ofString "first") = some (.ref x1') → MatAt w news md rg x1' c 1 f1 → m (Str.ofString "mask") = some (.ref xm) → MatAt w news md rg xm c 1 fm → Tame fA r c n (2 ^ 24) → Tame f1 c 1 n 8 → Tame f2 r 1 n 8 → (∀ i, i < r → ∀ x ∈ f2 i 0, -eta ≤ x ∧ x ≤ eta) → Tame fm c 1 n (2 ^ 24) → m (Str.ofString "signs") = some (.ref sg) → (sg, lsO vsg eg) ∈ news → IntsAre vsg cs → cs.length = n → (∀ x ∈ cs, -1 ≤ x ∧ x ≤ 1) → m (Str.ofString "challenge") = some (.ref xc) → PolyAt w news rg xc cs → m (Str.ofString "highs") = some (.ref hg) → IntRows news hg r (fHighs dep (fWhole q c fA f1 f2)) → m (Str.ofString "w") = some (.ref yw) → MatAt w news md rg yw r 1 (fProd q c fA fm) → m (Str.ofString "small") = some (.ref ys) → MatAt w news md rg ys r 1 (fScale q cs f2) → m (Str.ofString "low") = some (.ref yl) → MatAt w news md rg yl r 1 (fScale q cs (fun i _ => fLows dep (fWhole q c fA f1 f2) i)) →
  wpAny (model PySem.Challenge.pw_ay0011_01 w) (gTop dp un gd (envOfC (Str.ofString "law") scope L fa cd) outer) (execs body (envOfC (Str.ofString "law") scope L fa cd)) Q (fun _ _ => False) s
def T20 (w : World) : Prop := LawTail 20 fun body scope => ∀ {loose : List Str} {mean : ExcName → Option Value} {mg mb : Str → Option Value} {dp un : Nat} {gd : Option (List Code)} {outer : List Env} {A₀ : Around} {base h₀ : Heap} {L fa : Addr} {cd : Value} {m : Str → Option Value} {s : Shared} {Q : Flow → Shared → Prop} {o1 o2 o3 oc1 oc2 oc3 oc4 oc5 oc6 oc7 : Obj} {news : Led} {x1 x2 x5 x6 x7 : Option Value} {q a eta : Int} {dep : Nat} {tq ta te td : Tok} {sz rg md : Addr} {r c n : Nat} {tr tc : Tok} {es : Nat} {xA : Addr} {fA f1 f2 fm : Nat → Nat → List Int} {sg xc : Addr} {cs : List Int} {vsg : List Value} {eg : Nat} {hg : Addr} {yw ys : Addr} {yl : Addr} {ya : Addr},
  Below A₀ base outer h₀ → Fr h₀ L s.heap m → (hd.heap_1 w.params).In h₀ → Top topProg loose mean mg mb h₀ → dp + 100 < recursionLimit → un + 2000 < cLine → Ends h₀ L s Q → IsTab o1 → IsTab o2 → IsTab o3 → AllBare s.gens → @LT.lt Nat _ 225 L → News h₀ L s.heap ((142, o1) :: (178, o2) :: (225, o3) :: (L + 1 + 1 + 1 + 1 + 1 + 1 + 1, oc7) :: (L + 1 + 1 + 1 + 1 + 1 + 1, oc6) :: (L + 1 + 1 + 1 + 1 + 1, oc5) :: (L + 1 + 1 + 1 + 1, oc4) :: (L + 1 + 1 + 1, oc3) :: (L + 1 + 1, oc2) :: (L + 1, oc1) :: news) → oc1.data = .cell x1 → oc2.data = .cell x2 → oc3.data = .cell (some (.int (dep : Int) td)) → oc4.data = .cell (some (.ref rg)) → oc5.data = .cell x5 → oc6.data = .cell x6 → oc7.data = .cell x7 → (∀ p ∈ news, p.1 ≠ 142) → (∀ p ∈ news, p.1 ≠ 178) → (∀ p ∈ news, p.1 ≠ 225) → (∀ p ∈ news, p.1 ≠ (L + 1)) → (∀ p ∈ news, p.1 ≠ (L + 1 + 1 + 1 + 1 + 1)) → (∀ p ∈ news, p.1 ≠ (L + 1 + 1 + 1 + 1 + 1 + 1)) → (∀ p ∈ news, p.1 ≠ (L + 1 + 1 + 1 + 1 + 1 + 1 + 1)) → m (Str.ofString "q") = some (.int q tq) → m (Str.ofString "step") = some (.int a ta) → m (Str.ofString "eta") = some (.int eta te) → Par q a eta dep → m (Str.ofString "sizes") = some (.ref sz) → (sz, lsO [.int (r : Int) tr, .int (c : Int) tc] es) ∈ news → r = 1 ∨ r = 2 → c = 1 ∨ c = 2 → n = 2 ∨ n = 3 → m (Str.ofString "module") = some (.ref md) → ModAt w news md rg → RingAt w news rg q n → m (Str.ofString "matrix") = some (.ref xA) → MatAt w news md rg xA r c fA → Tame fA r c n (2 ^ 24) → Tame f1 c 1 n 8 → Tame f2 r 1 n 8 → (∀ i, i < r → ∀ x ∈ f2 i 0, -eta ≤ x ∧ x ≤ eta) → Tame fm c 1 n (2 ^ 24) → m (Str.ofString "signs") = some (.ref sg) → (sg, lsO vsg eg) ∈ news → IntsAre vsg cs → cs.length = n → (∀ x ∈ cs, -1 ≤ x ∧ x ≤ 1) → m (Str.ofString "challenge") = some (.ref xc) → PolyAt w news rg xc cs → m (Str.ofString "highs") = some (.ref hg) → IntRows news hg r (fHighs dep (fWhole q c fA f1 f2)) → m (Str.ofString "w") = some (.ref yw) → MatAt w news md rg yw r 1 (fProd q c fA fm) → m (Str.ofString "small") = some (.ref ys) → MatAt w news md rg ys r 1 (fScale q cs f2) → m (Str.ofString "low") = some (.ref yl) → MatAt w news md rg yl r 1 (fScale q cs (fun i _ => fLows dep (fWhole q c fA f1 f2) i)) → m (Str.ofString "answer") = some (.ref ya) → MatAt w news md rg ya c 1 (fAns q cs f1 fm) →
  wpAny (model PySem.Challenge.pw_ay0011_01 w) (gTop dp un gd (envOfC (Str.ofString "law") scope L fa cd) outer) (execs body (envOfC (Str.ofString "law") scope L fa cd)) Q (fun _ _ => False) s
def T21 (w : World) : Prop := LawTail 21 fun body scope => ∀ {loose : List Str} {mean : ExcName → Option Value} {mg mb : Str → Option Value} {dp un : Nat} {gd : Option (List Code)} {outer : List Env} {A₀ : Around} {base h₀ : Heap} {L fa : Addr} {cd : Value} {m : Str → Option Value} {s : Shared} {Q : Flow → Shared → Prop} {o1 o2 o3 oc1 oc2 oc3 oc4 oc5 oc6 oc7 : Obj} {news : Led} {x1 x2 x5 x6 x7 : Option Value} {q a eta : Int} {dep : Nat} {tq ta te td : Tok} {sz rg md : Addr} {r c n : Nat} {tr tc : Tok} {es : Nat} {fA f1 f2 fm : Nat → Nat → List Int} {sg : Addr} {cs : List Int} {vsg : List Value} {eg : Nat} {yw ys : Addr} {yl : Addr} {yt : Addr},
  Below A₀ base outer h₀ → Fr h₀ L s.heap m → (hd.heap_1 w.params).In h₀ → Top topProg loose mean mg mb h₀ → dp + 100 < recursionLimit → un + 2000 < cLine → Ends h₀ L s Q → IsTab o1 → IsTab o2 → IsTab o3 → AllBare s.gens → @LT.lt Nat _ 225 L → News h₀ L s.heap ((142, o1) :: (178, o2) :: (225, o3) :: (L + 1 + 1 + 1 + 1 + 1 + 1 + 1, oc7) :: (L + 1 + 1 + 1 + 1 + 1 + 1, oc6) :: (L + 1 + 1 + 1 + 1 + 1, oc5) :: (L + 1 + 1 + 1 + 1, oc4) :: (L + 1 + 1 + 1, oc3) :: (L + 1 + 1, oc2) :: (L + 1, oc1) :: news) → oc1.data = .cell x1 → oc2.data = .cell x2 → oc3.data = .cell (some (.int (dep : Int) td)) → oc4.data = .cell (some (.ref rg)) → oc5.data = .cell x5 → oc6.data = .cell x6 → oc7.data = .cell x7 → (∀ p ∈ news, p.1 ≠ 142) → (∀ p ∈ news, p.1 ≠ 178) → (∀ p ∈ news, p.1 ≠ 225) → (∀ p ∈ news, p.1 ≠ (L + 1)) → (∀ p ∈ news, p.1 ≠ (L + 1 + 1 + 1 + 1 + 1)) → (∀ p ∈ news, p.1 ≠ (L + 1 + 1 + 1 + 1 + 1 + 1)) → (∀ p ∈ news, p.1 ≠ (L + 1 + 1 + 1 + 1 + 1 + 1 + 1)) → m (Str.ofString "q") = some (.int q tq) → m (Str.ofString "step") = some (.int a ta) → m (Str.ofString "eta") = some (.int eta te) → Par q a eta dep → m (Str.ofString "sizes") = some (.ref sz) → (sz, lsO [.int (r : Int) tr, .int (c : Int) tc] es) ∈ news → r = 1 ∨ r = 2 → c = 1 ∨ c = 2 → n = 2 ∨ n = 3 → m (Str.ofString "module") = some (.ref md) → ModAt w news md rg → RingAt w news rg q n → Tame fA r c n (2 ^ 24) → Tame f1 c 1 n 8 → Tame f2 r 1 n 8 → (∀ i, i < r → ∀ x ∈ f2 i 0, -eta ≤ x ∧ x ≤ eta) → Tame fm c 1 n (2 ^ 24) → m (Str.ofString "signs") = some (.ref sg) → (sg, lsO vsg eg) ∈ news → IntsAre vsg cs → cs.length = n → (∀ x ∈ cs, -1 ≤ x ∧ x ≤ 1) → m (Str.ofString "w") = some (.ref yw) → MatAt w news md rg yw r 1 (fProd q c fA fm) → m (Str.ofString "small") = some (.ref ys) → MatAt w news md rg ys r 1 (fScale q cs f2) → m (Str.ofString "low") = some (.ref yl) → MatAt w news md rg yl r 1 (fScale q cs (fun i _ => fLows dep (fWhole q c fA f1 f2) i)) → m (Str.ofString "told") = some (.ref yt) → MatAt w news md rg yt r 1 (fTold q c cs fA f1 fm (fHighs dep (fWhole q c fA f1 f2))) →
  wpAny (model PySem.Challenge.pw_ay0011_01 w) (gTop dp un gd (envOfC (Str.ofString "law") scope L fa cd) outer) (execs body (envOfC (Str.ofString "law") scope L fa cd)) Q (fun _ _ => False) s
def T22 (w : World) : Prop := LawTail 22 fun body scope => ∀ {loose : List Str} {mean : ExcName → Option Value} {mg mb : Str → Option Value} {dp un : Nat} {gd : Option (List Code)} {outer : List Env} {A₀ : Around} {base h₀ : Heap} {L fa : Addr} {cd : Value} {m : Str → Option Value} {s : Shared} {Q : Flow → Shared → Prop} {o1 o2 o3 oc1 oc2 oc3 oc4 oc5 oc6 oc7 : Obj} {news : Led} {x1 x2 x5 x6 x7 : Option Value} {q a eta : Int} {dep : Nat} {tq ta te td : Tok} {sz rg md : Addr} {r c n : Nat} {tr tc : Tok} {es : Nat} {fA f1 f2 fm : Nat → Nat → List Int} {sg : Addr} {cs : List Int} {vsg : List Value} {eg : Nat} {yw ys : Addr} {yl : Addr} {yt : Addr} {yr : Addr},
  Below A₀ base outer h₀ → Fr h₀ L s.heap m → (hd.heap_1 w.params).In h₀ → Top topProg loose mean mg mb h₀ → dp + 100 < recursionLimit → un + 2000 < cLine → Ends h₀ L s Q → IsTab o1 → IsTab o2 → IsTab o3 → AllBare s.gens → @LT.lt Nat _ 225 L → News h₀ L s.heap ((142, o1) :: (178, o2) :: (225, o3) :: (L + 1 + 1 + 1 + 1 + 1 + 1 + 1, oc7) :: (L + 1 + 1 + 1 + 1 + 1 + 1, oc6) :: (L + 1 + 1 + 1 + 1 + 1, oc5) :: (L + 1 + 1 + 1 + 1, oc4) :: (L + 1 + 1 + 1, oc3) :: (L + 1 + 1, oc2) :: (L + 1, oc1) :: news) → oc1.data = .cell x1 → oc2.data = .cell x2 → oc3.data = .cell (some (.int (dep : Int) td)) → oc4.data = .cell (some (.ref rg)) → oc5.data = .cell x5 → oc6.data = .cell x6 → oc7.data = .cell x7 → (∀ p ∈ news, p.1 ≠ 142) → (∀ p ∈ news, p.1 ≠ 178) → (∀ p ∈ news, p.1 ≠ 225) → (∀ p ∈ news, p.1 ≠ (L + 1)) → (∀ p ∈ news, p.1 ≠ (L + 1 + 1 + 1 + 1 + 1)) → (∀ p ∈ news, p.1 ≠ (L + 1 + 1 + 1 + 1 + 1 + 1)) → (∀ p ∈ news, p.1 ≠ (L + 1 + 1 + 1 + 1 + 1 + 1 + 1)) → m (Str.ofString "q") = some (.int q tq) → m (Str.ofString "step") = some (.int a ta) → m (Str.ofString "eta") = some (.int eta te) → Par q a eta dep → m (Str.ofString "sizes") = some (.ref sz) → (sz, lsO [.int (r : Int) tr, .int (c : Int) tc] es) ∈ news → r = 1 ∨ r = 2 → c = 1 ∨ c = 2 → n = 2 ∨ n = 3 → m (Str.ofString "module") = some (.ref md) → ModAt w news md rg → RingAt w news rg q n → Tame fA r c n (2 ^ 24) → Tame f1 c 1 n 8 → Tame f2 r 1 n 8 → (∀ i, i < r → ∀ x ∈ f2 i 0, -eta ≤ x ∧ x ≤ eta) → Tame fm c 1 n (2 ^ 24) → m (Str.ofString "signs") = some (.ref sg) → (sg, lsO vsg eg) ∈ news → IntsAre vsg cs → cs.length = n → (∀ x ∈ cs, -1 ≤ x ∧ x ≤ 1) → m (Str.ofString "w") = some (.ref yw) → MatAt w news md rg yw r 1 (fProd q c fA fm) → m (Str.ofString "small") = some (.ref ys) → MatAt w news md rg ys r 1 (fScale q cs f2) → m (Str.ofString "low") = some (.ref yl) → MatAt w news md rg yl r 1 (fScale q cs (fun i _ => fLows dep (fWhole q c fA f1 f2) i)) → m (Str.ofString "told") = some (.ref yt) → MatAt w news md rg yt r 1 (fTold q c cs fA f1 fm (fHighs dep (fWhole q c fA f1 f2))) → m (Str.ofString "rest") = some (.ref yr) → MatAt w news md rg yr r 1 (fRest q c cs fA f2 fm) →
  wpAny (model PySem.Challenge.pw_ay0011_01 w) (gTop dp un gd (envOfC (Str.ofString "law") scope L fa cd) outer) (execs body (envOfC (Str.ofString "law") scope L fa cd)) Q (fun _ _ => False) s
def T23 (w : World) : Prop := LawTail 23 fun body scope => ∀ {loose : List Str} {mean : ExcName → Option Value} {mg mb : Str → Option Value} {dp un : Nat} {gd : Option (List Code)} {outer : List Env} {A₀ : Around} {base h₀ : Heap} {L fa : Addr} {cd : Value} {m : Str → Option Value} {s : Shared} {Q : Flow → Shared → Prop} {o1 o2 o3 oc1 oc2 oc3 oc4 oc5 oc6 oc7 : Obj} {news : Led} {x1 x2 x5 x6 x7 : Option Value} {q a eta : Int} {dep : Nat} {tq ta te td : Tok} {sz rg md : Addr} {r c n : Nat} {tr tc : Tok} {es : Nat} {fA f1 f2 fm : Nat → Nat → List Int} {sg : Addr} {cs : List Int} {vsg : List Value} {eg : Nat} {yw ys : Addr} {yl : Addr} {yt : Addr} {yr : Addr},
  Below A₀ base outer h₀ → Fr h₀ L s.heap m → (hd.heap_1 w.params).In h₀ → Top topProg loose mean mg mb h₀ → dp + 100 < recursionLimit → un + 2000 < cLine → Ends h₀ L s Q → IsTab o1 → IsTab o2 → IsTab o3 → AllBare s.gens → @LT.lt Nat _ 225 L → News h₀ L s.heap ((142, o1) :: (178, o2) :: (225, o3) :: (L + 1 + 1 + 1 + 1 + 1 + 1 + 1, oc7) :: (L + 1 + 1 + 1 + 1 + 1 + 1, oc6) :: (L + 1 + 1 + 1 + 1 + 1, oc5) :: (L + 1 + 1 + 1 + 1, oc4) :: (L + 1 + 1 + 1, oc3) :: (L + 1 + 1, oc2) :: (L + 1, oc1) :: news) → oc1.data = .cell x1 → oc2.data = .cell x2 → oc3.data = .cell (some (.int (dep : Int) td)) → oc4.data = .cell (some (.ref rg)) → oc5.data = .cell x5 → oc6.data = .cell x6 → oc7.data = .cell x7 → (∀ p ∈ news, p.1 ≠ 142) → (∀ p ∈ news, p.1 ≠ 178) → (∀ p ∈ news, p.1 ≠ 225) → (∀ p ∈ news, p.1 ≠ (L + 1)) → (∀ p ∈ news, p.1 ≠ (L + 1 + 1 + 1 + 1 + 1)) → (∀ p ∈ news, p.1 ≠ (L + 1 + 1 + 1 + 1 + 1 + 1)) → (∀ p ∈ news, p.1 ≠ (L + 1 + 1 + 1 + 1 + 1 + 1 + 1)) → m (Str.ofString "q") = some (.int q tq) → m (Str.ofString "step") = some (.int a ta) → m (Str.ofString "eta") = some (.int eta te) → Par q a eta dep → m (Str.ofString "sizes") = some (.ref sz) → (sz, lsO [.int (r : Int) tr, .int (c : Int) tc] es) ∈ news → r = 1 ∨ r = 2 → c = 1 ∨ c = 2 → n = 2 ∨ n = 3 → m (Str.ofString "module") = some (.ref md) → ModAt w news md rg → RingAt w news rg q n → Tame fA r c n (2 ^ 24) → Tame f1 c 1 n 8 → Tame f2 r 1 n 8 → (∀ i, i < r → ∀ x ∈ f2 i 0, -eta ≤ x ∧ x ≤ eta) → Tame fm c 1 n (2 ^ 24) → m (Str.ofString "signs") = some (.ref sg) → (sg, lsO vsg eg) ∈ news → IntsAre vsg cs → cs.length = n → (∀ x ∈ cs, -1 ≤ x ∧ x ≤ 1) → m (Str.ofString "w") = some (.ref yw) → MatAt w news md rg yw r 1 (fProd q c fA fm) → m (Str.ofString "small") = some (.ref ys) → MatAt w news md rg ys r 1 (fScale q cs f2) → m (Str.ofString "low") = some (.ref yl) → MatAt w news md rg yl r 1 (fScale q cs (fun i _ => fLows dep (fWhole q c fA f1 f2) i)) → m (Str.ofString "told") = some (.ref yt) → MatAt w news md rg yt r 1 (fTold q c cs fA f1 fm (fHighs dep (fWhole q c fA f1 f2))) → m (Str.ofString "rest") = some (.ref yr) → MatAt w news md rg yr r 1 (fRest q c cs fA f2 fm) →
  wpAny (model PySem.Challenge.pw_ay0011_01 w) (gTop dp un gd (envOfC (Str.ofString "law") scope L fa cd) outer) (execs body (envOfC (Str.ofString "law") scope L fa cd)) Q (fun _ _ => False) s
def T24 (w : World) : Prop := LawTail 24 fun body scope => ∀ {loose : List Str} {mean : ExcName → Option Value} {mg mb : Str → Option Value} {dp un : Nat} {gd : Option (List Code)} {outer : List Env} {A₀ : Around} {base h₀ : Heap} {L fa : Addr} {cd : Value} {m : Str → Option Value} {s : Shared} {Q : Flow → Shared → Prop} {o1 o2 o3 oc1 oc2 oc3 oc4 oc5 oc6 oc7 : Obj} {news : Led} {x1 x2 x5 x6 x7 : Option Value} {q a eta : Int} {dep : Nat} {tq ta te td : Tok} {sz rg md : Addr} {r c n : Nat} {tr tc : Tok} {es : Nat} {fA f1 f2 fm : Nat → Nat → List Int} {sg : Addr} {cs : List Int} {vsg : List Value} {eg : Nat} {yw ys : Addr} {yl : Addr} {yt : Addr} {yr : Addr} {tb : Tok},
  Below A₀ base outer h₀ → Fr h₀ L s.heap m → (hd.heap_1 w.params).In h₀ → Top topProg loose mean mg mb h₀ → dp + 100 < recursionLimit → un + 2000 < cLine → Ends h₀ L s Q → IsTab o1 → IsTab o2 → IsTab o3 → AllBare s.gens → @LT.lt Nat _ 225 L → News h₀ L s.heap ((142, o1) :: (178, o2) :: (225, o3) :: (L + 1 + 1 + 1 + 1 + 1 + 1 + 1, oc7) :: (L + 1 + 1 + 1 + 1 + 1 + 1, oc6) :: (L + 1 + 1 + 1 + 1 + 1, oc5) :: (L + 1 + 1 + 1 + 1, oc4) :: (L + 1 + 1 + 1, oc3) :: (L + 1 + 1, oc2) :: (L + 1, oc1) :: news) → oc1.data = .cell x1 → oc2.data = .cell x2 → oc3.data = .cell (some (.int (dep : Int) td)) → oc4.data = .cell (some (.ref rg)) → oc5.data = .cell x5 → oc6.data = .cell x6 → oc7.data = .cell x7 → (∀ p ∈ news, p.1 ≠ 142) → (∀ p ∈ news, p.1 ≠ 178) → (∀ p ∈ news, p.1 ≠ 225) → (∀ p ∈ news, p.1 ≠ (L + 1)) → (∀ p ∈ news, p.1 ≠ (L + 1 + 1 + 1 + 1 + 1)) → (∀ p ∈ news, p.1 ≠ (L + 1 + 1 + 1 + 1 + 1 + 1)) → (∀ p ∈ news, p.1 ≠ (L + 1 + 1 + 1 + 1 + 1 + 1 + 1)) → m (Str.ofString "q") = some (.int q tq) → m (Str.ofString "step") = some (.int a ta) → m (Str.ofString "eta") = some (.int eta te) → Par q a eta dep → m (Str.ofString "sizes") = some (.ref sz) → (sz, lsO [.int (r : Int) tr, .int (c : Int) tc] es) ∈ news → r = 1 ∨ r = 2 → c = 1 ∨ c = 2 → n = 2 ∨ n = 3 → m (Str.ofString "module") = some (.ref md) → ModAt w news md rg → RingAt w news rg q n → Tame fA r c n (2 ^ 24) → Tame f1 c 1 n 8 → Tame f2 r 1 n 8 → (∀ i, i < r → ∀ x ∈ f2 i 0, -eta ≤ x ∧ x ≤ eta) → Tame fm c 1 n (2 ^ 24) → m (Str.ofString "signs") = some (.ref sg) → (sg, lsO vsg eg) ∈ news → IntsAre vsg cs → cs.length = n → (∀ x ∈ cs, -1 ≤ x ∧ x ≤ 1) → m (Str.ofString "w") = some (.ref yw) → MatAt w news md rg yw r 1 (fProd q c fA fm) → m (Str.ofString "small") = some (.ref ys) → MatAt w news md rg ys r 1 (fScale q cs f2) → m (Str.ofString "low") = some (.ref yl) → MatAt w news md rg yl r 1 (fScale q cs (fun i _ => fLows dep (fWhole q c fA f1 f2) i)) → m (Str.ofString "told") = some (.ref yt) → MatAt w news md rg yt r 1 (fTold q c cs fA f1 fm (fHighs dep (fWhole q c fA f1 f2))) → m (Str.ofString "rest") = some (.ref yr) → MatAt w news md rg yr r 1 (fRest q c cs fA f2 fm) → m (Str.ofString "beta") = some (.int (eta * absSum cs) tb) →
  wpAny (model PySem.Challenge.pw_ay0011_01 w) (gTop dp un gd (envOfC (Str.ofString "law") scope L fa cd) outer) (execs body (envOfC (Str.ofString "law") scope L fa cd)) Q (fun _ _ => False) s
end
section
theorem mul_in {c f eta : Int} (hc : -1 ≤ c ∧ c ≤ 1) (hf : -eta ≤ f ∧ f ≤ eta) : -(eta * (c.natAbs : Int)) ≤ c * f ∧ c * f ≤ eta * (c.natAbs : Int) := by
  have : c = -1 ∨ c = 0 ∨ c = 1 := by omega
  rcases this with rfl | rfl | rfl <;> simp <;> omega
theorem small_raw {q eta : Int} {n : Nat} {cs f : List Int} (hn : n = 2 ∨ n = 3) (lc : cs.length = n) (lf : f.length = n) (bc : ∀ x ∈ cs, -1 ≤ x ∧ x ≤ 1) (bf : ∀ x ∈ f, -eta ≤ x ∧ x ≤ eta) : ∀ k, k < n → ∃ s : Int, EqM q ((pmul q cs f).getD k 0) s ∧ (s.natAbs : Int) ≤ eta * absSum cs := by
  intro k hk
  rcases hn with rfl | rfl
  · obtain ⟨c0, c1, rfl⟩ := list_two lc
    obtain ⟨f0, f1, rfl⟩ := list_two lf
    have b0 := bc c0 (by simp)
    have b1 := bc c1 (by simp)
    have g0 := bf f0 (by simp)
    have g1 := bf f1 (by simp)
    have e : eta * absSum [c0, c1] = eta * (c0.natAbs : Int) + eta * (c1.natAbs : Int) := by
      simp only [absSum, List.map_cons, List.map_nil, List.sum_cons, List.sum_nil]
      grind
    rw [e]
    have p00 := mul_in b0 g0
    have p01 := mul_in b0 g1
    have p10 := mul_in b1 g0
    have p11 := mul_in b1 g1
    match k, hk with
    | 0, _ => exact ⟨c0 * f0 - c1 * f1, EqM.mod, by omega⟩
    | 1, _ => exact ⟨c0 * f1 + c1 * f0, EqM.mod, by omega⟩
  · obtain ⟨c0, c1, c2, rfl⟩ := list_three lc
    obtain ⟨f0, f1, f2, rfl⟩ := list_three lf
    have b0 := bc c0 (by simp)
    have b1 := bc c1 (by simp)
    have b2 := bc c2 (by simp)
    have g0 := bf f0 (by simp)
    have g1 := bf f1 (by simp)
    have g2 := bf f2 (by simp)
    have e : eta * absSum [c0, c1, c2] = eta * (c0.natAbs : Int) + eta * (c1.natAbs : Int) + eta * (c2.natAbs : Int) := by
      simp only [absSum, List.map_cons, List.map_nil, List.sum_cons, List.sum_nil]
      grind
    rw [e]
    have p00 := mul_in b0 g0
    have p01 := mul_in b0 g1
    have p02 := mul_in b0 g2
    have p10 := mul_in b1 g0
    have p11 := mul_in b1 g1
    have p12 := mul_in b1 g2
    have p20 := mul_in b2 g0
    have p21 := mul_in b2 g1
    have p22 := mul_in b2 g2
    match k, hk with
    | 0, _ => exact ⟨c0 * f0 - c1 * f2 - c2 * f1, EqM.mod, by omega⟩
    | 1, _ => exact ⟨c0 * f1 + c1 * f0 - c2 * f2, EqM.mod, by omega⟩
    | 2, _ => exact ⟨c0 * f2 + c1 * f1 + c2 * f0, EqM.mod, by omega⟩
theorem zip_getD {g : Int → Int → Int} {as bs : List Int} {k : Nat} (ha : k < as.length) (hb : k < bs.length) : (List.zipWith g as bs).getD k 0 = g (as.getD k 0) (bs.getD k 0) := by
  simp [List.getD_eq_getElem?_getD, List.getElem?_zipWith, List.getElem?_eq_getElem ha, List.getElem?_eq_getElem hb]
/-- every place is right -/
theorem places {q a eta : Int} {dep r c n i k : Nat} {fA f1 f2 fm : Nat → Nat → List Int} {cs : List Int} (par : Par q a eta dep) (hn : n = 2 ∨ n = 3) (hc : c = 1 ∨ c = 2) (tA : Tame fA r c n (2 ^ 24)) (t1 : Tame f1 c 1 n 8) (t2 : Tame f2 r 1 n 8) (t2e : ∀ i, i < r → ∀ x ∈ f2 i 0, -eta ≤ x ∧ x ≤ eta) (tm : Tame fm c 1 n (2 ^ 24)) (lcs : cs.length = n) (bcs : ∀ x ∈ cs, -1 ≤ x ∧ x ≤ 1) (hi : i < r) (hk : k < n) :
    PlaceOk ((fProd q c fA fm i 0).getD k 0) ((fRest q c cs fA f2 fm i 0).getD k 0) ((fScale q cs f2 i 0).getD k 0) ((fScale q cs (fun i _ => (fLows dep (fWhole q c fA f1 f2)) i) i 0).getD k 0) ((fTold q c cs fA f1 fm (fHighs dep (fWhole q c fA f1 f2)) i 0).getD k 0) a (eta * absSum cs) q := by
  have q33 := par.q0
  have q24 := par.q24
  have q0 : 0 < q := by omega
  have hc0 : 0 < c := by omega
  obtain ⟨g, m, rfl, hg, hm, hq⟩ := par.gm
  have tP := tame_prod q0 q24 hn hc0 tA tm
  have tS := tame_scale q0 q24 hn lcs t2
  have tR : Tame (fRest q c cs fA f2 fm) r 1 n (2 ^ 24) := tame_sub q0 q24 tP tS
  have tW := tame_add q0 q24 (tame_prod q0 q24 hn hc0 tA t1) t2
  have tL := tame_lows (f := fWhole q c fA f1 f2) par.dep13 tW
  have tZ := tame_scale q0 q24 hn lcs tL
  obtain ⟨s, hs, hsb⟩ := small_raw (q := q) hn lcs (t2 i 0 hi (by omega)).1 bcs (t2e i hi) k hk
  have eR : (fRest q c cs fA f2 fm i 0).getD k 0 = ((fProd q c fA fm i 0).getD k 0 - (fScale q cs f2 i 0).getD k 0) % q := zip_getD (by rw [(tP i 0 hi (by omega)).1]; exact hk) (by rw [(tS i 0 hi (by omega)).1]; exact hk)
  have eT : (fTold q c cs fA f1 fm (fHighs dep (fWhole q c fA f1 f2)) i 0).getD k 0 = ((fRest q c cs fA f2 fm i 0).getD k 0 + (fScale q cs (fun i _ => (fLows dep (fWhole q c fA f1 f2)) i) i 0).getD k 0) % q := by
    have := told_eq (q := q) (A := fA i) (f := fun k => f1 k 0) (mk := fun k => fm k 0) (s := f2 i 0) (lo := (fLows dep (fWhole q c fA f1 f2)) i) (ch := cs) hn hc (fun k hk => (tA i k hi hk).1) (fun k hk => (t1 k 0 hk (by omega)).1) (fun k hk => (tm k 0 hk (by omega)).1) (t2 i 0 hi (by omega)).1 (tL i 0 hi (by omega)).1 lcs
    show List.getD (List.zipWith _ _ _) k 0 = _
    refine Eq.trans (congrArg (fun l : List Int => l.getD k 0) this) ?_
    exact zip_getD (by
      show k < (fRest q c cs fA f2 fm i 0).length
      rw [(tR i 0 hi (by omega)).1]; exact hk) (by
      show k < (fScale q cs (fun i _ => (fLows dep (fWhole q c fA f1 f2)) i) i 0).length
      rw [(tZ i 0 hi (by omega)).1]; exact hk)
  have hS := absSum_in bcs
  have hb : 0 ≤ eta * absSum cs := Int.mul_nonneg (by have := par.eta1; omega) hS.1
  refine placeOk (m := m) (s := s) (by omega) hm hq hb hs hsb ?_ ?_
  · rw [eR]
    generalize (fProd q c fA fm i 0).getD k 0 = x
    generalize (fScale q cs f2 i 0).getD k 0 = y
    exact ((EqM.mod.add EqM.rfl').trans ⟨0, by grind⟩ : EqM q ((x - y) % q + y) x).symm
  · rw [eT]
    exact EqM.mod
theorem ints5 {ys : List Value} {a b c d e : Int} (h : IntsAre ys [a, b, c, d, e]) : ∃ t1 t2 t3 t4 t5, ys = [.int a t1, .int b t2, .int c t3, .int d t4, .int e t5] := by
  obtain ⟨t1, v1, rfl, h1⟩ := ints_cons h
  obtain ⟨t2, v2, rfl, h2⟩ := ints_cons h1
  obtain ⟨t3, v3, rfl, h3⟩ := ints_cons h2
  obtain ⟨t4, v4, rfl, h4⟩ := ints_cons h3
  obtain ⟨t5, v5, rfl, h5⟩ := ints_cons h4
  cases h5
  exact ⟨t1, t2, t3, t4, t5, rfl⟩
end
end
end
end
end
section
local macro_rules | `(tactic| kpt_conv) => `(tactic| (k_here; (with_reducible show wpAny _ _ (binaryOp _ (Value.ref _) (Value.ref _)) _ _ _); k_dflt (refine binop_K (by k_asm) (by k_asm) (by k_inst) (by k_typeOf) (by k_is) (by k_is) (by k_is) ?_; k_whole)))
local macro_rules | `(tactic| walk_at "binaryOp Add ref ref") => `(tactic| kpt_conv)
local macro_rules | `(tactic| walk_at "binaryOp Sub ref ref") => `(tactic| kpt_conv)
local macro_rules | `(tactic| walk_at "binaryOp Mult ref ref") => `(tactic| kpt_conv)
local macro_rules | `(tactic| walk_at "binaryOp MatMult ref ref") => `(tactic| kpt_conv)
local macro_rules | `(tactic| walk_at "callWith ref") => `(tactic| (k_here; (with_reducible show wpAny _ _ (callWith _ (Value.ref _) _ _ (backToKw _ (keywordEach (_ :: _) _))) _ _ _); kco_any "__call__"; kco_here; k_dflt (refine kcoKW (by k_in) (by k_inst) rfl (by k_is) ?_; k_whole)))
section
example : True := by
  w_top off
  trivial
local macro_rules | `(tactic| walk_at "subscriptTail Name Slice ref ref") => `(tactic| (k_here; refine halt ?_))
local macro_rules | `(tactic| walk_at "eval ListComp") => `(tactic| (k_here; refine halt ?_))
local macro_rules | `(tactic| walk_at "binaryOp Pow int int") => `(tactic| (k_here; k_dflt (refine pow_int_small (by kpt_fact) (by kpt_fact) (by kpt_fact) ?_)))
local macro_rules | `(tactic| walk_at "binaryOp Add ref ref") => `(tactic| (k_here; refine halt ?_))
set_option maxHeartbeats 4000000 in
theorem stepT0 {w : World} (next : T1 w) : T0 w := by
  refine' LawTail.step (name := ?q1) (params := ?q2) (body := ?q3) (scope := ?q4) (pos := ?q5) (kw := ?q6) next ?h ?p
  (case h => with_unfolding_all rfl)
  intro nx
  intro loose mean mg mb dp un gd outer A₀ base h₀ L fa cd m s Q o1 o2 o3 oc1 oc2 oc3 oc4 oc5 oc6 oc7 x1 x2 x3 x4 x5 x6 x7 sc vs ps B F X T hdp hun hret tb1 tb2 tb3 bare hL N d1 d2 d3 d4 d5 d6 d7 hsc hI hps hms
  dsimp only [List.drop]
  have hxs331 : StopAt 331 := .mk
  k_steps
  refine Halt.go ?_
  k_dflt (refine comp_expr (by k_asm) (by with_unfolding_all rfl) (by rfl) (by decide) ?_)
  k_steps
  rename News _ _ _ _ => N3
  rename Fr _ _ _ _ => F3
  refine src_rangeL (n := 44) (IntEl fun k => (k : Int) ^ 5) (by rfl) F3 N3 (by assumption) (by decide) (by rfl) (by rfl) (fun _ => by rfl) ?turn ?fin
  (case turn =>
    intro C i g1 ti oC m₂ led h tk E' hi hC hmi qC hs F₁ N₁
    clear N3 F3 nx
    k_steps
    rename News _ _ _ _ => N5
    rename Fr _ _ _ _ => F5
    exact ⟨_, _, [], rfl, F5, N5, apNil, rfl, _, rfl⟩)
  intro g1
  unfold FinG
  intro D1 h1 tk1 ys1 new1 F₁ N₁ oD1 ap1 hd1
  have hI1 : IntsAre ys1 ((List.range 44).map fun (k : Nat) => (k : Int) ^ 5) := hd1.ints (by simp) fun k hk => by simp [List.getD_eq_getElem?_getD, List.getElem?_map, List.getElem?_range hk]
  replace N₁ : News h₀ L h1 ((D1, LCg.lst ys1) :: ((142, o1) :: (178, o2) :: (225, o3) :: (L + 1 + 1 + 1 + 1 + 1 + 1 + 1, oc7) :: (L + 1 + 1 + 1 + 1 + 1 + 1, oc6) :: (L + 1 + 1 + 1 + 1 + 1, oc5) :: (L + 1 + 1 + 1 + 1, oc4) :: (L + 1 + 1 + 1, oc3) :: (L + 1 + 1, oc2) :: (L + 1, oc1) :: [])) := newsSub N₁ (subCons List.mem_cons_self (subTail (subR (fun _ h => h))))
  clear N3 F3 ap1 hd1
  k_steps
  refine Halt.go ?_
  rename News _ _ _ _ => N4
  rename Fr _ _ _ _ => F4
  k_dflt (refine add_lists_ints F4 N4 (F4.lst hsc) ⟨_, (N4 _ List.mem_cons_self).1, rfl, _, rfl⟩ hI hI1 ?_ (by rw [sizeLine_eq]; simp; omega))
  intro h5 F5 N5 hI5
  clear N4 F4
  (try (show wpAny _ _ _ _ _ _))
  (try dsimp only)
  k_steps
  refine Halt.go ?_
  k_dflt (refine' kmk_slice_ints (c := 44) (ms := (ps ++ (List.range 44).map fun (k : Nat) => (k : Int) ^ 5).take 44) ?wF ?wN ?wl ?wp ?wq ?wi ?wm ?wc ?_ ?ws ?wt ?wz; (case wF => exact F5); (case wN => exact N5); (case wl => exact ⟨_, (N5 _ List.mem_cons_self).1, rfl, _, rfl⟩); (case wp => kmk_part); (case wq => kmk_part); (case wi => exact hI5); (case wm => exact kmk_upto hI5 (by decide)); (case wc => (rw [List.length_take, List.length_append, List.length_map, List.length_range]; omega)); (case ws => with_unfolding_all rfl); (case wt => kmk_pure); (case wz => (rw [sizeLine_eq, List.size_toArray, hI5.length, List.length_append, List.length_map, List.length_range]; omega)))
  intro D2 ws h6 F6 N6 l6 hI6 hC6 hL6
  have hpl : @LT.lt Nat _ (L + 1 + 1 + 1 + 1 + 1 + 1 + 1) D2 := (faL l6 mm5)
  replace N6 : News h₀ L h6 ((142, o1) :: (178, o2) :: (225, o3) :: (D2, lsO ws 0) :: ((L + 1 + 1 + 1 + 1 + 1 + 1 + 1, oc7) :: (L + 1 + 1 + 1 + 1 + 1 + 1, oc6) :: (L + 1 + 1 + 1 + 1 + 1, oc5) :: (L + 1 + 1 + 1 + 1, oc4) :: (L + 1 + 1 + 1, oc3) :: (L + 1 + 1, oc2) :: (L + 1, oc1) :: [])) := newsSub N6 (by lcg_sub)
  clear F5 N5 l6 hL6 hI5 hI1 oD1 hI
  generalize List.take 44 _ = ps2 at hI6 hC6
  (try (show wpAny _ _ _ _ _ _))
  (try dsimp only)
  k_steps
  refine Halt.go ?_
  rename News _ _ _ _ => N10
  rename Fr _ _ _ _ => F10
  exact nx  B (F10) X T hdp hun hret (by with_reducible assumption) (by with_reducible assumption) (by with_reducible assumption) (by with_reducible assumption) hL (N10) (by with_reducible assumption) (by with_reducible assumption) (by with_reducible assumption) (by with_reducible assumption) (by with_reducible assumption) (by with_reducible assumption) (by with_reducible assumption) (hI6) (hpl) (hC6)
end
section
example : True := by
  w_top off
  trivial
theorem poolNe {L pl : Nat} {news : Led} {o1 o2 o3 oc1 oc2 oc3 oc4 oc5 oc6 oc7 : Obj} (hL : 225 < L) (h : L + 1 + 1 + 1 + 1 + 1 + 1 + 1 < pl) (hn : ∀ p ∈ news, p.1 ≠ pl) : ∀ p ∈ ((142, o1) :: (178, o2) :: (225, o3) :: (L + 1 + 1 + 1 + 1 + 1 + 1 + 1, oc7) :: (L + 1 + 1 + 1 + 1 + 1 + 1, oc6) :: (L + 1 + 1 + 1 + 1 + 1, oc5) :: (L + 1 + 1 + 1 + 1, oc4) :: (L + 1 + 1 + 1, oc3) :: (L + 1 + 1, oc2) :: (L + 1, oc1) :: news : Led), p.1 ≠ pl := by k_all
local macro_rules | `(tactic| walk_at "call builtin:list.pop") => `(tactic| (k_here; refine halt ?_))
set_option maxHeartbeats 4000000 in
theorem stepT1 {w : World} (next : T5 w) : T1 w := by
  refine' LawTail.step (name := ?q1) (params := ?q2) (body := ?q3) (scope := ?q4) (pos := ?q5) (kw := ?q6) next ?h ?p
  (case h => with_unfolding_all rfl)
  intro nx
  intro loose mean mg mb dp un gd outer A₀ base h₀ L fa cd m s Q o1 o2 o3 oc1 oc2 oc3 oc4 oc5 oc6 oc7 pl vs e ps x1 x3 x4 x5 x6 x7 B F X T hdp hun hret tb1 tb2 tb3 bare hL N d1 d2 d3 d4 d5 d6 d7 hI hpl hps
  dsimp only [List.drop]
  have hxs332 : StopAt 332 := .mk
  have hxs334 : StopAt 334 := .mk
  have hxs336 : StopAt 336 := .mk
  have hx98 : ∃ q0 q1 q2 q3 ps', ps = q0 :: q1 :: q2 :: q3 :: ps' := by
    match ps, hps with
    | a :: b :: c :: d :: r, _ => exact ⟨a, b, c, d, r, rfl⟩
  obtain ⟨q0, q1, q2, q3, ps', rfl⟩ := hx98
  have hps' : ps'.length = 40 := by simpa using hps
  obtain ⟨t0, vs0, rfl, hI0⟩ := ints_cons hI
  obtain ⟨t1, vs1, rfl, hI1⟩ := ints_cons hI0
  obtain ⟨t2, vs2, rfl, hI2⟩ := ints_cons hI1
  obtain ⟨t3, vs3, rfl, hI3⟩ := ints_cons hI2
  have hl := hI3.length.trans hps'
  have hp := poolNe (o1 := o1) (o2 := o2) (o3 := o3) (oc1 := oc1) (oc2 := oc2) (oc3 := oc3) (oc4 := oc4) (oc5 := oc5) (oc6 := oc6) (oc7 := oc7) hL hpl (List.forall_mem_nil _)
  replace N : News h₀ L s.heap ((pl, lsO (.int q0 t0 :: .int q1 t1 :: .int q2 t2 :: .int q3 t3 :: vs3) e) :: ((142, o1) :: (178, o2) :: (225, o3) :: (L + 1 + 1 + 1 + 1 + 1 + 1 + 1, oc7) :: (L + 1 + 1 + 1 + 1 + 1 + 1, oc6) :: (L + 1 + 1 + 1 + 1 + 1, oc5) :: (L + 1 + 1 + 1 + 1, oc4) :: (L + 1 + 1 + 1, oc3) :: (L + 1 + 1, oc2) :: (L + 1, oc1) :: [])) := newsSub N (by lcg_sub)
  k_steps
  refine Halt.go ?_
  rename News _ _ _ _ => N1
  rename Fr _ _ _ _ => F1
  k_dflt (refine pop0 F1 N1 (Upd.head hp) (by simp only [List.length_cons]; omega) ?_)
  intro h2 F2 N2
  clear N1 F1
  k_steps
  refine Halt.go ?_
  rename News _ _ _ _ => N1
  rename Fr _ _ _ _ => F1
  k_dflt (refine pop0 F1 N1 (Upd.head hp) (by simp only [List.length_cons]; omega) ?_)
  intro h3 F2 N2
  clear N1 F1
  k_steps
  refine Halt.go ?_
  rename News _ _ _ _ => N1
  rename Fr _ _ _ _ => F1
  k_dflt (refine pop0 F1 N1 (Upd.head hp) (by simp only [List.length_cons]; omega) ?_)
  intro h4 F2 N2
  clear N1 F1
  k_steps
  refine Halt.go ?_
  rename News _ _ _ _ => N1
  rename Fr _ _ _ _ => F1
  have hx98 : ∃ oD td, oD.data = .cell (some (.int (1 + q2.fmod 4) td)) ∧ News h₀ L _ ((pl, lsO (.int q3 t3 :: vs3) (e + 1 + 1 + 1)) :: ((142, o1) :: (178, o2) :: (225, o3) :: (L + 1 + 1 + 1 + 1 + 1 + 1 + 1, oc7) :: (L + 1 + 1 + 1 + 1 + 1 + 1, oc6) :: (L + 1 + 1 + 1 + 1 + 1, oc5) :: (L + 1 + 1 + 1 + 1, oc4) :: (L + 1 + 1 + 1, oD) :: (L + 1 + 1, oc2) :: (L + 1, oc1) :: [])) := ⟨_, _, by assumption, newsSub N1 (by lcg_sub)⟩
  obtain ⟨oD, td, dD, N2⟩ := hx98
  have hq3 : 0 ≤ q3.fmod 40 ∧ q3.fmod 40 < 40 := fmodIn q3 (by decide)
  have hq1 : 0 ≤ q1.fmod 20 ∧ q1.fmod 20 < 20 := fmodIn q1 (by decide)
  have h3 := mod3Of q0
  obtain ⟨dep, ed, hd1, hd4⟩ := natOf4 q2
  rw [ed] at dD
  generalize hwy : q0.fmod 3 = wy at F1 h3
  clear ed hwy N1 hI hI0 hI1 hI2
  have hp := poolNe (o1 := o1) (o2 := o2) (o3 := o3) (oc1 := oc1) (oc2 := oc2) (oc3 := oD) (oc4 := oc4) (oc5 := oc5) (oc6 := oc6) (oc7 := oc7) hL hpl (List.forall_mem_nil _)
  refine wpAny_execs_cons ?_
  (try dsimp only)
  k_steps
  refine Halt.go ?_
  rename News _ _ _ _ => N1
  rename Fr _ _ _ _ => F1
  k_dflt (refine pop0 F1 N1 (Upd.head hp) (by omega) ?_)
  intro h5 F2 N2
  clear N1 F1
  k_steps
  refine Halt.go ?_
  rcases h3 with rfl | rfl | rfl
  · refine wpAny_execs_cons ?_
    (try dsimp only)
    k_steps
    refine Halt.go ?_
    rename News _ _ _ _ => N10
    rename Fr _ _ _ _ => F10
    have hpr : Par 8380417 190464 2 13 := { gm := ⟨95232, 44, by decide, by decide, by decide, by decide⟩, a20 := by decide, q24 := by decide, eta1 := by decide, eta4 := by decide, dep1 := by decide, dep13 := by decide }
    exact nx (o1 := o1) (o2 := o2) (o3 := o3) (pl := pl) (q := 8380417) (a := 190464) (eta := 2) (dep := 13) B (F10) X T hdp hun hret (tb1) (tb2) (tb3) (by with_reducible assumption) hL (newsSub N10 (by lcg_sub)) (by with_reducible assumption) (by with_reducible assumption) (by assumption) (by with_reducible assumption) (by with_reducible assumption) (by with_reducible assumption) (by with_reducible assumption) (hI3) (by with_reducible assumption) (hps') (by kn_among) (by kn_among) (by kn_among) (hpr)
  · refine wpAny_execs_cons ?_
    (try dsimp only)
    k_steps
    refine Halt.go ?_
    rename News _ _ _ _ => N10
    rename Fr _ _ _ _ => F10
    have hpr : Par 8380417 523776 4 13 := { gm := ⟨261888, 16, by decide, by decide, by decide, by decide⟩, a20 := by decide, q24 := by decide, eta1 := by decide, eta4 := by decide, dep1 := by decide, dep13 := by decide }
    exact nx (o1 := o1) (o2 := o2) (o3 := o3) (pl := pl) (q := 8380417) (a := 523776) (eta := 4) (dep := 13) B (F10) X T hdp hun hret (tb1) (tb2) (tb3) (by with_reducible assumption) hL (newsSub N10 (by lcg_sub)) (by with_reducible assumption) (by with_reducible assumption) (by assumption) (by with_reducible assumption) (by with_reducible assumption) (by with_reducible assumption) (by with_reducible assumption) (hI3) (by with_reducible assumption) (hps') (by kn_among) (by kn_among) (by kn_among) (hpr)
  · refine wpAny_execs_cons ?_
    (try dsimp only)
    k_steps
    refine Halt.go ?_
    rename News _ _ _ _ => N10
    rename Fr _ _ _ _ => F10
    have hb : (16 + 2 * q3.fmod 40) * (2 + q1.fmod 20) ≤ 94 * 21 := Int.mul_le_mul (by omega) (by omega) (by omega) (by omega)
    have hpr : Par ((16 + 2 * q3.fmod 40) * (2 + q1.fmod 20) + 1) (16 + 2 * q3.fmod 40) 1 dep := { gm := ⟨8 + q3.fmod 40, 2 + q1.fmod 20, by omega, by omega, by omega, by grind⟩, a20 := by omega, q24 := by omega, eta1 := by decide, eta4 := by decide, dep1 := hd1, dep13 := by omega }
    exact nx (o1 := o1) (o2 := o2) (o3 := o3) (pl := pl) (q := (16 + 2 * q3.fmod 40) * (2 + q1.fmod 20) + 1) (a := 16 + 2 * q3.fmod 40) (eta := 1) (dep := dep) B (F10) X T hdp hun hret (tb1) (tb2) (tb3) (by with_reducible assumption) hL (newsSub N10 (by lcg_sub)) (by with_reducible assumption) (by with_reducible assumption) (by assumption) (by with_reducible assumption) (by with_reducible assumption) (by with_reducible assumption) (by with_reducible assumption) (hI3) (by with_reducible assumption) (hps') (by kn_among) (by kn_among) (by kn_among) (hpr)
end
section
local macro_rules | `(tactic| walk_at "pad") => `(tactic| skip)
example : True := by
  w_top off
  trivial
local macro_rules | `(tactic| walk_at "call builtin:list.pop") => `(tactic| (k_here; refine halt ?_))
set_option maxHeartbeats 4000000 in
theorem stepT5 {w : World} (next : T8 w) : T5 w := by
  refine' LawTail.step (name := ?q1) (params := ?q2) (body := ?q3) (scope := ?q4) (pos := ?q5) (kw := ?q6) next ?h ?p
  (case h => with_unfolding_all rfl)
  intro nx
  intro loose mean mg mb dp un gd outer A₀ base h₀ L fa cd m s Q o1 o2 o3 oc1 oc2 oc3 oc4 oc5 oc6 oc7 pl vs e ps x1 x4 x5 x6 x7 q a eta dep tq ta te td B F X T hdp hun hret tb1 tb2 tb3 bare hL N d1 d2 d3 d4 d5 d6 d7 hI hpl hps hmq hma hme par
  dsimp only [List.drop]
  have hxs337 : StopAt 337 := .mk
  have hxs339 : StopAt 339 := .mk
  have hx98 : ∃ q0 q1 q2 ps', ps = q0 :: q1 :: q2 :: ps' := by
    match ps, hps with
    | a :: b :: c :: r, _ => exact ⟨a, b, c, r, rfl⟩
  obtain ⟨q0, q1, q2, ps', rfl⟩ := hx98
  have hps' : ps'.length = 37 := by simpa using hps
  obtain ⟨t0, vs0, rfl, hI0⟩ := ints_cons hI
  obtain ⟨t1, vs1, rfl, hI1⟩ := ints_cons hI0
  obtain ⟨t2, vs2, rfl, hI2⟩ := ints_cons hI1
  have hl := hI2.length.trans hps'
  have hp := poolNe (o1 := o1) (o2 := o2) (o3 := o3) (oc1 := oc1) (oc2 := oc2) (oc3 := oc3) (oc4 := oc4) (oc5 := oc5) (oc6 := oc6) (oc7 := oc7) hL hpl (List.forall_mem_nil _)
  replace N : News h₀ L s.heap ((pl, lsO (.int q0 t0 :: .int q1 t1 :: .int q2 t2 :: vs2) e) :: ((142, o1) :: (178, o2) :: (225, o3) :: (L + 1 + 1 + 1 + 1 + 1 + 1 + 1, oc7) :: (L + 1 + 1 + 1 + 1 + 1 + 1, oc6) :: (L + 1 + 1 + 1 + 1 + 1, oc5) :: (L + 1 + 1 + 1 + 1, oc4) :: (L + 1 + 1 + 1, oc3) :: (L + 1 + 1, oc2) :: (L + 1, oc1) :: [])) := newsSub N (by lcg_sub)
  k_steps
  refine Halt.go ?_
  rename News _ _ _ _ => N1
  rename Fr _ _ _ _ => F1
  k_dflt (refine pop0 F1 N1 (Upd.head hp) (by simp only [List.length_cons]; omega) ?_)
  intro h2 F2 N2
  clear N1 F1
  k_steps
  refine Halt.go ?_
  rename News _ _ _ _ => N1
  rename Fr _ _ _ _ => F1
  k_dflt (refine pop0 F1 N1 (Upd.head hp) (by simp only [List.length_cons]; omega) ?_)
  intro h3 F2 N2
  clear N1 F1
  k_steps
  refine Halt.go ?_
  rename News _ _ _ _ => N1
  rename Fr _ _ _ _ => F1
  rename_i sz hA FA NA lz hB tB
  clear FA NA
  generalize hrr : 1 + q0.fmod 2 = rr at N1
  generalize hcc : 1 + q1.fmod 2 = cc at N1
  obtain ⟨r, er, hr⟩ := natOf1 q0
  obtain ⟨c, ec, hc⟩ := natOf1 q1
  rw [hrr] at er
  rw [hcc] at ec
  subst er ec
  clear hrr hcc
  have hx98 : ∃ tr tc, News h₀ L _ ((pl, lsO (.int q2 t2 :: vs2) (e + 1 + 1)) :: ((142, o1) :: (178, o2) :: (225, o3) :: (L + 1 + 1 + 1 + 1 + 1 + 1 + 1, oc7) :: (L + 1 + 1 + 1 + 1 + 1 + 1, oc6) :: (L + 1 + 1 + 1 + 1 + 1, oc5) :: (L + 1 + 1 + 1 + 1, oc4) :: (L + 1 + 1 + 1, oc3) :: (L + 1 + 1, oc2) :: (L + 1, oc1) :: ((sz, lsO [.int (r : Int) tr, .int (c : Int) tc] 0) :: []))) := ⟨_, _, newsSub N1 (by lcg_sub)⟩
  obtain ⟨tr, tc, N2⟩ := hx98
  have hp := poolNe (o1 := o1) (o2 := o2) (o3 := o3) (oc1 := oc1) (oc2 := oc2) (oc3 := oc3) (oc4 := oc4) (oc5 := oc5) (oc6 := oc6) (oc7 := oc7) (news := [(sz, lsO [.int (r : Int) tr, .int (c : Int) tc] 0)]) hL hpl (fun p hp => by rw [List.mem_singleton.mp hp]; exact Nat.ne_of_gt (faL lz mm0))
  clear N1
  refine wpAny_execs_cons ?_
  (try dsimp only)
  k_steps
  refine Halt.go ?_
  rename News _ _ _ _ => N1
  rename Fr _ _ _ _ => F1
  k_dflt (refine pop0 F1 N1 (Upd.head hp) (by omega) ?_)
  intro h6 F2 N2
  clear N1 F1
  k_steps
  refine Halt.go ?_
  rename News h₀ _ _ _ => N10
  rename Fr h₀ _ _ _ => F10
  generalize hnn : 2 + q2.fmod 2 = nn at N10
  obtain ⟨n, en, hn⟩ := natOf2 q2
  rw [hnn] at en
  subst en
  clear hnn hp
  exact nx  B (F10) X T hdp hun hret (by with_reducible assumption) (by with_reducible assumption) (by with_reducible assumption) (by with_reducible assumption) hL ((newsSub N10 (by lcg_sub) : News h₀ L _ ((142, o1) :: (178, o2) :: (225, o3) :: (pl, lsO vs2 (e + 1 + 1 + 1)) :: (L + 1 + 1 + 1 + 1 + 1 + 1 + 1, oc7) :: (L + 1 + 1 + 1 + 1 + 1 + 1, oc6) :: (L + 1 + 1 + 1 + 1 + 1, oc5) :: (L + 1 + 1 + 1 + 1, _) :: (L + 1 + 1 + 1, oc3) :: (L + 1 + 1, oc2) :: (L + 1, oc1) :: ((_, instObj 233 _) :: (_, dictOf [ent w (Str.ofString "ring") _ (.ref _)] 1) :: (_, instObj 282 _) :: (_, dictOf [ent w (Str.ofString "q") _ (.int q _), ent w (Str.ofString "n") _ (.int (n : Int) _)] 2) :: (sz, lsO [.int (r : Int) tr, .int (c : Int) tc] 0) :: [])))) (by with_reducible assumption) (by with_reducible assumption) (by with_reducible assumption) (by assumption) (by with_reducible assumption) (by with_reducible assumption) (by with_reducible assumption) (hI2) (by k_all) (by k_all) (by k_all) (by k_all) (by k_all) (by k_all) (by k_all) (by k_all) (by with_reducible assumption) (hps') (by kn_among) (by kn_among) (by kn_among) par (by kn_among) (by k_mem) (hr) (hc) (hn) (by kn_among) (⟨_, _, List.mem_cons_self, List.mem_cons_of_mem _ List.mem_cons_self⟩) (⟨_, _, _, _, _, by k_mem, by k_mem⟩)
end
section
example : True := by
  w_top off
  trivial
set_option maxHeartbeats 4000000 in
theorem stepT8 {w : World} (next : T12 w) : T8 w := by
  refine' LawTail.step (name := ?q1) (params := ?q2) (body := ?q3) (scope := ?q4) (pos := ?q5) (kw := ?q6) next ?h ?p
  (case h => with_unfolding_all rfl)
  intro nx
  intro loose mean mg mb dp un gd outer A₀ base h₀ L fa cd m s Q o1 o2 o3 oc1 oc2 oc3 oc4 oc5 oc6 oc7 news pl vs e ps x1 x5 x6 x7 q a eta dep tq ta te td sz rg md r c n tr tc es B F X T hdp hun hret tb1 tb2 tb3 bare hL N d1 d2 d3 d4 d5 d6 d7 hI n1 n2 n3 k1 k5 k6 k7 np hpl hps hmq hma hme par hmsz hsz hr hc hn hmd hM hR
  dsimp only [List.drop]
  have hxs343 : StopAt 343 := .mk
  have hxc454 : HaltCall 454 := .mk
  have q33 := par.q0
  have q24 := par.q24
  have eta1 := par.eta1
  have eta4 := par.eta4
  have hr0 : 0 < r := by omega
  have hc0 : 0 < c := by omega
  have hr' : r < 2 ^ 11 := by omega
  have hc' : c < 2 ^ 11 := by omega
  have hn' : n < 2 ^ 20 := by omega
  have hn0 : 0 < n := by omega
  have u1 : r * (c * n) ≤ 12 := Nat.mul_le_mul (or12 hr) (Nat.mul_le_mul (or12 hc) (or23 hn))
  have u2 : c * (1 * n) ≤ 6 := Nat.mul_le_mul (or12 hc) (Nat.mul_le_mul (Nat.le_refl 1) (or23 hn))
  have u3 : r * (1 * n) ≤ 6 := Nat.mul_le_mul (or12 hr) (Nat.mul_le_mul (Nat.le_refl 1) (or23 hn))
  have hp6 : ps.length < 2 ^ 20 := by omega
  have lo1 : 12 + 25 ≤ ps.length := by omega
  have hp7 : r * (c * n) ≤ ps.length := Nat.le_trans u1 (Nat.le_trans (by decide) lo1)
  have hc20 : c < 2 ^ 20 := Nat.lt_trans hc' (by decide)
  clear hps
  have c142 := c142of hL
  have c178 := c178of hL
  have c225 := c225of hL
  have hp1 : @Ne Nat pl 142 := by omega
  have hp2 : @Ne Nat pl 178 := by omega
  have hp3 : @Ne Nat pl 225 := by omega
  k_steps
  refine Halt.go ?_
  rename News _ _ _ _ => N1
  rename Fr _ _ _ _ => F1
  k_dflt (refine callPool (news := news) (by k_asm) (by k_asm) (by k_asm) (by k_asm) (by lcg_sub) (by with_reducible assumption) (by with_reducible assumption) (by with_reducible assumption) (by with_reducible assumption) hL d1 d2 d3 d4 d5 d6 d7 (n1) (n2) (n3) (k1) (k5) (k6) (k7) (np) hpl (by with_reducible assumption) (by k_asm) (by kpt_hd) (by kpt_hd) (lawMatrix (q := q) (n := n) (r := r) (c := c) (by exact hM.mono (by lcg_sub)) (by exact hR.mono (by lcg_sub)) (by k_mem) (by first | with_reducible assumption | exact Nat.le_of_ble_eq_true rfl | omega) (by first | with_reducible assumption | exact Nat.le_of_ble_eq_true rfl | omega) (by first | with_reducible assumption | exact Nat.le_of_ble_eq_true rfl | omega) (by first | with_reducible assumption | exact Nat.le_of_ble_eq_true rfl | omega) (by first | with_reducible assumption | exact Nat.le_of_ble_eq_true rfl | omega) (by first | with_reducible assumption | exact Nat.le_of_ble_eq_true rfl | omega) (by first | with_reducible assumption | exact Nat.le_of_ble_eq_true rfl | omega)) (by k_room) (by k_units) ?_)
  clear bare tb1 tb2 tb3 n1 n2 n3 k1 k5 k6 k7 np N1 F1 hI
  intro z1 led1 h9 tk9 gs9 p1 p2 p3 vs9 e9 hs9 hz tb1 tb2 tb3 hI F1 bare N1 n1 n2 n3 k1 k5 k6 k7 np
  generalize hgp : List.drop _ _ = ps2 at hI
  have hps2 : ps2.length = ps.length - r * (c * n) := by rw [← hgp, List.length_drop]
  have lo2 : 6 + 19 ≤ ps2.length := dropLo hps2 u1 lo1
  have hi2 : ps2.length < 2 ^ 20 := dropHi hps2 hp6
  clear hps2
  have hq2 : c * (1 * n) ≤ ps2.length := Nat.le_trans u2 (Nat.le_trans (by decide) lo2)
  clear hgp
  have hx98 : ∃ f, MatAt w led1 md rg z1 r c f ∧ Tame f r c n (2 ^ 24) ∧ True := ⟨_, hz, tame_mod (by omega) (by omega) (by omega), trivial⟩
  obtain ⟨fA, HA, tA, eA⟩ := hx98
  clear hz
  replace hM := hM.mono hs9
  replace hR := hR.mono hs9
  replace hsz := hs9 _ hsz
  clear hs9
  k_steps
  refine Halt.go ?_
  rename News _ _ _ _ => N1
  rename Fr _ _ _ _ => F1
  rename_i tk gl2 hh2 ll2
  k_dflt (refine callPool (news := (gl2, lsO [Value.int (c : Int) tc, Value.int 1 (tk + 1)] 0) :: led1) (by k_asm) (by k_asm) (by k_asm) (by k_asm) (by lcg_sub) (by with_reducible assumption) (by with_reducible assumption) (by with_reducible assumption) (by with_reducible assumption) hL d1 d2 d3 d4 d5 d6 d7 (garNe (faL ll2 mm0) n1) (garNe (faL ll2 mm1) n2) (garNe (faL ll2 mm2) n3) (garNe (faL ll2 mm10) k1) (garNe (faL ll2 mm6) k5) (garNe (faL ll2 mm5) k6) (garNe (faL ll2 mm4) k7) (garNe (faL ll2 mm3) np) hpl (by with_reducible assumption) (by k_asm) (by kpt_hd) (by kpt_hd) (lawMatrix (q := q) (n := n) (r := c) (c := 1) (by exact hM.mono (by lcg_sub)) (by exact hR.mono (by lcg_sub)) (by k_dflt (exact (by k_mem : (gl2, lsO [Value.int (c : Int) tc, Value.int 1 (tk + 1)] 0) ∈ (L + 1 + 1 + 1 + 1 + 1 + 1 + 1, oc7) :: (L + 1 + 1 + 1 + 1 + 1 + 1, oc6) :: (L + 1 + 1 + 1 + 1 + 1, oc5) :: (L + 1 + 1 + 1 + 1, oc4) :: (L + 1 + 1 + 1, oc3) :: (L + 1 + 1, oc2) :: (L + 1, oc1) :: (gl2, lsO [Value.int (c : Int) tc, Value.int 1 (tk + 1)] 0) :: led1))) (by first | with_reducible assumption | exact Nat.le_of_ble_eq_true rfl | omega) (by first | with_reducible assumption | exact Nat.le_of_ble_eq_true rfl | omega) (by first | with_reducible assumption | exact Nat.le_of_ble_eq_true rfl | omega) (by first | with_reducible assumption | exact Nat.le_of_ble_eq_true rfl | omega) (by first | with_reducible assumption | exact Nat.le_of_ble_eq_true rfl | omega) (by first | with_reducible assumption | exact Nat.le_of_ble_eq_true rfl | omega) (by first | with_reducible assumption | exact Nat.le_of_ble_eq_true rfl | omega)) (by k_room) (by k_units) ?_)
  clear bare tb1 tb2 tb3 n1 n2 n3 k1 k5 k6 k7 np N1 F1 hI
  intro z2 led2 h9 tk9 gs9 p1 p2 p3 vs9 e9 hs9 hz tb1 tb2 tb3 hI F1 bare N1 n1 n2 n3 k1 k5 k6 k7 np
  replace hs9 : ∀ p ∈ led1, p ∈ led2 := fun p hp => hs9 p (List.mem_cons_of_mem _ hp)
  generalize hgp : List.drop _ _ = ps3 at hI
  have hps3 : ps3.length = ps2.length - c * (1 * n) := by rw [← hgp, List.length_drop]
  have lo3 : 6 + 13 ≤ ps3.length := dropLo hps3 u2 lo2
  have hi3 : ps3.length < 2 ^ 20 := dropHi hps3 hi2
  clear hps3
  have hq3 : r * (1 * n) ≤ ps3.length := Nat.le_trans u3 (Nat.le_trans (by decide) lo3)
  clear hgp
  have hx98 : ∃ f, MatAt w led2 md rg z2 c 1 f ∧ Tame f c 1 n (8) ∧ True := ⟨_, hz, tame_mod (by omega) (by omega) (by omega), trivial⟩
  obtain ⟨f1, H1, t1, e1⟩ := hx98
  clear hz
  replace hM := hM.mono hs9
  replace hR := hR.mono hs9
  replace hsz := hs9 _ hsz
  replace HA := HA.mono hs9
  clear hs9
  k_steps
  refine Halt.go ?_
  rename News _ _ _ _ => N1
  rename Fr _ _ _ _ => F1
  rename_i tk gl3 hh3 ll3
  k_dflt (refine callPool (news := (gl3, lsO [Value.int (r : Int) tr, Value.int 1 (tk + 1)] 0) :: led2) (by k_asm) (by k_asm) (by k_asm) (by k_asm) (by lcg_sub) (by with_reducible assumption) (by with_reducible assumption) (by with_reducible assumption) (by with_reducible assumption) hL d1 d2 d3 d4 d5 d6 d7 (garNe (faL ll3 mm0) n1) (garNe (faL ll3 mm1) n2) (garNe (faL ll3 mm2) n3) (garNe (faL ll3 mm10) k1) (garNe (faL ll3 mm6) k5) (garNe (faL ll3 mm5) k6) (garNe (faL ll3 mm4) k7) (garNe (faL ll3 mm3) np) hpl (by with_reducible assumption) (by k_asm) (by kpt_hd) (by kpt_hd) (lawMatrix (q := q) (n := n) (r := r) (c := 1) (by exact hM.mono (by lcg_sub)) (by exact hR.mono (by lcg_sub)) (by k_dflt (exact (by k_mem : (gl3, lsO [Value.int (r : Int) tr, Value.int 1 (tk + 1)] 0) ∈ (L + 1 + 1 + 1 + 1 + 1 + 1 + 1, oc7) :: (L + 1 + 1 + 1 + 1 + 1 + 1, oc6) :: (L + 1 + 1 + 1 + 1 + 1, oc5) :: (L + 1 + 1 + 1 + 1, oc4) :: (L + 1 + 1 + 1, oc3) :: (L + 1 + 1, oc2) :: (L + 1, oc1) :: (gl3, lsO [Value.int (r : Int) tr, Value.int 1 (tk + 1)] 0) :: led2))) (by first | with_reducible assumption | exact Nat.le_of_ble_eq_true rfl | omega) (by first | with_reducible assumption | exact Nat.le_of_ble_eq_true rfl | omega) (by first | with_reducible assumption | exact Nat.le_of_ble_eq_true rfl | omega) (by first | with_reducible assumption | exact Nat.le_of_ble_eq_true rfl | omega) (by first | with_reducible assumption | exact Nat.le_of_ble_eq_true rfl | omega) (by first | with_reducible assumption | exact Nat.le_of_ble_eq_true rfl | omega) (by first | with_reducible assumption | exact Nat.le_of_ble_eq_true rfl | omega)) (by k_room) (by k_units) ?_)
  clear bare tb1 tb2 tb3 n1 n2 n3 k1 k5 k6 k7 np N1 F1 hI
  intro z3 led3 h9 tk9 gs9 p1 p2 p3 vs9 e9 hs9 hz tb1 tb2 tb3 hI F1 bare N1 n1 n2 n3 k1 k5 k6 k7 np
  replace hs9 : ∀ p ∈ led2, p ∈ led3 := fun p hp => hs9 p (List.mem_cons_of_mem _ hp)
  generalize hgp : List.drop _ _ = ps4 at hI
  have hps4 : ps4.length = ps3.length - r * (1 * n) := by rw [← hgp, List.length_drop]
  have lo4 : 6 + 7 ≤ ps4.length := dropLo hps4 u3 lo3
  have hi4 : ps4.length < 2 ^ 20 := dropHi hps4 hi3
  clear hps4
  have hq4 : c * (1 * n) ≤ ps4.length := Nat.le_trans u2 (Nat.le_trans (by decide) lo4)
  clear hgp
  have hx98 : ∃ f, MatAt w led3 md rg z3 r 1 f ∧ Tame f r 1 n (8) ∧ ∀ i, i < r → ∀ x ∈ f i 0, -eta ≤ x ∧ x ≤ eta := ⟨_, hz, tame_mod (by omega) (by omega) (by omega), fun i _ => eta_mod eta1⟩
  obtain ⟨f2, H2, t2, e2⟩ := hx98
  clear hz
  replace hM := hM.mono hs9
  replace hR := hR.mono hs9
  replace hsz := hs9 _ hsz
  replace HA := HA.mono hs9
  replace H1 := H1.mono hs9
  clear hs9
  k_steps
  refine Halt.go ?_
  rename News _ _ _ _ => N1
  rename Fr _ _ _ _ => F1
  rename_i tk gl4 hh4 ll4
  k_dflt (refine callPool (news := (gl4, lsO [Value.int (c : Int) tc, Value.int 1 (tk + 1)] 0) :: led3) (by k_asm) (by k_asm) (by k_asm) (by k_asm) (by lcg_sub) (by with_reducible assumption) (by with_reducible assumption) (by with_reducible assumption) (by with_reducible assumption) hL d1 d2 d3 d4 d5 d6 d7 (garNe (faL ll4 mm0) n1) (garNe (faL ll4 mm1) n2) (garNe (faL ll4 mm2) n3) (garNe (faL ll4 mm10) k1) (garNe (faL ll4 mm6) k5) (garNe (faL ll4 mm5) k6) (garNe (faL ll4 mm4) k7) (garNe (faL ll4 mm3) np) hpl (by with_reducible assumption) (by k_asm) (by kpt_hd) (by kpt_hd) (lawMatrix (q := q) (n := n) (r := c) (c := 1) (by exact hM.mono (by lcg_sub)) (by exact hR.mono (by lcg_sub)) (by k_dflt (exact (by k_mem : (gl4, lsO [Value.int (c : Int) tc, Value.int 1 (tk + 1)] 0) ∈ (L + 1 + 1 + 1 + 1 + 1 + 1 + 1, oc7) :: (L + 1 + 1 + 1 + 1 + 1 + 1, oc6) :: (L + 1 + 1 + 1 + 1 + 1, oc5) :: (L + 1 + 1 + 1 + 1, oc4) :: (L + 1 + 1 + 1, oc3) :: (L + 1 + 1, oc2) :: (L + 1, oc1) :: (gl4, lsO [Value.int (c : Int) tc, Value.int 1 (tk + 1)] 0) :: led3))) (by first | with_reducible assumption | exact Nat.le_of_ble_eq_true rfl | omega) (by first | with_reducible assumption | exact Nat.le_of_ble_eq_true rfl | omega) (by first | with_reducible assumption | exact Nat.le_of_ble_eq_true rfl | omega) (by first | with_reducible assumption | exact Nat.le_of_ble_eq_true rfl | omega) (by first | with_reducible assumption | exact Nat.le_of_ble_eq_true rfl | omega) (by first | with_reducible assumption | exact Nat.le_of_ble_eq_true rfl | omega) (by first | with_reducible assumption | exact Nat.le_of_ble_eq_true rfl | omega)) (by k_room) (by k_units) ?_)
  clear bare tb1 tb2 tb3 n1 n2 n3 k1 k5 k6 k7 np N1 F1 hI
  intro z4 led4 h9 tk9 gs9 p1 p2 p3 vs9 e9 hs9 hz tb1 tb2 tb3 hI F1 bare N1 n1 n2 n3 k1 k5 k6 k7 np
  replace hs9 : ∀ p ∈ led3, p ∈ led4 := fun p hp => hs9 p (List.mem_cons_of_mem _ hp)
  generalize hgp : List.drop _ _ = ps5 at hI
  have hps5 : ps5.length = ps4.length - c * (1 * n) := by rw [← hgp, List.length_drop]
  have lo5 : 0 + 7 ≤ ps5.length := dropLo hps5 u2 lo4
  have hi5 : ps5.length < 2 ^ 20 := dropHi hps5 hi4
  clear hps5
  clear hgp
  have hx98 : ∃ f, MatAt w led4 md rg z4 c 1 f ∧ Tame f c 1 n (2 ^ 24) ∧ True := ⟨_, hz, tame_mod (by omega) (by omega) (by omega), trivial⟩
  obtain ⟨fm, Hm, tm, em⟩ := hx98
  clear hz
  replace hM := hM.mono hs9
  replace hR := hR.mono hs9
  replace hsz := hs9 _ hsz
  replace HA := HA.mono hs9
  replace H1 := H1.mono hs9
  replace H2 := H2.mono hs9
  clear hs9
  k_steps
  refine Halt.go ?_
  rename News _ _ _ _ => N1
  rename Fr _ _ _ _ => F1
  exact nx  (B) (F1) X T hdp hun hret (by with_reducible assumption) (by with_reducible assumption) (by with_reducible assumption) (by with_reducible assumption) hL (N1) (by with_reducible assumption) (by with_reducible assumption) (by with_reducible assumption) (by with_reducible assumption) (by with_reducible assumption) (by with_reducible assumption) (by with_reducible assumption) (by with_reducible assumption) (by with_reducible assumption) (by with_reducible assumption) (by with_reducible assumption) (by with_reducible assumption) (by with_reducible assumption) (by with_reducible assumption) (by with_reducible assumption) (by with_reducible assumption) (by with_reducible assumption) (Nat.le_trans (by decide) lo5) (hi5) (by kn_among) (by kn_among) (by kn_among) par (by kn_among) (by with_reducible assumption) (by with_reducible assumption) (by with_reducible assumption) (by with_reducible assumption) (by kn_among) (by with_reducible assumption) (by with_reducible assumption) (by kn_among) (HA) (by kn_among) (H1) (by kn_among) (H2) (by kn_among) (Hm) (tA) (t1) (t2) (e2) (tm)
end
section
example : True := by
  w_top off
  trivial
theorem off3 {x d l c : Addr} {ox od ol : Obj} {news : Led} (h1 : c ≠ x) (h2 : c ≠ d) (h3 : c ≠ l) (hn : ∀ p ∈ news, p.1 ≠ c) : ∀ p ∈ (x, ox) :: (d, od) :: (l, ol) :: news, p.1 ≠ c := fun p hp => by
  simp only [List.mem_cons] at hp
  rcases hp with rfl | rfl | rfl | hp
  · exact Ne.symm h1
  · exact Ne.symm h2
  · exact Ne.symm h3
  · exact hn p hp
theorem signs_of {n : Nat} {ps : List Int} : ∀ x ∈ (List.range n).map (fun k => ps.getD k 0 % 3 - 1), -1 ≤ x ∧ x ≤ 1 := fun x hx => by
  obtain ⟨k, _, rfl⟩ := List.mem_map.mp hx
  omega
local macro_rules | `(tactic| walk_at "exec Assign cons ListComp") => `(tactic| (k_here; refine halt ?_))
local macro_rules | `(tactic| walk_at "call builtin:list.pop") => `(tactic| (k_here; refine halt ?_))
local macro_rules | `(tactic| walk_at "call ref") => `(tactic| (k_here; kco_any "__call__"; kco_here; k_dflt (refine wpAny_call ?_; refine kco_code (by k_in) (by k_inst) rfl (by k_is) (by k_is) (by k_is) ?_; (try dsimp only); refine halt ?_)))
set_option maxHeartbeats 4000000 in
theorem stepT12 {w : World} (next : T14 w) : T12 w := by
  refine' LawTail.step (name := ?q1) (params := ?q2) (body := ?q3) (scope := ?q4) (pos := ?q5) (kw := ?q6) next ?h ?p
  (case h => with_unfolding_all rfl)
  intro nx
  intro loose mean mg mb dp un gd outer A₀ base h₀ L fa cd m s Q o1 o2 o3 oc1 oc2 oc3 oc4 oc5 oc6 oc7 news pl vs e ps x1 x5 x6 x7 q a eta dep tq ta te td sz rg md r c n tr tc es xA x1' x2' xm fA f1 f2 fm B F X T hdp hun hret tb1 tb2 tb3 bare hL N d1 d2 d3 d4 d5 d6 d7 hI n1 n2 n3 k1 k5 k6 k7 np hpl hps hps2 hmq hma hme par hmsz hsz hr hc hn hmd hM hR hA HA h1 H1 h2 H2 hm Hm tA t1 t2 t2e tm
  dsimp only [List.drop]
  have hxs345 : StopAt 345 := .mk
  have q33 := par.q0
  have hn' : n < 2 ^ 20 := by omega
  have hn0 : 0 < n := by omega
  obtain ⟨dr, r1, r2, r3, r4, hr1, hr2⟩ := id hR
  k_steps
  refine Halt.go ?_
  rename News _ _ _ _ => N1
  rename Fr _ _ _ _ => F1
  replace N1 : News h₀ L _ ((pl, lsO vs e) :: ((L + 1 + 1 + 1 + 1 + 1 + 1 + 1, oc7) :: (L + 1 + 1 + 1 + 1 + 1 + 1, oc6) :: (L + 1 + 1 + 1 + 1 + 1, oc5) :: (L + 1 + 1 + 1 + 1, oc4) :: (L + 1 + 1 + 1, oc3) :: (L + 1 + 1, oc2) :: (L + 1, oc1) :: (142, o1) :: (178, o2) :: (225, o3) :: news)) := newsSub N1 (by lcg_sub)
  k_dflt (refine comp_assignM (by k_asm) (by rfl) (by with_unfolding_all rfl) (by with_unfolding_all rfl) (by rfl) (by decide) (by rfl) (by rfl) ?_)
  k_steps
  rename News _ _ _ _ => N3
  rename Fr _ _ _ _ => F3
  refine srcY_pool (IntEl fun k => ps.getD k 0 % 3 - 1) 0 1 (by rfl) F3 N3 (by assumption) (by omega) (by rfl) (by rfl) (fun _ => by rfl) (by simpa using hI) ?hne ?turn ?fin
  (case hne => k_all)
  (case turn =>
    intro g3 C3 k tk' oC3 m3 led3 vs3 e3 h3 tk3 E3 hk hC3 hmk qC3 hs3 off3' hI3 F₃ N₃
    rw [Nat.zero_add, Nat.mul_one] at hI3
    obtain ⟨t3, vs3', rfl, hI3'⟩ := ints_drop hI3 (by omega)
    have q31 : (L + 1 + 1, oc2) ∈ led3 := hs3 _ (by k_mem)
    clear N3 F3 hs3 nx
    k_steps
    refine Halt.go ?_
    rename Fr _ _ _ _ => F7
    rename News _ _ _ _ => N7
    k_dflt (refine pop0 F7 N7 (Upd.head off3') (by rw [hI3'.length, List.length_drop]; omega) ?_)
    intro h8 F8 N8
    clear N7 F7
    k_steps
    rename Fr _ _ _ _ => F9
    rename News _ _ _ _ => N9
    exact ⟨_, _, [], vs3', _, rfl, by rw [Nat.mul_one, Nat.zero_add]; exact hI3', F9, N9, (fun _ h => nomatch h), rfl, _, by rw [Int.fmod_eq_emod_of_nonneg _ (by omega)]⟩)
  intro g3
  refine finPoolA ?_
  intro D1 h1 tk1 ys1 new1 vs2 e2 hI2 F₁ N₁ oD1 ap1 hd1
  have hIs : IntsAre ys1 ((List.range n).map fun k => ps.getD k 0 % 3 - 1) := hd1.ints (by simp) fun k hk => by simp [List.getD_eq_getElem?_getD, List.getElem?_map, List.getElem?_range hk]
  have o142 : 142 ≠ D1 := oD1 (142, o1) (by k_mem)
  have o178 : 178 ≠ D1 := oD1 (178, o2) (by k_mem)
  have o225 : 225 ≠ D1 := oD1 (225, o3) (by k_mem)
  have oL1 : L + 1 ≠ D1 := oD1 (L + 1, oc1) (by k_mem)
  have oL5 : L + 1 + 1 + 1 + 1 + 1 ≠ D1 := oD1 (L + 1 + 1 + 1 + 1 + 1, oc5) (by k_mem)
  have oL6 : L + 1 + 1 + 1 + 1 + 1 + 1 ≠ D1 := oD1 (L + 1 + 1 + 1 + 1 + 1 + 1, oc6) (by k_mem)
  have oL7 : L + 1 + 1 + 1 + 1 + 1 + 1 + 1 ≠ D1 := oD1 (L + 1 + 1 + 1 + 1 + 1 + 1 + 1, oc7) (by k_mem)
  replace N₁ : News h₀ L h1 ((D1, LCg.lst ys1) :: ((142, o1) :: (178, o2) :: (225, o3) :: (L + 1 + 1 + 1 + 1 + 1 + 1 + 1, oc7) :: (L + 1 + 1 + 1 + 1 + 1 + 1, oc6) :: (L + 1 + 1 + 1 + 1 + 1, oc5) :: (L + 1 + 1 + 1 + 1, oc4) :: (L + 1 + 1 + 1, oc3) :: (L + 1 + 1, oc2) :: (L + 1, oc1) :: news)) := newsSub N₁ (subCons List.mem_cons_self (subTail (subR (subTail (by lcg_sub)))))
  clear N3 F3 oD1 ap1
  generalize hgc : (List.range n).map (fun k => ps.getD k 0 % 3 - 1) = cs at hIs
  have lcs : cs.length = n := by rw [← hgc]; simp
  have bcs : ∀ x ∈ cs, -1 ≤ x ∧ x ≤ 1 := by rw [← hgc]; exact signs_of
  clear hgc hd1
  k_steps
  refine Halt.go ?_
  k_dflt (refine useRing (q := q) (n := (n : Int)) (by k_asm) (by k_asm) (by k_asm) (by k_asm) (by k_asm) (by kpt_hd) (by kpt_hd) (hR.mono (by lcg_sub)) (by k_mem) hIs (by omega) (by omega) (by k_room) (by k_units) ?_)
  intro x9 dx9 t9 u9 h9 tk9 F9 N9 kx kd
  replace N9 : News h₀ L h9 ((142, o1) :: (178, o2) :: (225, o3) :: (L + 1 + 1 + 1 + 1 + 1 + 1 + 1, oc7) :: (L + 1 + 1 + 1 + 1 + 1 + 1, oc6) :: (L + 1 + 1 + 1 + 1 + 1, oc5) :: (L + 1 + 1 + 1 + 1, oc4) :: (L + 1 + 1 + 1, oc3) :: (L + 1 + 1, oc2) :: (L + 1, oc1) :: ((x9, instObj 445 dx9) :: (dx9, dictOf [ent w (Str.ofString "parent") t9 (.ref rg), ent w (Str.ofString "coeffs") u9 (.ref D1)] 2) :: (D1, LCg.lst ys1) :: news)) := newsSub N9 (by lcg_sub)
  have n1' := off3 (ox := instObj 445 dx9) (od := dictOf [ent w (Str.ofString "parent") t9 (.ref rg), ent w (Str.ofString "coeffs") u9 (.ref D1)] 2) (ol := LCg.lst ys1) (kx (142, o1) (by k_mem)) (kd (142, o1) (by k_mem)) o142 n1
  have n2' := off3 (ox := instObj 445 dx9) (od := dictOf [ent w (Str.ofString "parent") t9 (.ref rg), ent w (Str.ofString "coeffs") u9 (.ref D1)] 2) (ol := LCg.lst ys1) (kx (178, o2) (by k_mem)) (kd (178, o2) (by k_mem)) o178 n2
  have n3' := off3 (ox := instObj 445 dx9) (od := dictOf [ent w (Str.ofString "parent") t9 (.ref rg), ent w (Str.ofString "coeffs") u9 (.ref D1)] 2) (ol := LCg.lst ys1) (kx (225, o3) (by k_mem)) (kd (225, o3) (by k_mem)) o225 n3
  have k1' := off3 (ox := instObj 445 dx9) (od := dictOf [ent w (Str.ofString "parent") t9 (.ref rg), ent w (Str.ofString "coeffs") u9 (.ref D1)] 2) (ol := LCg.lst ys1) (kx (L + 1, oc1) (by k_mem)) (kd (L + 1, oc1) (by k_mem)) oL1 k1
  have k5' := off3 (ox := instObj 445 dx9) (od := dictOf [ent w (Str.ofString "parent") t9 (.ref rg), ent w (Str.ofString "coeffs") u9 (.ref D1)] 2) (ol := LCg.lst ys1) (kx (L + 1 + 1 + 1 + 1 + 1, oc5) (by k_mem)) (kd (L + 1 + 1 + 1 + 1 + 1, oc5) (by k_mem)) oL5 k5
  have k6' := off3 (ox := instObj 445 dx9) (od := dictOf [ent w (Str.ofString "parent") t9 (.ref rg), ent w (Str.ofString "coeffs") u9 (.ref D1)] 2) (ol := LCg.lst ys1) (kx (L + 1 + 1 + 1 + 1 + 1 + 1, oc6) (by k_mem)) (kd (L + 1 + 1 + 1 + 1 + 1 + 1, oc6) (by k_mem)) oL6 k6
  have k7' := off3 (ox := instObj 445 dx9) (od := dictOf [ent w (Str.ofString "parent") t9 (.ref rg), ent w (Str.ofString "coeffs") u9 (.ref D1)] 2) (ol := LCg.lst ys1) (kx (L + 1 + 1 + 1 + 1 + 1 + 1 + 1, oc7) (by k_mem)) (kd (L + 1 + 1 + 1 + 1 + 1 + 1 + 1, oc7) (by k_mem)) oL7 k7
  have sub : ∀ p ∈ news, p ∈ ((x9, instObj 445 dx9) :: (dx9, dictOf [ent w (Str.ofString "parent") t9 (.ref rg), ent w (Str.ofString "coeffs") u9 (.ref D1)] 2) :: (D1, LCg.lst ys1) :: news) := by lcg_sub
  clear kx kd
  k_steps
  refine Halt.go ?_
  rename News _ _ _ _ => N10
  rename Fr _ _ _ _ => F10
  exact nx  (B) (F10) X T hdp hun hret (by with_reducible assumption) (by with_reducible assumption) (by with_reducible assumption) (by with_reducible assumption) hL (N10) (by with_reducible assumption) (by with_reducible assumption) (by with_reducible assumption) (by with_reducible assumption) (by with_reducible assumption) (by with_reducible assumption) (by with_reducible assumption) (n1') (n2') (n3') (k1') (k5') (k6') (k7') (by kn_among) (by kn_among) (by kn_among) par (by kn_among) (sub _ hsz) (by with_reducible assumption) (by with_reducible assumption) (by with_reducible assumption) (by kn_among) (hM.mono sub) (hR.mono sub) (by kn_among) (HA.mono sub) (by kn_among) (H1.mono sub) (by kn_among) (H2.mono sub) (by kn_among) (Hm.mono sub) (by with_reducible assumption) (by with_reducible assumption) (by with_reducible assumption) (by with_reducible assumption) (by with_reducible assumption) (by kn_among) (List.mem_cons_of_mem _ (List.mem_cons_of_mem _ List.mem_cons_self)) (hIs) (lcs) (bcs) (by kn_among) (⟨dx9, D1, _, t9, u9, ys1, List.mem_cons_self, List.mem_cons_of_mem _ List.mem_cons_self, List.mem_cons_of_mem _ (List.mem_cons_of_mem _ List.mem_cons_self), hIs⟩)
end
section
example : True := by
  w_top off
  trivial
set_option maxHeartbeats 4000000 in
theorem stepT14 {w : World} (next : T15 w) : T14 w := by
  refine' LawTail.step (name := ?q1) (params := ?q2) (body := ?q3) (scope := ?q4) (pos := ?q5) (kw := ?q6) next ?h ?p
  (case h => with_unfolding_all rfl)
  intro nx
  intro loose mean mg mb dp un gd outer A₀ base h₀ L fa cd m s Q o1 o2 o3 oc1 oc2 oc3 oc4 oc5 oc6 oc7 news x1 x2 x5 x6 x7 q a eta dep tq ta te td sz rg md r c n tr tc es xA x1' x2' xm fA f1 f2 fm sg xc cs vsg eg B F X T hdp hun hret tb1 tb2 tb3 bare hL N d1 d2 d3 d4 d5 d6 d7 n1 n2 n3 k1 k5 k6 k7 hmq hma hme par hmsz hsz hr hc hn hmd hM hR hA HA h1 H1 h2 H2 hm Hm tA t1 t2 t2e tm hsg Hsg Isg lcs bcs hch Hch
  dsimp only [List.drop]
  have hxc181 : HaltCall 181 := .mk
  have hxc157 : HaltCall 157 := .mk
  have hxs346 : StopAt 346 := .mk
  have q33 := par.q0
  have q24 := par.q24
  have q0 : 0 < q := by omega
  have hr0 : 0 < r := by omega
  have hc0 : 0 < c := by omega
  have hr' : r < 2 ^ 11 := by omega
  have hc' : c < 2 ^ 11 := by omega
  have hn' : n < 2 ^ 20 := by omega
  have hni := nInt hn
  have hni' : (n : Int) < 2 ^ 20 := by omega
  have c142 := c142of hL
  have c178 := c178of hL
  have c225 := c225of hL
  obtain ⟨jHA1, jHA2, jHA3, jHA4, jHA5, jHAa, jHAb, _⟩ := id HA
  obtain ⟨jH11, jH12, jH13, jH14, jH15, jH1a, jH1b, _⟩ := id H1
  (try (show wpAny _ _ _ _ _ _))
  (try dsimp only)
  k_steps
  refine Halt.go ?_
  rename News _ _ _ _ => N1
  rename Fr _ _ _ _ => F1
  k_dflt (refine callMat (news := news) (by k_asm) (by k_asm) (by k_asm) (by k_asm) (by lcg_sub) (by with_reducible assumption) (by with_reducible assumption) (by with_reducible assumption) hL d1 d2 d3 d4 d5 d6 d7 (n1) (n2) (n3) (k1) (k5) (k6) (k7) (by with_reducible assumption) (by k_asm) (by kpt_hd) (by kpt_hd) (mmul (q := q) (n := (n : Int)) (r := r) (c := c) (l := 1) (hM.mono (by lcg_sub)) (hR.mono (by lcg_sub)) (HA.mono (by lcg_sub)) (H1.mono (by lcg_sub)) hr0 hr' hc0 hc' (by decide) q0 hni tA.len t1.len (tA.small (by decide)) (t1.small (by decide))) (by k_room) (by k_units) ?_)
  clear bare tb1 tb2 tb3 n1 n2 n3 k1 k5 k6 k7 N1 F1
  intro zp led1 h9 tk9 gs9 p1 p2 p3 hs9 HP tb1 tb2 tb3 F1 bare N1 n1 n2 n3 k1 k5 k6 k7
  replace hM := hM.mono hs9
  replace hR := hR.mono hs9
  replace hsz := hs9 _ hsz
  replace HA := HA.mono hs9
  replace H1 := H1.mono hs9
  replace H2 := H2.mono hs9
  replace Hm := Hm.mono hs9
  replace Hsg := hs9 _ Hsg
  replace Hch := Hch.mono hs9
  clear hs9
  have tP := tame_prod q0 q24 hn hc0 tA t1
  obtain ⟨jHP1, jHP2, jHP3, jHP4, jHP5, jHPa, jHPb, _⟩ := id HP
  obtain ⟨jH21, jH22, jH23, jH24, jH25, jH2a, jH2b, _⟩ := id H2
  (try (show wpAny _ _ _ _ _ _))
  (try dsimp only)
  k_steps
  refine Halt.go ?_
  rename News _ _ _ _ => N1
  rename Fr _ _ _ _ => F1
  k_dflt (refine callMat (news := led1) (by k_asm) (by k_asm) (by k_asm) (by k_asm) (by lcg_sub) (by with_reducible assumption) (by with_reducible assumption) (by with_reducible assumption) hL d1 d2 d3 d4 d5 d6 d7 (n1) (n2) (n3) (k1) (k5) (k6) (k7) (by with_reducible assumption) (by k_asm) (by kpt_hd) (by kpt_hd) (madd (q := q) (n := (n : Int)) (r := r) (c := 1) (hM.mono (by lcg_sub)) (hR.mono (by lcg_sub)) (HP.mono (by lcg_sub)) (H2.mono (by lcg_sub)) hr0 hr' (by decide) q0 hni' tP.len t2.len) (by k_room) (by k_units) ?_)
  clear bare tb1 tb2 tb3 n1 n2 n3 k1 k5 k6 k7 N1 F1
  intro zw led2 h9 tk9 gs9 p1 p2 p3 hs9 Hw tb1 tb2 tb3 F1 bare N1 n1 n2 n3 k1 k5 k6 k7
  replace hM := hM.mono hs9
  replace hR := hR.mono hs9
  replace hsz := hs9 _ hsz
  replace HA := HA.mono hs9
  replace H1 := H1.mono hs9
  replace H2 := H2.mono hs9
  replace Hm := Hm.mono hs9
  replace Hsg := hs9 _ Hsg
  replace Hch := Hch.mono hs9
  clear hs9
  (try (show wpAny _ _ _ _ _ _))
  (try dsimp only)
  k_steps
  refine Halt.go ?_
  rename News _ _ _ _ => N1
  rename Fr _ _ _ _ => F1
  exact nx  B (F1) X T hdp hun hret (by with_reducible assumption) (by with_reducible assumption) (by with_reducible assumption) (by with_reducible assumption) hL (N1) (by with_reducible assumption) (by with_reducible assumption) (by with_reducible assumption) (by with_reducible assumption) (by with_reducible assumption) (by with_reducible assumption) (by with_reducible assumption) (by with_reducible assumption) (by with_reducible assumption) (by with_reducible assumption) (by with_reducible assumption) (by with_reducible assumption) (by with_reducible assumption) (by with_reducible assumption) (by kn_among) (by kn_among) (by kn_among) par (by kn_among) (by with_reducible assumption) (by with_reducible assumption) (by with_reducible assumption) (by with_reducible assumption) (by kn_among) (by with_reducible assumption) (by with_reducible assumption) (by kn_among) (HA) (by kn_among) (H1) (by kn_among) (H2) (by kn_among) (Hm) (by with_reducible assumption) (by with_reducible assumption) (by with_reducible assumption) (by with_reducible assumption) (by with_reducible assumption) (by kn_among) (by with_reducible assumption) (by with_reducible assumption) (by with_reducible assumption) (by with_reducible assumption) (by kn_among) (by with_reducible assumption) (Hw)
end
section
example : True := by
  w_top off
  trivial
local macro_rules | `(tactic| walk_at "binaryOp Pow int int") => `(tactic| (k_here; k_dflt (refine pow_int_small (by kpt_fact) (by kpt_fact) (by kpt_fact) ?_)))
local macro_rules | `(tactic| walk_at "exec Assign cons ListComp") => `(tactic| (k_here; refine PyProof.wpAny_Assign_Name ?_ ?_; rotate_left; (with_unfolding_all rfl)))
local macro_rules | `(tactic| walk_at "eval ListComp") => `(tactic| (k_here; refine halt ?_))
local macro_rules | `(tactic| walk_at "call ref") => `(tactic| (k_here; (with_reducible show wpAny _ _ (call (Value.ref 133) _) _ _ _); k_dflt (refine useNilP (by k_asm) (by k_asm) (by k_asm) (by k_asm) (by k_asm) (by kpt_hd) (by kpt_hd) (mget0 (by with_reducible assumption) (by lcg_sub) (by k_mem) (by kpt_fact) (by kpt_fact)) (by k_room) (by k_units) ?_; k_whole); k_dflt (intro y9 h9 tk9 F9 N9 p9; (have q9 := p9); (obtain ⟨dy9, ly9, ey9, t9, u9, v9, a9, b9, c9, d9⟩ := q9); (try dsimp only [List.nil_append, List.cons_append] at N9); (try k_sweep))))
local macro_rules | `(tactic| walk_at "call ref") => `(tactic| (k_here; (with_reducible show wpAny _ _ (call (Value.ref 28) _) _ _ _); k_dflt (refine useNilA (by k_asm) (by k_asm) (by k_asm) (by k_asm) (by k_asm) (by kpt_hd) (by kpt_hd) (rmodC (by kpt_fact)) (by k_room) (by k_units) ?_; k_whole); k_dflt (intro t9 h9 tk9 F9 N9; (try dsimp only [List.nil_append, List.cons_append] at N9); (try k_sweep))))
set_option maxHeartbeats 4000000 in
theorem stepT15 {w : World} (next : T16 w) : T15 w := by
  refine' LawTail.step (name := ?q1) (params := ?q2) (body := ?q3) (scope := ?q4) (pos := ?q5) (kw := ?q6) next ?h ?p
  (case h => with_unfolding_all rfl)
  intro nx
  intro loose mean mg mb dp un gd outer A₀ base h₀ L fa cd m s Q o1 o2 o3 oc1 oc2 oc3 oc4 oc5 oc6 oc7 news x1 x2 x6 x7 q a eta dep tq ta te td sz rg md r c n tr tc es xA x1' x2' xm fA f1 f2 fm sg xc cs vsg eg xw B F X T hdp hun hret tb1 tb2 tb3 bare hL N d1 d2 d3 d4 d5 d6 d7 n1 n2 n3 k1 k5 k6 k7 hmq hma hme par hmsz hsz hr hc hn hmd hM hR hA HA h1 H1 h2 H2 hm Hm tA t1 t2 t2e tm hsg Hsg Isg lcs bcs hch Hch Hw
  dsimp only [List.drop]
  have hxs347 : StopAt 347 := .mk
  have q33 := par.q0
  have q24 := par.q24
  have hr0 : 0 < r := by omega
  have hr' : r < 2 ^ 20 := by omega
  have hn' : n < 2 ^ 20 := by omega
  have tW : ∀ i, i < r → (fWhole q c fA f1 f2 i 0).length = n := fun i hi => (tame_add (by omega) q24 (tame_prod (by omega) q24 hn (by omega) tA t1) t2 i 0 hi (by omega)).1
  generalize hfw : fWhole q c fA f1 f2 = fw at *
  obtain ⟨jw1, jw2, jw3, jw4, jw5, jwa, jwb, _⟩ := id Hw
  k_steps
  refine Halt.go ?_
  rename News _ _ _ _ => N1
  rename Fr _ _ _ _ => F1
  k_dflt (refine comp_expr (by k_asm) (by with_unfolding_all rfl) (by rfl) (by decide) ?_)
  k_steps
  rename News _ _ _ _ => N3
  rename Fr _ _ _ _ => F3
  refine src_rangeL (IntRowEl (fLows dep fw)) (by rfl) F3 N3 (by assumption) (by omega) (by rfl) (by rfl) (fun _ => by rfl) ?turn ?fin
  (case turn =>
    intro C i g1 ti oC m₂ led1 h tk E' hi hC hmi qC hs1 F₁ N₁
    clear N3 F3 nx
    k_steps
    refine Halt.go ?_
    k_dflt (refine comp_expr (by k_asm) (by with_unfolding_all rfl) (by rfl) (by decide) ?_)
    k_steps
    rename_i dy ly ey ty uy vy ay hby hcy hdy
    rename News _ _ _ _ => N4
    rename Fr _ _ _ _ => F4
    refine src_listI (IntEl fun k => rmod ((fw i 0).getD k 0) (2 ^ dep)) (by rfl) F4 N4 (by k_mem) hdy (tW i hi) hn' (by rfl) (by rfl) (fun _ => by rfl) ?turn2 ?fin2
    (case turn2 =>
      intro C2 k g2 tx oC2 m2 led2 h2 tk2 E2 hk hC2 hm2 qC2 hs2 F₂ N₂
      clear N4 F4
      have pp := pow_in par.dep13
      have d13 := par.dep13
      have pp1 := pp.1
      have pp2 : (0 : Int) < 2 ^ (dep : Int).toNat := by rw [Int.toNat_natCast]; exact pp1
      k_steps
      rename News _ _ _ _ => N5
      rename Fr _ _ _ _ => F5
      exact ⟨_, _, [], rfl, F5, N5, apNil, rfl, _, by rw [Int.toNat_natCast]⟩)
    intro g2
    unfold FinG
    intro D2 h2 tk2 ys2 new2 F₂ N₂ oD2 ap2 hd2
    have hI2 : IntsAre ys2 (fLows dep fw i) := hd2.ints (by unfold fLows; rw [List.length_map, tW i hi]) fun k hk => by
      unfold fLows
      have hk' : k < (fw i 0).length := by rw [tW i hi]; exact hk
      simp [List.getD_eq_getElem?_getD, List.getElem?_map, List.getElem?_eq_getElem hk']
    k_steps
    exact ⟨_, _, [(D2, LCg.lst ys2)], rfl, F₂, newsSub N₂ (by lcg_sub), apCons (neSub oD2 (by lcg_sub)) apNil, D2, rfl, ys2, _, List.mem_cons_self, hI2⟩)
  intro g1
  unfold FinG
  intro D1 h1 tk1 ys1 new1 F₁ N₁ oD1 ap1 hd1
  clear N3 F3
  have hrows := intRowsOf (D := D1) hd1
  have hx98 : ∃ led : Led, (∀ p ∈ news, p ∈ led) ∧ News h₀ L h1 ((142, o1) :: (178, o2) :: (225, o3) :: (L + 1 + 1 + 1 + 1 + 1 + 1 + 1, oc7) :: (L + 1 + 1 + 1 + 1 + 1 + 1, oc6) :: (L + 1 + 1 + 1 + 1 + 1, oc5) :: (L + 1 + 1 + 1 + 1, oc4) :: (L + 1 + 1 + 1, oc3) :: (L + 1 + 1, oc2) :: (L + 1, oc1) :: led) ∧ (∀ p ∈ led, p.1 ≠ 142) ∧ (∀ p ∈ led, p.1 ≠ 178) ∧ (∀ p ∈ led, p.1 ≠ 225) ∧ (∀ p ∈ led, p.1 ≠ L + 1) ∧ (∀ p ∈ led, p.1 ≠ L + 1 + 1 + 1 + 1 + 1) ∧ (∀ p ∈ led, p.1 ≠ L + 1 + 1 + 1 + 1 + 1 + 1) ∧ (∀ p ∈ led, p.1 ≠ L + 1 + 1 + 1 + 1 + 1 + 1 + 1) ∧ IntRows led D1 r (fLows dep fw) :=
    ⟨(D1, LCg.lst ys1) :: (new1 ++ news), by lcg_sub, newsSub N₁ (by lcg_sub), newsOff oD1 ap1 (by k_mem) n1, newsOff oD1 ap1 (by k_mem) n2, newsOff oD1 ap1 (by k_mem) n3, newsOff oD1 ap1 (by k_mem) k1, newsOff oD1 ap1 (by k_mem) k5, newsOff oD1 ap1 (by k_mem) k6, newsOff oD1 ap1 (by k_mem) k7, hrows.mono (by lcg_sub)⟩
  obtain ⟨led, hs9, N2, i1, i2, i3, y1, y5, y6, y7, Hlw⟩ := hx98
  clear N₁ oD1 ap1 hd1 hrows n1 n2 n3 k1 k5 k6 k7
  k_steps
  refine Halt.go ?_
  rename News _ _ _ _ => N10
  rename Fr _ _ _ _ => F10
  subst hfw
  exact nx  (B) (F10) X T hdp hun hret (by with_reducible assumption) (by with_reducible assumption) (by with_reducible assumption) (by with_reducible assumption) hL (N10) (by with_reducible assumption) (by with_reducible assumption) (by with_reducible assumption) (by with_reducible assumption) (by with_reducible assumption) (by with_reducible assumption) (by with_reducible assumption) (by with_reducible assumption) (by with_reducible assumption) (by with_reducible assumption) (by with_reducible assumption) (by with_reducible assumption) (by with_reducible assumption) (by with_reducible assumption) (by kn_among) (by kn_among) (by kn_among) par (by kn_among) (hs9 _ hsz) (by with_reducible assumption) (by with_reducible assumption) (by with_reducible assumption) (by kn_among) (hM.mono hs9) (hR.mono hs9) (by kn_among) (HA.mono hs9) (by kn_among) (H1.mono hs9) (by kn_among) (H2.mono hs9) (by kn_among) (Hm.mono hs9) (by with_reducible assumption) (by with_reducible assumption) (by with_reducible assumption) (by with_reducible assumption) (by with_reducible assumption) (by kn_among) (hs9 _ Hsg) (by with_reducible assumption) (by with_reducible assumption) (by with_reducible assumption) (by kn_among) (Hch.mono hs9) (Hw.mono hs9) (Hlw)
end
section
example : True := by
  w_top off
  trivial
local macro_rules | `(tactic| walk_at "exec Assign cons ListComp") => `(tactic| (k_here; refine halt ?_))
local macro_rules | `(tactic| walk_at "eval ListComp") => `(tactic| (k_here; refine halt ?_))
local macro_rules | `(tactic| walk_at "call type:zip") => `(tactic| (k_here; refine halt ?_))
local macro_rules | `(tactic| walk_at "call ref") => `(tactic| (k_here; (with_reducible show wpAny _ _ (call (Value.ref 133) _) _ _ _); k_dflt (refine useNilP (by k_asm) (by k_asm) (by k_asm) (by k_asm) (by k_asm) (by kpt_hd) (by kpt_hd) (mget0 (by with_reducible assumption) (by lcg_sub) (by k_mem) (by kpt_fact) (by kpt_fact)) (by k_room) (by k_units) ?_; k_whole); k_dflt (intro y9 h9 tk9 F9 N9 p9; (have q9 := p9); (obtain ⟨dy9, ly9, ey9, t9, u9, v9, a9, b9, c9, d9⟩ := q9); (try dsimp only [List.nil_append, List.cons_append] at N9); (try k_sweep))))
set_option maxHeartbeats 4000000 in
theorem stepT16 {w : World} (next : T17 w) : T16 w := by
  refine' LawTail.step (name := ?q1) (params := ?q2) (body := ?q3) (scope := ?q4) (pos := ?q5) (kw := ?q6) next ?h ?p
  (case h => with_unfolding_all rfl)
  intro nx
  intro loose mean mg mb dp un gd outer A₀ base h₀ L fa cd m s Q o1 o2 o3 oc1 oc2 oc3 oc4 oc5 oc6 oc7 news x1 x2 x6 q a eta dep tq ta te td sz rg md r c n tr tc es xA x1' x2' xm fA f1 f2 fm sg xc cs vsg eg xw lw B F X T hdp hun hret tb1 tb2 tb3 bare hL N d1 d2 d3 d4 d5 d6 d7 n1 n2 n3 k1 k5 k6 k7 hmq hma hme par hmsz hsz hr hc hn hmd hM hR hA HA h1 H1 h2 H2 hm Hm tA t1 t2 t2e tm hsg Hsg Isg lcs bcs hch Hch Hw Hlw
  dsimp only [List.drop]
  have hxs348 : StopAt 348 := .mk
  have q33 := par.q0
  have q24 := par.q24
  have hr0 : 0 < r := by omega
  have hr' : r < 2 ^ 20 := by omega
  have hn' : n < 2 ^ 20 := by omega
  have tW : ∀ i, i < r → (fWhole q c fA f1 f2 i 0).length = n := fun i hi => (tame_add (by omega) q24 (tame_prod (by omega) q24 hn (by omega) tA t1) t2 i 0 hi (by omega)).1
  generalize hfw : fWhole q c fA f1 f2 = fw at *
  obtain ⟨jw1, jw2, jw3, jw4, jw5, jwa, jwb, _⟩ := id Hw
  obtain ⟨xs, ex, hlw1, hlw2, hlw3⟩ := id Hlw
  k_steps
  refine Halt.go ?_
  rename News _ _ _ _ => N1
  rename Fr _ _ _ _ => F1
  k_dflt (refine comp_assign (by k_asm) (by rfl) (by with_unfolding_all rfl) (by with_unfolding_all rfl) (by rfl) (by decide) (by rfl) (by rfl) ?_)
  k_steps
  rename News _ _ _ _ => N3
  rename Fr _ _ _ _ => F3
  refine src_rangeL (IntRowEl (fHighs dep fw)) (by rfl) F3 N3 (by assumption) (by omega) (by rfl) (by rfl) (fun _ => by rfl) ?turn ?fin
  (case turn =>
    intro C i g1 ti oC m₂ led1 h tk E' hi hC hmi qC hs1 F₁ N₁
    obtain ⟨lx, hlx, hlx'⟩ := at_ref (xs := xs) (i := i) (by omega)
    obtain ⟨vl, el, hl4, hl5⟩ := hlw3 i lx hlx
    clear N3 F3 nx
    k_steps
    refine Halt.go ?_
    k_dflt (refine comp_expr (by k_asm) (by with_unfolding_all rfl) (by rfl) (by decide) ?_)
    k_steps
    refine Halt.go ?_
    rename_i dy ly ey ty uy vy ay hby hcy hdy
    rename News _ _ _ _ => N4
    rename Fr _ _ _ _ => F4
    have hlow : (fLows dep fw i).length = n := by unfold fLows; rw [List.length_map, tW i hi]
    refine src_zipI (IntEl fun k => (fw i 0).getD k 0 - (fLows dep fw i).getD k 0) (by rfl) F4 N4 (by k_mem) (by k_mem) hdy hl5 (tW i hi) hlow hn' (by rfl) (by rfl) (by rfl) (by decide) (fun _ => by rfl) ?turn2 ?fin2
    (case turn2 =>
      intro C2 k g2 t1' t2' oC2 m2 led2 h2 tk2 E2 hk hC2 hx1 hx2 qC2 hs2 F₂ N₂
      clear N4 F4
      k_steps
      rename News _ _ _ _ => N5
      rename Fr _ _ _ _ => F5
      exact ⟨_, _, [], rfl, F5, N5, apNil, rfl, _, rfl⟩)
    intro g2
    unfold FinG
    intro D2 h2 tk2 ys2 new2 F₂ N₂ oD2 ap2 hd2
    have hI2 : IntsAre ys2 (fHighs dep fw i) := hd2.ints (by unfold fHighs; rw [List.length_zipWith, tW i hi, hlow, Nat.min_self]) fun k hk => by
      have hk' : k < (fw i 0).length := by rw [tW i hi]; exact hk
      have hk2 : k < (fLows dep fw i).length := by rw [hlow]; exact hk
      unfold fHighs
      simp only [List.getD_eq_getElem?_getD, List.getElem?_zipWith]
      simp [List.getElem?_eq_getElem hk', List.getElem?_eq_getElem hk2]
    k_steps
    exact ⟨_, _, [(D2, LCg.lst ys2)], rfl, F₂, newsSub N₂ (by lcg_sub), apCons (neSub oD2 (by lcg_sub)) apNil, D2, rfl, ys2, _, List.mem_cons_self, hI2⟩)
  intro g1
  unfold FinGA
  intro D1 h1 tk1 ys1 new1 F₁ N₁ oD1 ap1 hd1
  clear N3 F3
  have hrows := intRowsOf (D := D1) hd1
  have hx98 : ∃ led : Led, (∀ p ∈ news, p ∈ led) ∧ News h₀ L h1 ((142, o1) :: (178, o2) :: (225, o3) :: (L + 1 + 1 + 1 + 1 + 1 + 1 + 1, oc7) :: (L + 1 + 1 + 1 + 1 + 1 + 1, oc6) :: (L + 1 + 1 + 1 + 1 + 1, oc5) :: (L + 1 + 1 + 1 + 1, oc4) :: (L + 1 + 1 + 1, oc3) :: (L + 1 + 1, oc2) :: (L + 1, oc1) :: led) ∧ (∀ p ∈ led, p.1 ≠ 142) ∧ (∀ p ∈ led, p.1 ≠ 178) ∧ (∀ p ∈ led, p.1 ≠ 225) ∧ (∀ p ∈ led, p.1 ≠ L + 1) ∧ (∀ p ∈ led, p.1 ≠ L + 1 + 1 + 1 + 1 + 1) ∧ (∀ p ∈ led, p.1 ≠ L + 1 + 1 + 1 + 1 + 1 + 1) ∧ (∀ p ∈ led, p.1 ≠ L + 1 + 1 + 1 + 1 + 1 + 1 + 1) ∧ IntRows led D1 r (fHighs dep fw) :=
    ⟨(D1, LCg.lst ys1) :: (new1 ++ news), by lcg_sub, newsSub N₁ (by lcg_sub), newsOff oD1 ap1 (by k_mem) n1, newsOff oD1 ap1 (by k_mem) n2, newsOff oD1 ap1 (by k_mem) n3, newsOff oD1 ap1 (by k_mem) k1, newsOff oD1 ap1 (by k_mem) k5, newsOff oD1 ap1 (by k_mem) k6, newsOff oD1 ap1 (by k_mem) k7, hrows.mono (by lcg_sub)⟩
  obtain ⟨led, hs9, N2, i1, i2, i3, y1, y5, y6, y7, Hhg⟩ := hx98
  clear N₁ oD1 ap1 hd1 hrows n1 n2 n3 k1 k5 k6 k7
  k_steps
  refine Halt.go ?_
  rename News _ _ _ _ => N10
  rename Fr _ _ _ _ => F10
  subst hfw
  exact nx  (B) (F10) X T hdp hun hret (by with_reducible assumption) (by with_reducible assumption) (by with_reducible assumption) (by with_reducible assumption) hL (N10) (by with_reducible assumption) (by with_reducible assumption) (by with_reducible assumption) (by with_reducible assumption) (by with_reducible assumption) (by with_reducible assumption) (by with_reducible assumption) (by with_reducible assumption) (by with_reducible assumption) (by with_reducible assumption) (by with_reducible assumption) (by with_reducible assumption) (by with_reducible assumption) (by with_reducible assumption) (by kn_among) (by kn_among) (by kn_among) par (by kn_among) (hs9 _ hsz) (by with_reducible assumption) (by with_reducible assumption) (by with_reducible assumption) (by kn_among) (hM.mono hs9) (hR.mono hs9) (by kn_among) (HA.mono hs9) (by kn_among) (H1.mono hs9) (by kn_among) (H2.mono hs9) (by kn_among) (Hm.mono hs9) (by with_reducible assumption) (by with_reducible assumption) (by with_reducible assumption) (by with_reducible assumption) (by with_reducible assumption) (by kn_among) (hs9 _ Hsg) (by with_reducible assumption) (by with_reducible assumption) (by with_reducible assumption) (by kn_among) (Hch.mono hs9) (Hlw.mono hs9) (by kn_among) (Hhg)
end
section
example : True := by
  w_top off
  trivial
set_option maxHeartbeats 4000000 in
theorem stepT17 {w : World} (next : T18 w) : T17 w := by
  refine' LawTail.step (name := ?q1) (params := ?q2) (body := ?q3) (scope := ?q4) (pos := ?q5) (kw := ?q6) next ?h ?p
  (case h => with_unfolding_all rfl)
  intro nx
  intro loose mean mg mb dp un gd outer A₀ base h₀ L fa cd m s Q o1 o2 o3 oc1 oc2 oc3 oc4 oc5 oc6 oc7 news x1 x2 x5 x6 q a eta dep tq ta te td sz rg md r c n tr tc es xA x1' x2' xm fA f1 f2 fm sg xc cs vsg eg lw hg B F X T hdp hun hret tb1 tb2 tb3 bare hL N d1 d2 d3 d4 d5 d6 d7 n1 n2 n3 k1 k5 k6 k7 hmq hma hme par hmsz hsz hr hc hn hmd hM hR hA HA h1 H1 h2 H2 hm Hm tA t1 t2 t2e tm hsg Hsg Isg lcs bcs hch Hch Hlw hhg Hhg
  dsimp only [List.drop]
  have hxc181 : HaltCall 181 := .mk
  have hxc186 : HaltCall 186 := .mk
  have hxs349 : StopAt 349 := .mk
  have q33 := par.q0
  have q24 := par.q24
  have q0 : 0 < q := by omega
  have hr0 : 0 < r := by omega
  have hc0 : 0 < c := by omega
  have hr' : r < 2 ^ 11 := by omega
  have hc' : c < 2 ^ 11 := by omega
  have hn' : n < 2 ^ 20 := by omega
  have hni := nInt hn
  have hni' : (n : Int) < 2 ^ 20 := by omega
  have c142 := c142of hL
  have c178 := c178of hL
  have c225 := c225of hL
  obtain ⟨jHA1, jHA2, jHA3, jHA4, jHA5, jHAa, jHAb, _⟩ := id HA
  obtain ⟨jHm1, jHm2, jHm3, jHm4, jHm5, jHma, jHmb, _⟩ := id Hm
  obtain ⟨jH21, jH22, jH23, jH24, jH25, jH2a, jH2b, _⟩ := id H2
  have lcsi : (cs.length : Int) = n := by rw [lcs]
  have scs : Small cs := fun x hx => by have := bcs x hx; omega
  (try (show wpAny _ _ _ _ _ _))
  (try dsimp only)
  k_steps
  refine Halt.go ?_
  rename News _ _ _ _ => N1
  rename Fr _ _ _ _ => F1
  k_dflt (refine callMat (news := news) (by k_asm) (by k_asm) (by k_asm) (by k_asm) (by lcg_sub) (by with_reducible assumption) (by with_reducible assumption) (by with_reducible assumption) hL d1 d2 d3 d4 d5 d6 d7 (n1) (n2) (n3) (k1) (k5) (k6) (k7) (by with_reducible assumption) (by k_asm) (by kpt_hd) (by kpt_hd) (mmul (q := q) (n := (n : Int)) (r := r) (c := c) (l := 1) (hM.mono (by lcg_sub)) (hR.mono (by lcg_sub)) (HA.mono (by lcg_sub)) (Hm.mono (by lcg_sub)) hr0 hr' hc0 hc' (by decide) q0 hni tA.len tm.len (tA.small (by decide)) (tm.small (by decide))) (by k_room) (by k_units) ?_)
  clear bare tb1 tb2 tb3 n1 n2 n3 k1 k5 k6 k7 N1 F1
  intro zp led1 h9 tk9 gs9 p1 p2 p3 hs9 HW tb1 tb2 tb3 F1 bare N1 n1 n2 n3 k1 k5 k6 k7
  replace hM := hM.mono hs9
  replace hR := hR.mono hs9
  replace hsz := hs9 _ hsz
  replace HA := HA.mono hs9
  replace H1 := H1.mono hs9
  replace Hm := Hm.mono hs9
  replace Hsg := hs9 _ Hsg
  replace Hch := Hch.mono hs9
  replace Hlw := Hlw.mono hs9
  replace Hhg := Hhg.mono hs9
  replace H2 := H2.mono hs9
  clear hs9
  obtain ⟨jH21, jH22, jH23, jH24, jH25, jH2a, jH2b, _⟩ := id H2
  (try (show wpAny _ _ _ _ _ _))
  (try dsimp only)
  k_steps
  refine Halt.go ?_
  rename News _ _ _ _ => N1
  rename Fr _ _ _ _ => F1
  k_dflt (refine callMat (news := led1) (by k_asm) (by k_asm) (by k_asm) (by k_asm) (by lcg_sub) (by with_reducible assumption) (by with_reducible assumption) (by with_reducible assumption) hL d1 d2 d3 d4 d5 d6 d7 (n1) (n2) (n3) (k1) (k5) (k6) (k7) (by with_reducible assumption) (by k_asm) (by kpt_hd) (by kpt_hd) (mscale (q := q) (n := (n : Int)) (r := r) (c := 1) (hM.mono (by lcg_sub)) (hR.mono (by lcg_sub)) (H2.mono (by lcg_sub)) (Hch.mono (by lcg_sub)) hr0 hr' (by decide) q0 hni t2.len lcsi (t2.small (by decide)) scs) (by k_room) (by k_units) ?_)
  clear bare tb1 tb2 tb3 n1 n2 n3 k1 k5 k6 k7 N1 F1
  intro zw led2 h9 tk9 gs9 p1 p2 p3 hs9 HS tb1 tb2 tb3 F1 bare N1 n1 n2 n3 k1 k5 k6 k7
  replace hM := hM.mono hs9
  replace hR := hR.mono hs9
  replace hsz := hs9 _ hsz
  replace HA := HA.mono hs9
  replace H1 := H1.mono hs9
  replace Hm := Hm.mono hs9
  replace Hsg := hs9 _ Hsg
  replace Hch := Hch.mono hs9
  replace Hlw := Hlw.mono hs9
  replace Hhg := Hhg.mono hs9
  replace HW := HW.mono hs9
  clear hs9
  (try (show wpAny _ _ _ _ _ _))
  (try dsimp only)
  k_steps
  refine Halt.go ?_
  rename News _ _ _ _ => N1
  rename Fr _ _ _ _ => F1
  exact nx  B (F1) X T hdp hun hret (by with_reducible assumption) (by with_reducible assumption) (by with_reducible assumption) (by with_reducible assumption) hL (newsSub N1 (subTail fun _ h => h)) (by with_reducible assumption) (by with_reducible assumption) (by with_reducible assumption) (by with_reducible assumption) (by with_reducible assumption) (by with_reducible assumption) (by with_reducible assumption) (by with_reducible assumption) (by with_reducible assumption) (by with_reducible assumption) (by with_reducible assumption) (by with_reducible assumption) (by with_reducible assumption) (by with_reducible assumption) (by kn_among) (by kn_among) (by kn_among) par (by kn_among) (by with_reducible assumption) (by with_reducible assumption) (by with_reducible assumption) (by with_reducible assumption) (by kn_among) (by with_reducible assumption) (by with_reducible assumption) (by kn_among) (HA) (by kn_among) (H1) (by kn_among) (Hm) (by with_reducible assumption) (by with_reducible assumption) (by with_reducible assumption) (by with_reducible assumption) (by with_reducible assumption) (by kn_among) (by with_reducible assumption) (by with_reducible assumption) (by with_reducible assumption) (by with_reducible assumption) (by kn_among) (by with_reducible assumption) (by with_reducible assumption) (by kn_among) (by with_reducible assumption) (by kn_among) (HW) (by kn_among) (HS)
end
section
example : True := by
  w_top off
  trivial
local macro_rules | `(tactic| walk_at "eval ListComp") => `(tactic| (k_here; refine halt ?_))
local macro_rules | `(tactic| walk_at "call ref") => `(tactic| (k_here; kco_any "__call__"; kco_here; k_dflt (refine wpAny_call ?_; refine kco_code (by k_in) (by k_inst) rfl (by k_is) (by k_is) (by k_is) ?_; (try dsimp only); refine halt ?_)))
set_option maxHeartbeats 4000000 in
theorem stepT18 {w : World} (next : T19 w) : T18 w := by
  refine' LawTail.step (name := ?q1) (params := ?q2) (body := ?q3) (scope := ?q4) (pos := ?q5) (kw := ?q6) next ?h ?p
  (case h => with_unfolding_all rfl)
  intro nx
  intro loose mean mg mb dp un gd outer A₀ base h₀ L fa cd m s Q o1 o2 o3 oc1 oc2 oc3 oc4 oc5 oc6 oc7 news x1 x2 x5 x6 q a eta dep tq ta te td sz rg md r c n tr tc es xA x1' xm fA f1 f2 fm sg xc cs vsg eg lw hg yw ys B F X T hdp hun hret tb1 tb2 tb3 bare hL N d1 d2 d3 d4 d5 d6 d7 n1 n2 n3 k1 k5 k6 k7 hmq hma hme par hmsz hsz hr hc hn hmd hM hR hA HA h1 H1 hm Hm tA t1 t2 t2e tm hsg Hsg Isg lcs bcs hch Hch Hlw hhg Hhg hw Hw hs Hs
  dsimp only [List.drop]
  have hxc186 : HaltCall 186 := .mk
  have hxs350 : StopAt 350 := .mk
  have q33 := par.q0
  have q24 := par.q24
  have q0 : 0 < q := by omega
  have hr0 : 0 < r := by omega
  have hc0 : 0 < c := by omega
  have hr' : r < 2 ^ 11 := by omega
  have hc' : c < 2 ^ 11 := by omega
  have hn' : n < 2 ^ 20 := by omega
  have hni := nInt hn
  have hni' : (n : Int) < 2 ^ 20 := by omega
  have c142 := c142of hL
  have c178 := c178of hL
  have c225 := c225of hL
  have lcsi : (cs.length : Int) = n := by rw [lcs]
  have scs : Small cs := fun x hx => by have := bcs x hx; omega
  have tW := tame_add q0 q24 (tame_prod q0 q24 hn hc0 tA t1) t2
  have tL := tame_lows (f := fWhole q c fA f1 f2) par.dep13 tW
  have lens : ∀ i, i < r → ((fLows dep (fWhole q c fA f1 f2)) i).length = n := fun i hi => (tL i 0 hi (by omega)).1
  obtain ⟨dr, r1, r2, r3, r4, hr1, hr2⟩ := id hR
  obtain ⟨dm, tm', hm1, hm2⟩ := id hM
  (try (show wpAny _ _ _ _ _ _))
  (try dsimp only)
  k_steps
  refine Halt.go ?_
  obtain ⟨xs, ex, hx1, hx2, hx3⟩ := id Hlw
  k_dflt (refine comp_expr (by k_asm) (by with_unfolding_all rfl) (by rfl) (by decide) ?_)
  k_steps
  rename News _ _ _ _ => N3
  rename Fr _ _ _ _ => F3
  refine src_listR (fun i y part => RowEl w rg 1 (fun i _ => (fLows dep (fWhole q c fA f1 f2)) i) i y (part ++ news)) (by rfl) F3 N3 (by k_mem) hx2 (by omega) (by rfl) (by rfl) (fun _ => by rfl) ?turn9 ?fin9
  (case turn9 =>
    intro C i g1 lx oC m₂ ledT h tk E' hi' hlx hC hmi qC hsT F₁ N₁
    obtain ⟨vl, el, hl4, hl5⟩ := hx3 i lx hlx
    have hle := lens i hi'
    clear N3 F3 nx
    k_steps
    refine Halt.go ?_
    k_dflt (refine useRing (q := q) (n := (n : Int)) (by k_asm) (by k_asm) (by k_asm) (by k_asm) (by k_asm) (by kpt_hd) (by kpt_hd) (hR.mono (by lcg_sub)) (by k_mem) hl5 (by omega) (by omega) (by k_room) (by k_units) ?_)
    intro x9 dx9 t9 u9 h9 tk9 F9 N9 kx kd
    k_steps
    rename News _ _ _ _ => N5
    rename Fr _ _ _ _ => F5
    exact ⟨_, _, [(_, _), (_, _), (_, _)], rfl, F5, newsSub N5 (by simp only [List.cons_append, List.nil_append]; lcg_sub), (by lcg_src), _, rfl, rowOne (e0 := 0) List.mem_cons_self (List.mem_cons_of_mem _ List.mem_cons_self) (List.mem_cons_of_mem _ (List.mem_cons_of_mem _ List.mem_cons_self)) (List.mem_append_right _ hl4) hl5⟩)
  intro g1
  unfold FinG
  intro D1 h1 tk1 ys1 new1 F₁ N₁ oD1 ap1 hd1
  clear N3 F3
  have hdat := dataOfO (D := D1) hd1
  have hx98 : ∃ led : Led, (∀ p ∈ news, p ∈ led) ∧ News h₀ L h1 ((142, o1) :: (178, o2) :: (225, o3) :: (L + 1 + 1 + 1 + 1 + 1 + 1 + 1, oc7) :: (L + 1 + 1 + 1 + 1 + 1 + 1, oc6) :: (L + 1 + 1 + 1 + 1 + 1, oc5) :: (L + 1 + 1 + 1 + 1, oc4) :: (L + 1 + 1 + 1, oc3) :: (L + 1 + 1, oc2) :: (L + 1, oc1) :: led) ∧ (∀ p ∈ led, p.1 ≠ 142) ∧ (∀ p ∈ led, p.1 ≠ 178) ∧ (∀ p ∈ led, p.1 ≠ 225) ∧ (∀ p ∈ led, p.1 ≠ L + 1) ∧ (∀ p ∈ led, p.1 ≠ L + 1 + 1 + 1 + 1 + 1) ∧ (∀ p ∈ led, p.1 ≠ L + 1 + 1 + 1 + 1 + 1 + 1) ∧ (∀ p ∈ led, p.1 ≠ L + 1 + 1 + 1 + 1 + 1 + 1 + 1) ∧ DataAt w led rg D1 r 1 (fun i _ => (fLows dep (fWhole q c fA f1 f2)) i) :=
    ⟨(D1, LCg.lst ys1) :: (new1 ++ news), by lcg_sub, newsSub N₁ (by lcg_sub), newsOff oD1 ap1 (by k_mem) n1, newsOff oD1 ap1 (by k_mem) n2, newsOff oD1 ap1 (by k_mem) n3, newsOff oD1 ap1 (by k_mem) k1, newsOff oD1 ap1 (by k_mem) k5, newsOff oD1 ap1 (by k_mem) k6, newsOff oD1 ap1 (by k_mem) k7, hdat⟩
  obtain ⟨led1, hs9, N2, i1, i2, i3, y1, y5, y6, y7, Hdat1⟩ := hx98
  clear N₁ oD1 ap1 hd1 hdat n1 n2 n3 k1 k5 k6 k7
  revert N2 i1 i2 i3 y1 y5 y6 y7
  intro N1 n1 n2 n3 k1 k5 k6 k7
  replace hM := hM.mono hs9
  replace hR := hR.mono hs9
  replace hsz := hs9 _ hsz
  replace Hsg := hs9 _ Hsg
  replace HA := HA.mono hs9
  replace H1 := H1.mono hs9
  replace Hm := Hm.mono hs9
  replace Hch := Hch.mono hs9
  replace Hhg := Hhg.mono hs9
  replace Hw := Hw.mono hs9
  replace Hs := Hs.mono hs9
  replace hm1 := hs9 _ hm1
  replace hm2 := hs9 _ hm2
  clear hs9
  (try (show wpAny _ _ _ _ _ _))
  (try dsimp only)
  k_steps
  refine Halt.go ?_
  rename News _ _ _ _ => N1
  rename Fr _ _ _ _ => F1
  k_dflt (refine callMatC (news := led1) (by k_asm) (by k_asm) (by k_asm) (by k_asm) (by lcg_sub) (by with_reducible assumption) (by with_reducible assumption) (by with_reducible assumption) hL d1 d2 d3 d4 d5 d6 d7 (n1) (n2) (n3) (k1) (k5) (k6) (k7) (by with_reducible assumption) (by k_asm) (by kpt_hd) (by kpt_hd) (mcall (q := q) (n := (n : Int)) (r := r) (c := 1) callArgs2 (hM.mono (by lcg_sub)) (hR.mono (by lcg_sub)) (Hdat1.mono (by lcg_sub)) hr0 hr' (by decide)) (by k_room) (by k_units) ?_)
  clear bare tb1 tb2 tb3 n1 n2 n3 k1 k5 k6 k7 N1 F1
  intro zp led2 h9 tk9 gs9 p1 p2 p3 hs9 HP tb1 tb2 tb3 F1 bare N1 n1 n2 n3 k1 k5 k6 k7
  replace hM := hM.mono hs9
  replace hR := hR.mono hs9
  replace hsz := hs9 _ hsz
  replace Hsg := hs9 _ Hsg
  replace HA := HA.mono hs9
  replace H1 := H1.mono hs9
  replace Hm := Hm.mono hs9
  replace Hch := Hch.mono hs9
  replace Hhg := Hhg.mono hs9
  replace Hw := Hw.mono hs9
  replace Hs := Hs.mono hs9
  clear hs9
  obtain ⟨jHP1, jHP2, jHP3, jHP4, jHP5, jHPa, jHPb, _⟩ := id HP
  (try (show wpAny _ _ _ _ _ _))
  (try dsimp only)
  k_steps
  refine Halt.go ?_
  rename News _ _ _ _ => N1
  rename Fr _ _ _ _ => F1
  k_dflt (refine callMat (news := led2) (by k_asm) (by k_asm) (by k_asm) (by k_asm) (by lcg_sub) (by with_reducible assumption) (by with_reducible assumption) (by with_reducible assumption) hL d1 d2 d3 d4 d5 d6 d7 (n1) (n2) (n3) (k1) (k5) (k6) (k7) (by with_reducible assumption) (by k_asm) (by kpt_hd) (by kpt_hd) (mscale (q := q) (n := (n : Int)) (r := r) (c := 1) (hM.mono (by lcg_sub)) (hR.mono (by lcg_sub)) (HP.mono (by lcg_sub)) (Hch.mono (by lcg_sub)) hr0 hr' (by decide) q0 hni tL.len lcsi (tL.small (by decide)) scs) (by k_room) (by k_units) ?_)
  clear bare tb1 tb2 tb3 n1 n2 n3 k1 k5 k6 k7 N1 F1
  intro zw led3 h9 tk9 gs9 p1 p2 p3 hs9 Hl tb1 tb2 tb3 F1 bare N1 n1 n2 n3 k1 k5 k6 k7
  replace hM := hM.mono hs9
  replace hR := hR.mono hs9
  replace hsz := hs9 _ hsz
  replace Hsg := hs9 _ Hsg
  replace HA := HA.mono hs9
  replace H1 := H1.mono hs9
  replace Hm := Hm.mono hs9
  replace Hch := Hch.mono hs9
  replace Hhg := Hhg.mono hs9
  replace Hw := Hw.mono hs9
  replace Hs := Hs.mono hs9
  clear hs9
  (try (show wpAny _ _ _ _ _ _))
  (try dsimp only)
  k_steps
  refine Halt.go ?_
  rename News _ _ _ _ => N1
  rename Fr _ _ _ _ => F1
  exact nx  B (F1) X T hdp hun hret (by with_reducible assumption) (by with_reducible assumption) (by with_reducible assumption) (by with_reducible assumption) hL (N1) (by with_reducible assumption) (by with_reducible assumption) (by with_reducible assumption) (by with_reducible assumption) (by with_reducible assumption) (by with_reducible assumption) (by with_reducible assumption) (by with_reducible assumption) (by with_reducible assumption) (by with_reducible assumption) (by with_reducible assumption) (by with_reducible assumption) (by with_reducible assumption) (by with_reducible assumption) (by kn_among) (by kn_among) (by kn_among) par (by kn_among) (by with_reducible assumption) (by with_reducible assumption) (by with_reducible assumption) (by with_reducible assumption) (by kn_among) (by with_reducible assumption) (by with_reducible assumption) (by kn_among) (HA) (by kn_among) (H1) (by kn_among) (Hm) (by with_reducible assumption) (by with_reducible assumption) (by with_reducible assumption) (by with_reducible assumption) (by with_reducible assumption) (by kn_among) (by with_reducible assumption) (by with_reducible assumption) (by with_reducible assumption) (by with_reducible assumption) (by kn_among) (by with_reducible assumption) (by kn_among) (by with_reducible assumption) (by kn_among) (Hw) (by kn_among) (Hs) (by kn_among) (Hl)
end
section
example : True := by
  w_top off
  trivial
set_option maxHeartbeats 4000000 in
theorem stepT19 {w : World} (next : T20 w) : T19 w := by
  refine' LawTail.step (name := ?q1) (params := ?q2) (body := ?q3) (scope := ?q4) (pos := ?q5) (kw := ?q6) next ?h ?p
  (case h => with_unfolding_all rfl)
  intro nx
  intro loose mean mg mb dp un gd outer A₀ base h₀ L fa cd m s Q o1 o2 o3 oc1 oc2 oc3 oc4 oc5 oc6 oc7 news x1 x2 x5 x6 x7 q a eta dep tq ta te td sz rg md r c n tr tc es xA x1' xm fA f1 f2 fm sg xc cs vsg eg hg yw ys yl B F X T hdp hun hret tb1 tb2 tb3 bare hL N d1 d2 d3 d4 d5 d6 d7 n1 n2 n3 k1 k5 k6 k7 hmq hma hme par hmsz hsz hr hc hn hmd hM hR hA HA h1 H1 hm Hm tA t1 t2 t2e tm hsg Hsg Isg lcs bcs hch Hch hhg Hhg hw Hw hs Hs hl Hl
  dsimp only [List.drop]
  have hxc157 : HaltCall 157 := .mk
  have hxc186 : HaltCall 186 := .mk
  have hxs351 : StopAt 351 := .mk
  have q33 := par.q0
  have q24 := par.q24
  have q0 : 0 < q := by omega
  have hr0 : 0 < r := by omega
  have hc0 : 0 < c := by omega
  have hr' : r < 2 ^ 11 := by omega
  have hc' : c < 2 ^ 11 := by omega
  have hn' : n < 2 ^ 20 := by omega
  have hni := nInt hn
  have hni' : (n : Int) < 2 ^ 20 := by omega
  have c142 := c142of hL
  have c178 := c178of hL
  have c225 := c225of hL
  obtain ⟨jH11, jH12, jH13, jH14, jH15, jH1a, jH1b, _⟩ := id H1
  obtain ⟨jHm1, jHm2, jHm3, jHm4, jHm5, jHma, jHmb, _⟩ := id Hm
  have lcsi : (cs.length : Int) = n := by rw [lcs]
  have scs : Small cs := fun x hx => by have := bcs x hx; omega
  (try (show wpAny _ _ _ _ _ _))
  (try dsimp only)
  k_steps
  refine Halt.go ?_
  rename News _ _ _ _ => N1
  rename Fr _ _ _ _ => F1
  k_dflt (refine callMat (news := news) (by k_asm) (by k_asm) (by k_asm) (by k_asm) (by lcg_sub) (by with_reducible assumption) (by with_reducible assumption) (by with_reducible assumption) hL d1 d2 d3 d4 d5 d6 d7 (n1) (n2) (n3) (k1) (k5) (k6) (k7) (by with_reducible assumption) (by k_asm) (by kpt_hd) (by kpt_hd) (mscale (q := q) (n := (n : Int)) (r := c) (c := 1) (hM.mono (by lcg_sub)) (hR.mono (by lcg_sub)) (H1.mono (by lcg_sub)) (Hch.mono (by lcg_sub)) hc0 hc' (by decide) q0 hni t1.len lcsi (t1.small (by decide)) scs) (by k_room) (by k_units) ?_)
  clear bare tb1 tb2 tb3 n1 n2 n3 k1 k5 k6 k7 N1 F1
  intro zp led1 h9 tk9 gs9 p1 p2 p3 hs9 HP tb1 tb2 tb3 F1 bare N1 n1 n2 n3 k1 k5 k6 k7
  replace hM := hM.mono hs9
  replace hR := hR.mono hs9
  replace hsz := hs9 _ hsz
  replace Hsg := hs9 _ Hsg
  replace HA := HA.mono hs9
  replace Hch := Hch.mono hs9
  replace Hhg := Hhg.mono hs9
  replace Hw := Hw.mono hs9
  replace Hs := Hs.mono hs9
  replace Hl := Hl.mono hs9
  replace Hm := Hm.mono hs9
  clear hs9
  have tP := tame_scale q0 q24 hn lcs t1
  obtain ⟨jHP1, jHP2, jHP3, jHP4, jHP5, jHPa, jHPb, _⟩ := id HP
  obtain ⟨jHm1, jHm2, jHm3, jHm4, jHm5, jHma, jHmb, _⟩ := id Hm
  (try (show wpAny _ _ _ _ _ _))
  (try dsimp only)
  k_steps
  refine Halt.go ?_
  rename News _ _ _ _ => N1
  rename Fr _ _ _ _ => F1
  k_dflt (refine callMat (news := led1) (by k_asm) (by k_asm) (by k_asm) (by k_asm) (by lcg_sub) (by with_reducible assumption) (by with_reducible assumption) (by with_reducible assumption) hL d1 d2 d3 d4 d5 d6 d7 (n1) (n2) (n3) (k1) (k5) (k6) (k7) (by with_reducible assumption) (by k_asm) (by kpt_hd) (by kpt_hd) (madd (q := q) (n := (n : Int)) (r := c) (c := 1) (hM.mono (by lcg_sub)) (hR.mono (by lcg_sub)) (Hm.mono (by lcg_sub)) (HP.mono (by lcg_sub)) hc0 hc' (by decide) q0 hni' tm.len tP.len) (by k_room) (by k_units) ?_)
  clear bare tb1 tb2 tb3 n1 n2 n3 k1 k5 k6 k7 N1 F1
  intro zw led2 h9 tk9 gs9 p1 p2 p3 hs9 Ha tb1 tb2 tb3 F1 bare N1 n1 n2 n3 k1 k5 k6 k7
  replace hM := hM.mono hs9
  replace hR := hR.mono hs9
  replace hsz := hs9 _ hsz
  replace Hsg := hs9 _ Hsg
  replace HA := HA.mono hs9
  replace Hch := Hch.mono hs9
  replace Hhg := Hhg.mono hs9
  replace Hw := Hw.mono hs9
  replace Hs := Hs.mono hs9
  replace Hl := Hl.mono hs9
  clear hs9
  (try (show wpAny _ _ _ _ _ _))
  (try dsimp only)
  k_steps
  refine Halt.go ?_
  rename News _ _ _ _ => N1
  rename Fr _ _ _ _ => F1
  exact nx  B (F1) X T hdp hun hret (by with_reducible assumption) (by with_reducible assumption) (by with_reducible assumption) (by with_reducible assumption) hL (N1) (by with_reducible assumption) (by with_reducible assumption) (by with_reducible assumption) (by with_reducible assumption) (by with_reducible assumption) (by with_reducible assumption) (by with_reducible assumption) (by with_reducible assumption) (by with_reducible assumption) (by with_reducible assumption) (by with_reducible assumption) (by with_reducible assumption) (by with_reducible assumption) (by with_reducible assumption) (by kn_among) (by kn_among) (by kn_among) par (by kn_among) (by with_reducible assumption) (by with_reducible assumption) (by with_reducible assumption) (by with_reducible assumption) (by kn_among) (by with_reducible assumption) (by with_reducible assumption) (by kn_among) (HA) (by with_reducible assumption) (by with_reducible assumption) (by with_reducible assumption) (by with_reducible assumption) (by with_reducible assumption) (by kn_among) (by with_reducible assumption) (by with_reducible assumption) (by with_reducible assumption) (by with_reducible assumption) (by kn_among) (by with_reducible assumption) (by kn_among) (by with_reducible assumption) (by kn_among) (Hw) (by kn_among) (Hs) (by kn_among) (Hl) (by kn_among) (Ha)
end
section
example : True := by
  w_top off
  trivial
local macro_rules | `(tactic| walk_at "eval ListComp") => `(tactic| (k_here; refine halt ?_))
local macro_rules | `(tactic| walk_at "call ref") => `(tactic| (k_here; kco_any "__call__"; kco_here; k_dflt (refine wpAny_call ?_; refine kco_code (by k_in) (by k_inst) rfl (by k_is) (by k_is) (by k_is) ?_; (try dsimp only); refine halt ?_)))
set_option maxHeartbeats 4000000 in
theorem stepT20 {w : World} (next : T21 w) : T20 w := by
  refine' LawTail.step (name := ?q1) (params := ?q2) (body := ?q3) (scope := ?q4) (pos := ?q5) (kw := ?q6) next ?h ?p
  (case h => with_unfolding_all rfl)
  intro nx
  intro loose mean mg mb dp un gd outer A₀ base h₀ L fa cd m s Q o1 o2 o3 oc1 oc2 oc3 oc4 oc5 oc6 oc7 news x1 x2 x5 x6 x7 q a eta dep tq ta te td sz rg md r c n tr tc es xA fA f1 f2 fm sg xc cs vsg eg hg yw ys yl ya B F X T hdp hun hret tb1 tb2 tb3 bare hL N d1 d2 d3 d4 d5 d6 d7 n1 n2 n3 k1 k5 k6 k7 hmq hma hme par hmsz hsz hr hc hn hmd hM hR hA HA tA t1 t2 t2e tm hsg Hsg Isg lcs bcs hch Hch hhg Hhg hw Hw hs Hs hl Hl ha Ha
  dsimp only [List.drop]
  have hxc181 : HaltCall 181 := .mk
  have hxc186 : HaltCall 186 := .mk
  have hxc169 : HaltCall 169 := .mk
  have hxs352 : StopAt 352 := .mk
  have q33 := par.q0
  have q24 := par.q24
  have q0 : 0 < q := by omega
  have hr0 : 0 < r := by omega
  have hc0 : 0 < c := by omega
  have hr' : r < 2 ^ 11 := by omega
  have hc' : c < 2 ^ 11 := by omega
  have hn' : n < 2 ^ 20 := by omega
  have hni := nInt hn
  have hni' : (n : Int) < 2 ^ 20 := by omega
  have c142 := c142of hL
  have c178 := c178of hL
  have c225 := c225of hL
  have lcsi : (cs.length : Int) = n := by rw [lcs]
  have scs : Small cs := fun x hx => by have := bcs x hx; omega
  have tW := tame_add q0 q24 (tame_prod q0 q24 hn hc0 tA t1) t2
  have tH := tame_highs (f := fWhole q c fA f1 f2) par.dep13 tW
  have tN := tame_add q0 q24 tm (tame_scale q0 q24 hn lcs t1)
  have tP := tame_prod q0 q24 hn hc0 tA tN
  have lens : ∀ i, i < r → ((fHighs dep (fWhole q c fA f1 f2)) i).length = n := fun i hi => (tH i 0 hi (by omega)).1
  obtain ⟨jHA1, jHA2, jHA3, jHA4, jHA5, jHAa, jHAb, _⟩ := id HA
  obtain ⟨jHa1, jHa2, jHa3, jHa4, jHa5, jHaa, jHab, _⟩ := id Ha
  (try (show wpAny _ _ _ _ _ _))
  (try dsimp only)
  k_steps
  refine Halt.go ?_
  rename News _ _ _ _ => N1
  rename Fr _ _ _ _ => F1
  k_dflt (refine callMat (news := news) (by k_asm) (by k_asm) (by k_asm) (by k_asm) (by lcg_sub) (by with_reducible assumption) (by with_reducible assumption) (by with_reducible assumption) hL d1 d2 d3 d4 d5 d6 d7 (n1) (n2) (n3) (k1) (k5) (k6) (k7) (by with_reducible assumption) (by k_asm) (by kpt_hd) (by kpt_hd) (mmul (q := q) (n := (n : Int)) (r := r) (c := c) (l := 1) (hM.mono (by lcg_sub)) (hR.mono (by lcg_sub)) (HA.mono (by lcg_sub)) (Ha.mono (by lcg_sub)) hr0 hr' hc0 hc' (by decide) q0 hni tA.len tN.len (tA.small (by decide)) (tN.small (by decide))) (by k_room) (by k_units) ?_)
  clear bare tb1 tb2 tb3 n1 n2 n3 k1 k5 k6 k7 N1 F1
  intro zq led1 h9 tk9 gs9 p1 p2 p3 hs9 HQ tb1 tb2 tb3 F1 bare N1 n1 n2 n3 k1 k5 k6 k7
  replace hM := hM.mono hs9
  replace hR := hR.mono hs9
  replace hsz := hs9 _ hsz
  replace Hsg := hs9 _ Hsg
  replace Hch := Hch.mono hs9
  replace Hw := Hw.mono hs9
  replace Hs := Hs.mono hs9
  replace Hl := Hl.mono hs9
  replace Hhg := Hhg.mono hs9
  clear hs9
  obtain ⟨dr, r1, r2, r3, r4, hr1, hr2⟩ := id hR
  obtain ⟨dm, tm', hm1, hm2⟩ := id hM
  (try (show wpAny _ _ _ _ _ _))
  (try dsimp only)
  k_steps
  refine Halt.go ?_
  obtain ⟨xs, ex, hx1, hx2, hx3⟩ := id Hhg
  k_dflt (refine comp_expr (by k_asm) (by with_unfolding_all rfl) (by rfl) (by decide) ?_)
  k_steps
  rename News _ _ _ _ => N3
  rename Fr _ _ _ _ => F3
  refine src_listR (fun i y part => RowEl w rg 1 (fun i _ => (fHighs dep (fWhole q c fA f1 f2)) i) i y (part ++ led1)) (by rfl) F3 N3 (by k_mem) hx2 (by omega) (by rfl) (by rfl) (fun _ => by rfl) ?turn9 ?fin9
  (case turn9 =>
    intro C i g1 lx oC m₂ ledT h tk E' hi' hlx hC hmi qC hsT F₁ N₁
    obtain ⟨vl, el, hl4, hl5⟩ := hx3 i lx hlx
    have hle := lens i hi'
    clear N3 F3 nx
    k_steps
    refine Halt.go ?_
    k_dflt (refine useRing (q := q) (n := (n : Int)) (by k_asm) (by k_asm) (by k_asm) (by k_asm) (by k_asm) (by kpt_hd) (by kpt_hd) (hR.mono (by lcg_sub)) (by k_mem) hl5 (by omega) (by omega) (by k_room) (by k_units) ?_)
    intro x9 dx9 t9 u9 h9 tk9 F9 N9 kx kd
    k_steps
    rename News _ _ _ _ => N5
    rename Fr _ _ _ _ => F5
    exact ⟨_, _, [(_, _), (_, _), (_, _)], rfl, F5, newsSub N5 (by simp only [List.cons_append, List.nil_append]; lcg_sub), (by lcg_src), _, rfl, rowOne (e0 := 0) List.mem_cons_self (List.mem_cons_of_mem _ List.mem_cons_self) (List.mem_cons_of_mem _ (List.mem_cons_of_mem _ List.mem_cons_self)) (List.mem_append_right _ hl4) hl5⟩)
  intro g1
  unfold FinG
  intro D1 h1 tk1 ys1 new1 F₁ N₁ oD1 ap1 hd1
  clear N3 F3
  have hdat := dataOfO (D := D1) hd1
  have hx98 : ∃ led : Led, (∀ p ∈ led1, p ∈ led) ∧ News h₀ L h1 ((142, p1) :: (178, p2) :: (225, p3) :: (L + 1 + 1 + 1 + 1 + 1 + 1 + 1, oc7) :: (L + 1 + 1 + 1 + 1 + 1 + 1, oc6) :: (L + 1 + 1 + 1 + 1 + 1, oc5) :: (L + 1 + 1 + 1 + 1, oc4) :: (L + 1 + 1 + 1, oc3) :: (L + 1 + 1, oc2) :: (L + 1, oc1) :: led) ∧ (∀ p ∈ led, p.1 ≠ 142) ∧ (∀ p ∈ led, p.1 ≠ 178) ∧ (∀ p ∈ led, p.1 ≠ 225) ∧ (∀ p ∈ led, p.1 ≠ L + 1) ∧ (∀ p ∈ led, p.1 ≠ L + 1 + 1 + 1 + 1 + 1) ∧ (∀ p ∈ led, p.1 ≠ L + 1 + 1 + 1 + 1 + 1 + 1) ∧ (∀ p ∈ led, p.1 ≠ L + 1 + 1 + 1 + 1 + 1 + 1 + 1) ∧ DataAt w led rg D1 r 1 (fun i _ => (fHighs dep (fWhole q c fA f1 f2)) i) :=
    ⟨(D1, LCg.lst ys1) :: (new1 ++ led1), by lcg_sub, newsSub N₁ (by lcg_sub), newsOff oD1 ap1 (by k_mem) n1, newsOff oD1 ap1 (by k_mem) n2, newsOff oD1 ap1 (by k_mem) n3, newsOff oD1 ap1 (by k_mem) k1, newsOff oD1 ap1 (by k_mem) k5, newsOff oD1 ap1 (by k_mem) k6, newsOff oD1 ap1 (by k_mem) k7, hdat⟩
  obtain ⟨led2, hs9, N2, i1, i2, i3, y1, y5, y6, y7, Hdat2⟩ := hx98
  clear N₁ oD1 ap1 hd1 hdat n1 n2 n3 k1 k5 k6 k7
  revert N2 i1 i2 i3 y1 y5 y6 y7
  intro N1 n1 n2 n3 k1 k5 k6 k7
  replace hM := hM.mono hs9
  replace hR := hR.mono hs9
  replace hsz := hs9 _ hsz
  replace Hsg := hs9 _ Hsg
  replace Hch := Hch.mono hs9
  replace Hw := Hw.mono hs9
  replace Hs := Hs.mono hs9
  replace Hl := Hl.mono hs9
  replace hm1 := hs9 _ hm1
  replace hm2 := hs9 _ hm2
  replace HQ := HQ.mono hs9
  clear hs9
  (try (show wpAny _ _ _ _ _ _))
  (try dsimp only)
  k_steps
  refine Halt.go ?_
  rename News _ _ _ _ => N1
  rename Fr _ _ _ _ => F1
  k_dflt (refine callMatC (news := led2) (by k_asm) (by k_asm) (by k_asm) (by k_asm) (by lcg_sub) (by with_reducible assumption) (by with_reducible assumption) (by with_reducible assumption) hL d1 d2 d3 d4 d5 d6 d7 (n1) (n2) (n3) (k1) (k5) (k6) (k7) (by with_reducible assumption) (by k_asm) (by kpt_hd) (by kpt_hd) (mcall (q := q) (n := (n : Int)) (r := r) (c := 1) callArgs2 (hM.mono (by lcg_sub)) (hR.mono (by lcg_sub)) (Hdat2.mono (by lcg_sub)) hr0 hr' (by decide)) (by k_room) (by k_units) ?_)
  clear bare tb1 tb2 tb3 n1 n2 n3 k1 k5 k6 k7 N1 F1
  intro zp led3 h9 tk9 gs9 p1 p2 p3 hs9 HP tb1 tb2 tb3 F1 bare N1 n1 n2 n3 k1 k5 k6 k7
  replace hM := hM.mono hs9
  replace hR := hR.mono hs9
  replace hsz := hs9 _ hsz
  replace Hsg := hs9 _ Hsg
  replace Hch := Hch.mono hs9
  replace Hw := Hw.mono hs9
  replace Hs := Hs.mono hs9
  replace Hl := Hl.mono hs9
  replace HQ := HQ.mono hs9
  clear hs9
  obtain ⟨jHP1, jHP2, jHP3, jHP4, jHP5, jHPa, jHPb, _⟩ := id HP
  (try (show wpAny _ _ _ _ _ _))
  (try dsimp only)
  k_steps
  refine Halt.go ?_
  rename News _ _ _ _ => N1
  rename Fr _ _ _ _ => F1
  k_dflt (refine callMat (news := led3) (by k_asm) (by k_asm) (by k_asm) (by k_asm) (by lcg_sub) (by with_reducible assumption) (by with_reducible assumption) (by with_reducible assumption) hL d1 d2 d3 d4 d5 d6 d7 (n1) (n2) (n3) (k1) (k5) (k6) (k7) (by with_reducible assumption) (by k_asm) (by kpt_hd) (by kpt_hd) (mscale (q := q) (n := (n : Int)) (r := r) (c := 1) (hM.mono (by lcg_sub)) (hR.mono (by lcg_sub)) (HP.mono (by lcg_sub)) (Hch.mono (by lcg_sub)) hr0 hr' (by decide) q0 hni tH.len lcsi (tH.small (by decide)) scs) (by k_room) (by k_units) ?_)
  clear bare tb1 tb2 tb3 n1 n2 n3 k1 k5 k6 k7 N1 F1
  intro zs led4 h9 tk9 gs9 p1 p2 p3 hs9 HZ tb1 tb2 tb3 F1 bare N1 n1 n2 n3 k1 k5 k6 k7
  replace hM := hM.mono hs9
  replace hR := hR.mono hs9
  replace hsz := hs9 _ hsz
  replace Hsg := hs9 _ Hsg
  replace Hch := Hch.mono hs9
  replace Hw := Hw.mono hs9
  replace Hs := Hs.mono hs9
  replace Hl := Hl.mono hs9
  replace HQ := HQ.mono hs9
  clear hs9
  have tZ := tame_scale q0 q24 hn lcs tH
  obtain ⟨jHQ1, jHQ2, jHQ3, jHQ4, jHQ5, jHQa, jHQb, _⟩ := id HQ
  obtain ⟨jHZ1, jHZ2, jHZ3, jHZ4, jHZ5, jHZa, jHZb, _⟩ := id HZ
  (try (show wpAny _ _ _ _ _ _))
  (try dsimp only)
  k_steps
  refine Halt.go ?_
  rename News _ _ _ _ => N1
  rename Fr _ _ _ _ => F1
  k_dflt (refine callMat (news := led4) (by k_asm) (by k_asm) (by k_asm) (by k_asm) (by lcg_sub) (by with_reducible assumption) (by with_reducible assumption) (by with_reducible assumption) hL d1 d2 d3 d4 d5 d6 d7 (n1) (n2) (n3) (k1) (k5) (k6) (k7) (by with_reducible assumption) (by k_asm) (by kpt_hd) (by kpt_hd) (msub (q := q) (n := (n : Int)) (r := r) (c := 1) (hM.mono (by lcg_sub)) (hR.mono (by lcg_sub)) (HQ.mono (by lcg_sub)) (HZ.mono (by lcg_sub)) hr0 hr' (by decide) q0 hni' tP.len tZ.len) (by k_room) (by k_units) ?_)
  clear bare tb1 tb2 tb3 n1 n2 n3 k1 k5 k6 k7 N1 F1
  intro zt led5 h9 tk9 gs9 p1 p2 p3 hs9 Ht tb1 tb2 tb3 F1 bare N1 n1 n2 n3 k1 k5 k6 k7
  replace hM := hM.mono hs9
  replace hR := hR.mono hs9
  replace hsz := hs9 _ hsz
  replace Hsg := hs9 _ Hsg
  replace Hw := Hw.mono hs9
  replace Hs := Hs.mono hs9
  replace Hl := Hl.mono hs9
  clear hs9
  (try (show wpAny _ _ _ _ _ _))
  (try dsimp only)
  k_steps
  refine Halt.go ?_
  rename News _ _ _ _ => N1
  rename Fr _ _ _ _ => F1
  exact nx  B (F1) X T hdp hun hret (by with_reducible assumption) (by with_reducible assumption) (by with_reducible assumption) (by with_reducible assumption) hL (N1) (by with_reducible assumption) (by with_reducible assumption) (by with_reducible assumption) (by with_reducible assumption) (by with_reducible assumption) (by with_reducible assumption) (by with_reducible assumption) (by with_reducible assumption) (by with_reducible assumption) (by with_reducible assumption) (by with_reducible assumption) (by with_reducible assumption) (by with_reducible assumption) (by with_reducible assumption) (by kn_among) (by kn_among) (by kn_among) par (by kn_among) (by with_reducible assumption) (by with_reducible assumption) (by with_reducible assumption) (by with_reducible assumption) (by kn_among) (by with_reducible assumption) (by with_reducible assumption) (by with_reducible assumption) (by with_reducible assumption) (by with_reducible assumption) (by with_reducible assumption) (by with_reducible assumption) (by kn_among) (by with_reducible assumption) (by with_reducible assumption) (by with_reducible assumption) (by with_reducible assumption) (by kn_among) (Hw) (by kn_among) (Hs) (by kn_among) (Hl) (by kn_among) (Ht)
end
section
example : True := by
  w_top off
  trivial
set_option maxHeartbeats 4000000 in
theorem stepT21 {w : World} (next : T22 w) : T21 w := by
  refine' LawTail.step (name := ?q1) (params := ?q2) (body := ?q3) (scope := ?q4) (pos := ?q5) (kw := ?q6) next ?h ?p
  (case h => with_unfolding_all rfl)
  intro nx
  intro loose mean mg mb dp un gd outer A₀ base h₀ L fa cd m s Q o1 o2 o3 oc1 oc2 oc3 oc4 oc5 oc6 oc7 news x1 x2 x5 x6 x7 q a eta dep tq ta te td sz rg md r c n tr tc es fA f1 f2 fm sg cs vsg eg yw ys yl yt B F X T hdp hun hret tb1 tb2 tb3 bare hL N d1 d2 d3 d4 d5 d6 d7 n1 n2 n3 k1 k5 k6 k7 hmq hma hme par hmsz hsz hr hc hn hmd hM hR tA t1 t2 t2e tm hsg Hsg Isg lcs bcs hw Hw hs Hs hl Hl ht Ht
  dsimp only [List.drop]
  have hxc169 : HaltCall 169 := .mk
  have hxs353 : StopAt 353 := .mk
  have q33 := par.q0
  have q24 := par.q24
  have q0 : 0 < q := by omega
  have hr0 : 0 < r := by omega
  have hc0 : 0 < c := by omega
  have hr' : r < 2 ^ 11 := by omega
  have hc' : c < 2 ^ 11 := by omega
  have hn' : n < 2 ^ 20 := by omega
  have hni := nInt hn
  have hni' : (n : Int) < 2 ^ 20 := by omega
  have c142 := c142of hL
  have c178 := c178of hL
  have c225 := c225of hL
  obtain ⟨jHw1, jHw2, jHw3, jHw4, jHw5, jHwa, jHwb, _⟩ := id Hw
  obtain ⟨jHs1, jHs2, jHs3, jHs4, jHs5, jHsa, jHsb, _⟩ := id Hs
  have tW := tame_prod q0 q24 hn hc0 tA tm
  have tS := tame_scale q0 q24 hn lcs t2
  (try (show wpAny _ _ _ _ _ _))
  (try dsimp only)
  k_steps
  refine Halt.go ?_
  rename News _ _ _ _ => N1
  rename Fr _ _ _ _ => F1
  k_dflt (refine callMat (news := news) (by k_asm) (by k_asm) (by k_asm) (by k_asm) (by lcg_sub) (by with_reducible assumption) (by with_reducible assumption) (by with_reducible assumption) hL d1 d2 d3 d4 d5 d6 d7 (n1) (n2) (n3) (k1) (k5) (k6) (k7) (by with_reducible assumption) (by k_asm) (by kpt_hd) (by kpt_hd) (msub (q := q) (n := (n : Int)) (r := r) (c := 1) (hM.mono (by lcg_sub)) (hR.mono (by lcg_sub)) (Hw.mono (by lcg_sub)) (Hs.mono (by lcg_sub)) hr0 hr' (by decide) q0 hni' tW.len tS.len) (by k_room) (by k_units) ?_)
  clear bare tb1 tb2 tb3 n1 n2 n3 k1 k5 k6 k7 N1 F1
  intro zp led1 h9 tk9 gs9 p1 p2 p3 hs9 Hre tb1 tb2 tb3 F1 bare N1 n1 n2 n3 k1 k5 k6 k7
  replace hM := hM.mono hs9
  replace hR := hR.mono hs9
  replace hsz := hs9 _ hsz
  replace Hsg := hs9 _ Hsg
  replace Hs := Hs.mono hs9
  replace Hl := Hl.mono hs9
  replace Ht := Ht.mono hs9
  replace Hw := Hw.mono hs9
  clear hs9
  (try (show wpAny _ _ _ _ _ _))
  (try dsimp only)
  k_steps
  refine Halt.go ?_
  rename News _ _ _ _ => N1
  rename Fr _ _ _ _ => F1
  exact nx  B (F1) X T hdp hun hret (by with_reducible assumption) (by with_reducible assumption) (by with_reducible assumption) (by with_reducible assumption) hL (N1) (by with_reducible assumption) (by with_reducible assumption) (by with_reducible assumption) (by with_reducible assumption) (by with_reducible assumption) (by with_reducible assumption) (by with_reducible assumption) (by with_reducible assumption) (by with_reducible assumption) (by with_reducible assumption) (by with_reducible assumption) (by with_reducible assumption) (by with_reducible assumption) (by with_reducible assumption) (by kn_among) (by kn_among) (by kn_among) par (by kn_among) (by with_reducible assumption) (by with_reducible assumption) (by with_reducible assumption) (by with_reducible assumption) (by kn_among) (by with_reducible assumption) (by with_reducible assumption) (by with_reducible assumption) (by with_reducible assumption) (by with_reducible assumption) (by with_reducible assumption) (by with_reducible assumption) (by kn_among) (by with_reducible assumption) (by with_reducible assumption) (by with_reducible assumption) (by with_reducible assumption) (by kn_among) (Hw) (by kn_among) (Hs) (by kn_among) (Hl) (by kn_among) (Ht) (by kn_among) (Hre)
end
section
example : True := by
  w_top off
  trivial
local macro_rules | `(tactic| walk_at "compareOp NotEq ref ref") => `(tactic| (k_here; refine halt ?_))
set_option maxHeartbeats 4000000 in
theorem stepT22 {w : World} (next : T23 w) : T22 w := by
  refine' LawTail.step (name := ?q1) (params := ?q2) (body := ?q3) (scope := ?q4) (pos := ?q5) (kw := ?q6) next ?h ?p
  (case h => with_unfolding_all rfl)
  intro nx
  intro loose mean mg mb dp un gd outer A₀ base h₀ L fa cd m s Q o1 o2 o3 oc1 oc2 oc3 oc4 oc5 oc6 oc7 news x1 x2 x5 x6 x7 q a eta dep tq ta te td sz rg md r c n tr tc es fA f1 f2 fm sg cs vsg eg yw ys yl yt yr B F X T hdp hun hret tb1 tb2 tb3 bare hL N d1 d2 d3 d4 d5 d6 d7 n1 n2 n3 k1 k5 k6 k7 hmq hma hme par hmsz hsz hr hc hn hmd hM hR tA t1 t2 t2e tm hsg Hsg Isg lcs bcs hw Hw hs Hs hl Hl ht Ht hre Hre
  dsimp only [List.drop]
  have hxc157 : HaltCall 157 := .mk
  have hxs355 : StopAt 355 := .mk
  have q33 := par.q0
  have q24 := par.q24
  have q0 : 0 < q := by omega
  have hr0 : 0 < r := by omega
  have hc0 : 0 < c := by omega
  have hr' : r < 2 ^ 11 := by omega
  have hc' : c < 2 ^ 11 := by omega
  have hn' : n < 2 ^ 20 := by omega
  have hni := nInt hn
  have hni' : (n : Int) < 2 ^ 20 := by omega
  have c142 := c142of hL
  have c178 := c178of hL
  have c225 := c225of hL
  have tP := tame_prod q0 q24 hn hc0 tA tm
  have tS := tame_scale q0 q24 hn lcs t2
  have tR : Tame (fRest q c cs fA f2 fm) r 1 n (2 ^ 24) := tame_sub q0 q24 tP tS
  have tW := tame_add q0 q24 (tame_prod q0 q24 hn hc0 tA t1) t2
  have tL := tame_lows (f := fWhole q c fA f1 f2) par.dep13 tW
  have tZ := tame_scale q0 q24 hn lcs tL
  have tQ := tame_add q0 q24 tR tZ
  have hfg : ∀ i, i < r → (fTold q c cs fA f1 fm (fHighs dep (fWhole q c fA f1 f2))) i 0 = (fAdd q (fRest q c cs fA f2 fm) (fScale q cs (fun i _ => (fLows dep (fWhole q c fA f1 f2)) i))) i 0 := fun i hi => told_eq (A := fA i) (f := fun k => f1 k 0) (mk := fun k => fm k 0) (s := f2 i 0) (lo := (fLows dep (fWhole q c fA f1 f2)) i) (ch := cs) hn hc (fun k hk => (tA i k hi hk).1) (fun k hk => (t1 k 0 hk (by omega)).1) (fun k hk => (tm k 0 hk (by omega)).1) (t2 i 0 hi (by omega)).1 (tL i 0 hi (by omega)).1 lcs
  have hlq : ∀ i, i < r → ((fTold q c cs fA f1 fm (fHighs dep (fWhole q c fA f1 f2))) i 0).length < 2 ^ 20 := fun i hi => by rw [hfg i hi, (tQ i 0 hi (by omega)).1]; omega
  obtain ⟨jHre1, jHre2, jHre3, jHre4, jHre5, jHrea, jHreb, _⟩ := id Hre
  obtain ⟨jHl1, jHl2, jHl3, jHl4, jHl5, jHla, jHlb, _⟩ := id Hl
  (try (show wpAny _ _ _ _ _ _))
  (try dsimp only)
  k_steps
  refine Halt.go ?_
  rename News _ _ _ _ => N1
  rename Fr _ _ _ _ => F1
  k_dflt (refine callMat (news := news) (by k_asm) (by k_asm) (by k_asm) (by k_asm) (by lcg_sub) (by with_reducible assumption) (by with_reducible assumption) (by with_reducible assumption) hL d1 d2 d3 d4 d5 d6 d7 (n1) (n2) (n3) (k1) (k5) (k6) (k7) (by with_reducible assumption) (by k_asm) (by kpt_hd) (by kpt_hd) (madd (q := q) (n := (n : Int)) (r := r) (c := 1) (hM.mono (by lcg_sub)) (hR.mono (by lcg_sub)) (Hre.mono (by lcg_sub)) (Hl.mono (by lcg_sub)) hr0 hr' (by decide) q0 hni' tR.len tZ.len) (by k_room) (by k_units) ?_)
  clear bare tb1 tb2 tb3 n1 n2 n3 k1 k5 k6 k7 N1 F1
  intro zp led1 h9 tk9 gs9 p1 p2 p3 hs9 HQ tb1 tb2 tb3 F1 bare N1 n1 n2 n3 k1 k5 k6 k7
  replace hM := hM.mono hs9
  replace hR := hR.mono hs9
  replace hsz := hs9 _ hsz
  replace Hsg := hs9 _ Hsg
  replace Hw := Hw.mono hs9
  replace Hs := Hs.mono hs9
  replace Hl := Hl.mono hs9
  replace Ht := Ht.mono hs9
  replace Hre := Hre.mono hs9
  clear hs9
  obtain ⟨jHt1, jHt2, jHt3, jHt4, jHt5, jHta, jHtb, _⟩ := id Ht
  obtain ⟨jHQ1, jHQ2, jHQ3, jHQ4, jHQ5, jHQa, jHQb, _⟩ := id HQ
  (try (show wpAny _ _ _ _ _ _))
  (try dsimp only)
  k_steps
  refine Halt.go ?_
  rename News _ _ _ _ => N1
  rename Fr _ _ _ _ => F1
  have hcL9 := cLine_is
  k_dflt (refine mat_ne (b := true) F1 X N1 (x := yt) (y := zp) (by k_mem) (by k_mem) (by k_mem) (by k_mem) (by k_units) ?_)
  k_dflt (refine' useGoesG (dp := dp) (un := un + 1) (gd := gd) (outer := outer) (news := (L + 1 + 1 + 1 + 1 + 1 + 1 + 1, oc7) :: (L + 1 + 1 + 1 + 1 + 1 + 1, oc6) :: (L + 1 + 1 + 1 + 1 + 1, oc5) :: (L + 1 + 1 + 1 + 1, oc4) :: (L + 1 + 1 + 1, oc3) :: (L + 1 + 1, oc2) :: (L + 1, oc1) :: led1) ?k1 ?k2 ?k3 ?k4 ?k40 ?t1 ?t2 ?t3 ?m1 ?m2 ?m3 ?bare ?k5 ?kf ?kK (meq (q := q) (n := (n : Int)) (r := r) (hR.mono (by lcg_sub)) (Ht.mono (by lcg_sub)) (HQ.mono (by lcg_sub)) hr0 hr' hlq hfg) ?kd ?ku ?_; (case k2 => k_asm); (case k1 => k_asm); (case k3 => k_asm); (case k4 => k_asm); (case k40 => lcg_sub); (case t1 => with_reducible assumption); (case t2 => with_reducible assumption); (case t3 => with_reducible assumption); (case m1 => exact cellsNe c142 n1); (case m2 => exact cellsNe c178 n2); (case m3 => exact cellsNe c225 n3); (case bare => with_reducible assumption); (case k5 => k_asm); (case kf => first | exact rfl | assumption); (case kK => first | exact rfl | assumption); (case kd => k_room); (case ku => k_units))
  intro v9 new9 h9 tk9 gs9 p1 p2 p3 tp1 tp2 tp3 F9 N9 A9 bare9 O9
  obtain ⟨rfl, rfl⟩ := O9
  simp only [List.nil_append] at N9
  refine ⟨true, rfl, ?_⟩
  (try dsimp only [Bool.not_true])
  clear N1 F1 bare tb1 tb2 tb3 A9
  (try (show wpAny _ _ _ _ _ _))
  (try dsimp only)
  k_steps
  refine Halt.go ?_
  rename News _ _ _ _ => N1
  rename Fr _ _ _ _ => F1
  exact nx  B (F1) X T hdp hun hret (tp1) (tp2) (tp3) (bare9) hL (N1) (by with_reducible assumption) (by with_reducible assumption) (by with_reducible assumption) (by with_reducible assumption) (by with_reducible assumption) (by with_reducible assumption) (by with_reducible assumption) (by with_reducible assumption) (by with_reducible assumption) (by with_reducible assumption) (by with_reducible assumption) (by with_reducible assumption) (by with_reducible assumption) (by with_reducible assumption) (by kn_among) (by kn_among) (by kn_among) par (by kn_among) (by with_reducible assumption) (by with_reducible assumption) (by with_reducible assumption) (by with_reducible assumption) (by kn_among) (by with_reducible assumption) (by with_reducible assumption) (by with_reducible assumption) (by with_reducible assumption) (by with_reducible assumption) (by with_reducible assumption) (by with_reducible assumption) (by kn_among) (by with_reducible assumption) (by with_reducible assumption) (by with_reducible assumption) (by with_reducible assumption) (by kn_among) (Hw) (by kn_among) (Hs) (by kn_among) (Hl) (by kn_among) (Ht) (by kn_among) (Hre)
end
section
example : True := by
  w_top off
  trivial
local macro_rules | `(tactic| walk_at "eval ListComp") => `(tactic| (k_here; refine halt ?_))
local macro_rules | `(tactic| walk_at "call builtin:sum") => `(tactic| (k_here; refine halt ?_))
set_option maxHeartbeats 4000000 in
theorem stepT23 {w : World} (next : T24 w) : T23 w := by
  refine' LawTail.step (name := ?q1) (params := ?q2) (body := ?q3) (scope := ?q4) (pos := ?q5) (kw := ?q6) next ?h ?p
  (case h => with_unfolding_all rfl)
  intro nx
  intro loose mean mg mb dp un gd outer A₀ base h₀ L fa cd m s Q o1 o2 o3 oc1 oc2 oc3 oc4 oc5 oc6 oc7 news x1 x2 x5 x6 x7 q a eta dep tq ta te td sz rg md r c n tr tc es fA f1 f2 fm sg cs vsg eg yw ys yl yt yr B F X T hdp hun hret tb1 tb2 tb3 bare hL N d1 d2 d3 d4 d5 d6 d7 n1 n2 n3 k1 k5 k6 k7 hmq hma hme par hmsz hsz hr hc hn hmd hM hR tA t1 t2 t2e tm hsg Hsg Isg lcs bcs hw Hw hs Hs hl Hl ht Ht hre Hre
  dsimp only [List.drop]
  have hxs356 : StopAt 356 := .mk
  have hn' : n < 2 ^ 20 := by omega
  k_steps
  refine Halt.go ?_
  k_dflt (refine comp_expr (by k_asm) (by with_unfolding_all rfl) (by rfl) (by decide) ?_)
  k_steps
  rename News _ _ _ _ => N3
  rename Fr _ _ _ _ => F3
  refine src_listI (IntEl fun k => ((cs.getD k 0).natAbs : Int)) (by rfl) F3 N3 (by k_mem) Isg lcs hn' (by rfl) (by rfl) (fun _ => by rfl) ?turn ?fin
  (case turn =>
    intro C2 k g2 tx oC2 m2 led2 h2 tk2 E2 hk hC2 hm2 qC2 hs2 F₂ N₂
    clear N3 F3 nx
    k_steps
    rename News _ _ _ _ => N5
    rename Fr _ _ _ _ => F5
    exact ⟨_, _, [], rfl, F5, N5, apNil, rfl, _, congrArg (Value.int · _) (by (show _ = ((cs.getD k 0).natAbs : Int)); split <;> omega)⟩)
  intro g2
  unfold FinG
  intro D1 h1 tk1 ys1 new1 F₁ N₁ oD1 ap1 hd1
  have hI1 : IntsAre ys1 (cs.map fun x => (x.natAbs : Int)) := hd1.ints (by rw [List.length_map, lcs]) fun k hk => by
    have hk' : k < cs.length := by omega
    simp [List.getD_eq_getElem?_getD, List.getElem?_map, List.getElem?_eq_getElem hk']
  replace N₁ : News h₀ L h1 ((D1, LCg.lst ys1) :: ((142, o1) :: (178, o2) :: (225, o3) :: (L + 1 + 1 + 1 + 1 + 1 + 1 + 1, oc7) :: (L + 1 + 1 + 1 + 1 + 1 + 1, oc6) :: (L + 1 + 1 + 1 + 1 + 1, oc5) :: (L + 1 + 1 + 1 + 1, oc4) :: (L + 1 + 1 + 1, oc3) :: (L + 1 + 1, oc2) :: (L + 1, oc1) :: news)) := newsSub N₁ (subCons List.mem_cons_self (subTail (subR (fun _ h => h))))
  clear N3 F3 oD1 ap1 hd1
  k_steps
  refine Halt.go ?_
  rename News _ _ _ _ => N4
  rename Fr _ _ _ _ => F4
  k_dflt (refine LSm.sum_ints F4 N4 (by rfl) ⟨_, (N4 _ List.mem_cons_self).1, rfl, _, rfl⟩ hI1 ?_)
  intro h5 tk5 t5 F5 N5
  clear N4 F4
  have hS := absSum_in bcs
  have hS1 := hS.1
  have hS2 : absSum cs ≤ 3 := by omega
  have hE1 := par.eta1
  have hE4 := par.eta4
  clear hS
  show wpAny _ _ (binaryOp _ _ (Value.int (absSum cs) t5)) _ _ _
  k_steps
  refine Halt.go ?_
  rename News _ _ _ _ => N10
  rename Fr _ _ _ _ => F10
  exact nx  B (F10) X T hdp hun hret (by with_reducible assumption) (by with_reducible assumption) (by with_reducible assumption) (by with_reducible assumption) hL (newsSub N10 (subTail fun _ h => h)) (by with_reducible assumption) (by with_reducible assumption) (by with_reducible assumption) (by with_reducible assumption) (by with_reducible assumption) (by with_reducible assumption) (by with_reducible assumption) (by with_reducible assumption) (by with_reducible assumption) (by with_reducible assumption) (by with_reducible assumption) (by with_reducible assumption) (by with_reducible assumption) (by with_reducible assumption) (by kn_among) (by kn_among) (by kn_among) par (by kn_among) (by with_reducible assumption) (by with_reducible assumption) (by with_reducible assumption) (by with_reducible assumption) (by kn_among) (by with_reducible assumption) (by with_reducible assumption) (by with_reducible assumption) (by with_reducible assumption) (by with_reducible assumption) (by with_reducible assumption) (by with_reducible assumption) (by kn_among) (by with_reducible assumption) (by with_reducible assumption) (by with_reducible assumption) (by with_reducible assumption) (by kn_among) (Hw) (by kn_among) (Hs) (by kn_among) (Hl) (by kn_among) (Ht) (by kn_among) (Hre) (by kn_among)
end
section
example : True := by
  w_top off
  trivial
local macro_rules | `(tactic| walk_at "exec For Name Call cons nil") => `(tactic| (k_here; refine halt ?_))
local macro_rules | `(tactic| walk_at "exec For Name Call") => `(tactic| (k_here; refine halt ?_))
local macro_rules | `(tactic| walk_at "exec For") => `(tactic| (k_here; refine halt ?_))
local macro_rules | `(tactic| walk_at "pyIter ref") => `(tactic| (k_here; refine halt ?_))
local macro_rules | `(tactic| walk_at "exec Assign cons ListComp") => `(tactic| (k_here; refine halt ?_))
local macro_rules | `(tactic| walk_at "subscriptTail") => `(tactic| (k_here; (with_reducible show wpAny _ _ (subscriptTail (Expr.Attribute _ _ _) _ (Value.ref _) (Value.int _ _)) _ _ _); refine halt ?_))
local macro_rules | `(tactic| walk_at "call ref") => `(tactic| (k_here; (with_reducible show wpAny _ _ (call (Value.ref 133) _) _ _ _); k_dflt (refine useNilP (by k_asm) (by k_asm) (by k_asm) (by k_asm) (by k_asm) (by kpt_hd) (by kpt_hd) (mget0 (by with_reducible assumption) (by lcg_sub) (by k_mem) (by kpt_fact) (by kpt_fact)) (by k_room) (by k_units) ?_; k_whole); k_dflt (intro y9 h9 tk9 F9 N9 p9; (have q9 := p9); (obtain ⟨dy9, ly9, ey9, t9, u9, v9, a9, b9, c9, d9⟩ := q9); (try dsimp only [List.nil_append, List.cons_append] at N9); (try k_sweep))))
local macro_rules | `(tactic| walk_at "call ref") => `(tactic| (k_here; (with_reducible show wpAny _ _ (call (Value.ref 461) _) _ _ _); k_dflt (refine useNil (by k_asm) (by k_asm) (by k_asm) (by k_asm) (by k_asm) (by kpt_hd) (by kpt_hd) (placeC (by k_mem) (by with_reducible assumption) (by with_reducible assumption) (by with_reducible assumption) (by with_reducible assumption) (by with_reducible assumption) (by with_reducible assumption)) (by k_room) (by k_units) ?_; k_whole); k_dflt (intro h9 tk9 F9 N9; (try dsimp only [List.nil_append, List.cons_append] at N9); (try k_sweep))))
theorem cellsOff6 {L : Nat} {news : Led} {o1 o2 o3 oc1 oc2 oc3 oc4 oc5 oc7 : Obj} (hL : 225 < L) (hn : ∀ p ∈ news, p.1 ≠ L + 1 + 1 + 1 + 1 + 1 + 1) : ∀ p ∈ ((L + 1, oc1) :: (142, o1) :: (178, o2) :: (225, o3) :: (L + 1 + 1 + 1 + 1 + 1 + 1 + 1, oc7) :: (L + 1 + 1 + 1 + 1 + 1, oc5) :: (L + 1 + 1 + 1 + 1, oc4) :: (L + 1 + 1 + 1, oc3) :: (L + 1 + 1, oc2) :: news : Led), p.1 ≠ L + 1 + 1 + 1 + 1 + 1 + 1 := by k_all
theorem cellsOff1 {L : Nat} {news : Led} {o1 o2 o3 oc2 oc3 oc4 oc5 oc6 oc7 : Obj} (hL : 225 < L) (hn : ∀ p ∈ news, p.1 ≠ L + 1) : ∀ p ∈ ((L + 1 + 1 + 1 + 1 + 1 + 1, oc6) :: (142, o1) :: (178, o2) :: (225, o3) :: (L + 1 + 1 + 1 + 1 + 1 + 1 + 1, oc7) :: (L + 1 + 1 + 1 + 1 + 1, oc5) :: (L + 1 + 1 + 1 + 1, oc4) :: (L + 1 + 1 + 1, oc3) :: (L + 1 + 1, oc2) :: news : Led), p.1 ≠ L + 1 := by k_all
set_option maxHeartbeats 8000000 in
theorem stepT24 {w : World} : T24 w := by
  refine' LawTail.of (name := ?q1) (params := ?q2) (body := ?q3) (scope := ?q4) (pos := ?q5) (kw := ?q6)  ?h ?p
  (case h => with_unfolding_all rfl)
  intro loose mean mg mb dp un gd outer A₀ base h₀ L fa cd m s Q o1 o2 o3 oc1 oc2 oc3 oc4 oc5 oc6 oc7 news x1 x2 x5 x6 x7 q a eta dep tq ta te td sz rg md r c n tr tc es fA f1 f2 fm sg cs vsg eg yw ys yl yt yr tb B F X T hdp hun hret tb1 tb2 tb3 bare hL N d1 d2 d3 d4 d5 d6 d7 n1 n2 n3 k1 k5 k6 k7 hmq hma hme par hmsz hsz hr hc hn hmd hM hR tA t1 t2 t2e tm hsg Hsg Isg lcs bcs hw Hw hs Hs hl Hl ht Ht hre Hre hb
  dsimp only [List.drop]
  have hxs361 : StopAt 361 := .mk
  have q33 := par.q0
  have q24 := par.q24
  have q0 : 0 < q := by omega
  have hc0 : 0 < c := by omega
  have hr' : r < 2 ^ 20 := by omega
  have hn' : n < 2 ^ 20 := by omega
  have ok : ∀ i k, i < r → k < n → PlaceOk ((fProd q c fA fm i 0).getD k 0) ((fRest q c cs fA f2 fm i 0).getD k 0) ((fScale q cs f2 i 0).getD k 0) (((fScale q cs (fun i _ => (fLows dep (fWhole q c fA f1 f2)) i)) i 0).getD k 0) (((fTold q c cs fA f1 fm (fHighs dep (fWhole q c fA f1 f2))) i 0).getD k 0) a (eta * absSum cs) q := fun i k hi hk => places par hn hc tA t1 t2 t2e tm lcs bcs hi hk
  have q31 : q < 2 ^ 31 := by omega
  have a20 := par.a20
  have a0 : 0 < a := by obtain ⟨g, m, rfl, hg, hm, hq⟩ := par.gm; omega
  have hgm : 0 < (q - 1) / a := by
    obtain ⟨g, m, rfl, hg, hm, hq⟩ := par.gm
    rw [hq, Int.add_sub_cancel, Int.mul_ediv_cancel_left _ (by omega)]
    omega
  have tP := tame_prod q0 q24 hn hc0 tA tm
  have tS := tame_scale q0 q24 hn lcs t2
  have tR : Tame (fRest q c cs fA f2 fm) r 1 n (2 ^ 24) := tame_sub q0 q24 tP tS
  have tW := tame_add q0 q24 (tame_prod q0 q24 hn hc0 tA t1) t2
  have tL := tame_lows (f := fWhole q c fA f1 f2) par.dep13 tW
  have tZ := tame_scale q0 q24 hn lcs tL
  have tN := tame_add q0 q24 tm (tame_scale q0 q24 hn lcs t1)
  have tH := tame_highs (f := fWhole q c fA f1 f2) par.dep13 tW
  have tT : Tame (fTold q c cs fA f1 fm (fHighs dep (fWhole q c fA f1 f2))) r 1 n (2 ^ 24) := tame_sub q0 q24 (tame_prod q0 q24 hn hc0 tA tN) (tame_scale q0 q24 hn lcs tH)
  obtain ⟨dr, r1, r2, r3, r4, hr1, hr2⟩ := id hR
  k_steps
  refine Halt.go ?_
  k_dflt (refine For_C h₀ (c := L + 1 + 1 + 1 + 1 + 1 + 1) (by rfl) (by rfl) (by rfl) ?_)
  k_steps
  refine Halt.go ?_
  rename News _ _ _ _ => N2
  rename Fr _ _ _ _ => F2
  refine for_rangeC (n := r) (c := L + 1 + 1 + 1 + 1 + 1 + 1) (oc := oc6) (mov₀ := [(L + 1, oc1)]) (fix := (142, o1) :: (178, o2) :: (225, o3) :: (L + 1 + 1 + 1 + 1 + 1 + 1 + 1, oc7) :: (L + 1 + 1 + 1 + 1 + 1, oc5) :: (L + 1 + 1 + 1 + 1, oc4) :: (L + 1 + 1 + 1, oc3) :: (L + 1 + 1, oc2) :: news) (fun i m' mov gs => gs = s.gens ∧ (∃ o v, mov = [(L + 1, o)] ∧ o.data = .cell v) ∧ ∀ y, y ≠ Str.ofString "numbers" → m' y = m y) (by rfl) F2 (newsSub N2 (by simp only [List.cons_append, List.nil_append]; lcg_sub)) d6 (cellsOff6 hL k6) (by assumption) (smallN (by omega)) (sizeN r) ⟨rfl, ⟨oc1, _, rfl, d1⟩, fun _ _ => rfl⟩ ?step ?fin
  (case step =>
    rintro i v m₁ mov I oI own oc₁ h tk gs hi ⟨ti, rfl⟩ ⟨rfl, ⟨o', v', rfl, hd'⟩, hm⟩ hIo hoI hnI hnc hcI hd₁ F₃ N₃
    rw [Int.zero_add] at hd₁
    dsimp only [List.cons_append, List.nil_append] at N₃ hnI hnc
    clear N2 F2
    k_steps
    refine Halt.go ?_
    k_dflt (refine For_C h₀ (c := L + 1) (by rfl) (by rfl) (by rfl) ?_)
    k_steps
    refine Halt.go ?_
    rename News _ _ _ _ => N4
    rename Fr _ _ _ _ => F4
    have hI1 : @Ne Nat (L + 1) I := hnI (L + 1, o') List.mem_cons_self
    refine for_rangeC (n := n) (c := L + 1) (oc := o') (mov₀ := []) (fix := own ++ ((L + 1 + 1 + 1 + 1 + 1 + 1, oc₁) :: (142, o1) :: (178, o2) :: (225, o3) :: (L + 1 + 1 + 1 + 1 + 1 + 1 + 1, oc7) :: (L + 1 + 1 + 1 + 1 + 1, oc5) :: (L + 1 + 1 + 1 + 1, oc4) :: (L + 1 + 1 + 1, oc3) :: (L + 1 + 1, oc2) :: news)) (fun k m' mov gs' => gs' = s.gens ∧ mov = [] ∧ ∀ y, y ≠ Str.ofString "numbers" → m' y = m y) (by rfl) F4 (newsSub N4 (by simp only [List.cons_append, List.nil_append]; lcg_sub)) hd' (fun p (hp : p ∈ own ++ ((L + 1 + 1 + 1 + 1 + 1 + 1, oc₁) :: (142, o1) :: (178, o2) :: (225, o3) :: (L + 1 + 1 + 1 + 1 + 1 + 1 + 1, oc7) :: (L + 1 + 1 + 1 + 1 + 1, oc5) :: (L + 1 + 1 + 1 + 1, oc4) :: (L + 1 + 1 + 1, oc3) :: (L + 1 + 1, oc2) :: news)) => (List.mem_append.mp hp).elim (fun h e => hI1 (e.symm.trans (hoI p h))) (cellsOff1 hL k1 p)) (by assumption) (smallN (by omega)) (sizeN n) ⟨rfl, rfl, hm⟩ ?step2 ?fin2
    (case step2 =>
      rintro k v2 m₂ mov2 I2 oI2 own2 oc₂ h2 tk2 gs2 hk ⟨tk', rfl⟩ ⟨rfl, rfl, hm2⟩ hIo2 hoI2 hnI2 hnc2 hcI2 hd₂ F₅ N₅
      rw [Int.zero_add] at hd₂
      dsimp only [List.cons_append, List.nil_append] at N₅ hnI2 hnc2
      clear N4 F4
      have fm_w : m₂ (Str.ofString "w") = some (.ref yw) := (hm2 _ (by decide)).trans hw
      have fm_rest : m₂ (Str.ofString "rest") = some (.ref yr) := (hm2 _ (by decide)).trans hre
      have fm_small : m₂ (Str.ofString "small") = some (.ref ys) := (hm2 _ (by decide)).trans hs
      have fm_low : m₂ (Str.ofString "low") = some (.ref yl) := (hm2 _ (by decide)).trans hl
      have fm_told : m₂ (Str.ofString "told") = some (.ref yt) := (hm2 _ (by decide)).trans ht
      have fm_step : m₂ (Str.ofString "step") = some (.int a ta) := (hm2 _ (by decide)).trans hma
      have fm_beta : m₂ (Str.ofString "beta") = some (.int (eta * absSum cs) tb) := (hm2 _ (by decide)).trans hb
      have fm_q : m₂ (Str.ofString "q") = some (.int q tq) := (hm2 _ (by decide)).trans hmq
      k_steps
      refine Halt.go ?_
      k_dflt (refine comp_assign (by k_asm) (by rfl) (by with_unfolding_all rfl) (by with_unfolding_all rfl) (by rfl) (by decide) (by rfl) (by rfl) ?_)
      k_steps
      rename News _ _ _ _ => N6
      rename Fr _ _ _ _ => F6
      refine src_list (vs := [.ref yw, .ref yr, .ref ys, .ref yl, .ref yt]) (e := 0) (IntEl fun j => [(fProd q c fA fm i 0).getD k 0, (fRest q c cs fA f2 fm i 0).getD k 0, (fScale q cs f2 i 0).getD k 0, ((fScale q cs (fun i _ => (fLows dep (fWhole q c fA f1 f2)) i)) i 0).getD k 0, ((fTold q c cs fA f1 fm (fHighs dep (fWhole q c fA f1 f2))) i 0).getD k 0].getD j 0) (HoldsL (Str.ofString "part") fun j v => ∃ y g, v = .ref y ∧ MatAt w news md rg y r 1 g ∧ (g i 0).getD k 0 = [(fProd q c fA fm i 0).getD k 0, (fRest q c cs fA f2 fm i 0).getD k 0, (fScale q cs f2 i 0).getD k 0, ((fScale q cs (fun i _ => (fLows dep (fWhole q c fA f1 f2)) i)) i 0).getD k 0, ((fTold q c cs fA f1 fm (fHighs dep (fWhole q c fA f1 f2))) i 0).getD k 0].getD j 0 ∧ (g i 0).length = n) (by rfl) F6 N6 List.mem_cons_self (by rw [sizeLine_eq]; exact Nat.le_of_ble_eq_true rfl) ?st3 ?turn3 ?fin3
      (case st3 =>
        intro C
        refine stores_local ?sa ?sb ?hP C ?sd
        (case sa => rfl)
        (case sb => rfl)
        (case sd => exact fun c hc => nomatch hc)
        (case hP =>
          intro j v h hv
          rcases j with _ | _ | _ | _ | _ | j
          · have hx98 : Value.ref yw = v := by simpa using hv
            rcases hx98 with rfl
            exact ⟨yw, _, rfl, Hw, rfl, (tP i 0 hi (by omega)).1⟩
          · have hx98 : Value.ref yr = v := by simpa using hv
            rcases hx98 with rfl
            exact ⟨yr, _, rfl, Hre, rfl, (tR i 0 hi (by omega)).1⟩
          · have hx98 : Value.ref ys = v := by simpa using hv
            rcases hx98 with rfl
            exact ⟨ys, _, rfl, Hs, rfl, (tS i 0 hi (by omega)).1⟩
          · have hx98 : Value.ref yl = v := by simpa using hv
            rcases hx98 with rfl
            exact ⟨yl, _, rfl, Hl, rfl, (tZ i 0 hi (by omega)).1⟩
          · have hx98 : Value.ref yt = v := by simpa using hv
            rcases hx98 with rfl
            exact ⟨yt, _, rfl, Ht, rfl, (tT i 0 hi (by omega)).1⟩
          · simp at hv))
      (case turn3 =>
        intro C3 I3 j g3 hj v3 h3 tk3 own3 names3 new3 D3 ys3 E3 hH3 hna3 hwo3 hyl3 F₆ N₆ oD3 oN3 oNq3 hd3
        obtain ⟨⟨y, gg, rfl, Hy, hval, hlen⟩, oC3, m3, r3', rfl, hC3, hm3⟩ := hH3
        rcases names1 hna3 with rfl
        obtain ⟨jy1, jy2, jy3, jy4, jy5, jya, jyb, _⟩ := id Hy
        dsimp only [List.cons_append, List.nil_append] at N₆
        clear N6 F6
        k_steps
        refine Halt.go ?_
        rename_i dy ly ey ty uy vy ay hby hcy hdy
        rename News _ _ _ _ => N7
        rename Fr _ _ _ _ => F7
        obtain ⟨tg, hx⟩ := ints_get (k := (k : Int)) (i := k) hdy rfl (by rw [hlen]; exact hk)
        k_dflt (refine sub_led N7 (by k_mem) (by omega) (by omega) hx ?_ (by with_unfolding_all rfl))
        exact ⟨_, _, [], rfl, F7, newsSub N7 (subTail fun _ h => h), apNil, rfl, tg, by rw [hval]⟩)
      intro g3
      unfold FinGA
      intro D1 h1 tk1 ys1 new1 F₁ N₁ oD1 ap1 hd1
      have hI5 : IntsAre ys1 [(fProd q c fA fm i 0).getD k 0, (fRest q c cs fA f2 fm i 0).getD k 0, (fScale q cs f2 i 0).getD k 0, ((fScale q cs (fun i _ => (fLows dep (fWhole q c fA f1 f2)) i)) i 0).getD k 0, ((fTold q c cs fA f1 fm (fHighs dep (fWhole q c fA f1 f2))) i 0).getD k 0] := hd1.ints rfl (fun _ _ => rfl)
      obtain ⟨t1', t2', t3', t4', t5', rfl⟩ := ints5 hI5
      have hx98 : ∃ e0, News h₀ L h1 ((D1, lsO [.int ((fProd q c fA fm i 0).getD k 0) t1', .int ((fRest q c cs fA f2 fm i 0).getD k 0) t2', .int ((fScale q cs f2 i 0).getD k 0) t3', .int (((fScale q cs (fun i _ => (fLows dep (fWhole q c fA f1 f2)) i)) i 0).getD k 0) t4', .int (((fTold q c cs fA f1 fm (fHighs dep (fWhole q c fA f1 f2))) i 0).getD k 0) t5'] e0) :: (own2 ++ ((L + 1, oc₂) :: (own ++ ((L + 1 + 1 + 1 + 1 + 1 + 1, oc₁) :: (142, o1) :: (178, o2) :: (225, o3) :: (L + 1 + 1 + 1 + 1 + 1 + 1 + 1, oc7) :: (L + 1 + 1 + 1 + 1 + 1, oc5) :: (L + 1 + 1 + 1 + 1, oc4) :: (L + 1 + 1 + 1, oc3) :: (L + 1 + 1, oc2) :: news))))) := ⟨_, newsSub N₁ (subCons List.mem_cons_self (subTail (subR (subTail fun _ h => h))))⟩
      obtain ⟨e0, N8⟩ := hx98
      have ok' := ok i k hi hk
      have hmn : ∀ y, y ≠ Str.ofString "numbers" → (fun z => if z = Str.ofString "numbers" then some (Value.ref D1) else m₂ z) y = m y := fun y hy => (if_neg hy).trans (hm2 y hy)
      clear N₁ oD1 ap1 hd1 N6 F6 ok hI5
      k_steps
      rename News _ _ _ _ => N9
      rename Fr _ _ _ _ => F9
      exact LoopEndC.next (mov := []) F9 (newsSub N9 (by simp only [List.nil_append]; lcg_sub)) hd₂ (fun _ h => nomatch h) ⟨rfl, rfl, hmn⟩)
    rintro h5 tk5 gs5 m5 mov5 oc5' v5' hd5 hnc5 F5 N5 ⟨rfl, rfl, hm5⟩
    clear N4 F4
    (try (show wpAny _ _ _ _ _ _))
    (try dsimp only)
    k_steps
    rename News _ _ _ _ => N9
    rename Fr _ _ _ _ => F9
    exact LoopEndC.next (mov := [(L + 1, oc5')]) F9 (newsSub N9 (by simp only [List.cons_append, List.nil_append]; lcg_sub)) hd₁ (fun p hp => by rw [List.mem_singleton.mp hp]; exact ⟨hI1, hnc (L + 1, o') List.mem_cons_self⟩) ⟨rfl, ⟨oc5', v5', rfl, hd5⟩, hm5⟩)
  rintro h5 tk5 gs5 m5 mov5 oc5' v5' hd5 hnc5 F5 N5 ⟨rfl, ⟨o', v', rfl, hd'⟩, hm5⟩
  clear N2 F2
  (try (show wpAny _ _ _ _ _ _))
  (try dsimp only)
  k_steps
  rename News _ _ _ _ => N9
  rename Fr _ _ _ _ => F9
  exact hret _ _ _ _ _ rfl tb1 tb2 tb3 bare F9 (newsSub N9 (by simp only [List.cons_append, List.nil_append]; lcg_sub))
end
end
/-- kn_post for a law that runs generators: they stand bare at the end -/
theorem kn_postG {M : Model} {A : Around} {cd : Code} {s s₁ : Shared} {cw : ClaimW} {cl : Str → Option Addr} {mean : ExcName → Option Value} {args : List WData} {tabs : List (Addr × Addr)} (hT : TabsAt tabs s₁.heap) (hr : ∀ a x, cw.raises a x = false)
    (h : codeAny M A cd (fun r s' => (∃ v d as, r = .ok (.ret v) ∧ ReadsW cw.records cl s'.heap v d as ∧ cw.post args d args = true ∧ (cw.unshared = true → as.Nodup ∧ ∀ a ∈ as, (ghostOf s₁.heap tabs).get? a = none)) ∧
      (∀ b o, (ghostOf s₁.heap tabs).get? b = some o → s'.heap.get? b = some o) ∧ s'.os = s₁.os ∧ AllBare s'.gens ∧ GrownAll tabs s'.heap) s) : codeAny M A cd (GoodWG cw cl mean args s₁) s :=
  codeAny_mono h fun r s' hh => by
    obtain ⟨hh1, hk, hos, hg, hgr⟩ := hh
    obtain ⟨v, d, as, r1, r3, r4, r5⟩ := hh1
    have keep : ∀ b o, b ∉ tabs.map (·.2) → s₁.heap.get? b = some o → s'.heap.get? b = some o := fun b o hb e => hk b o (ghost_ne e hb)
    have grown : ∀ b o, b ∈ tabs.map (·.2) → s₁.heap.get? b = some o → isCodeTable s₁.heap b ∧ o = tabObj #[] ∧ ∃ ps, s'.heap.get? b = some (tabObj ps) := fun b o hb e => by
      obtain ⟨q, hq, rfl⟩ := List.mem_map.mp hb
      have e2 := (hT q hq).2
      rw [e] at e2
      exact ⟨((hT q hq).1.tab (hT q hq).2).isCodeTable, Option.some.inj e2, hgr.get q hq⟩
    refine ⟨.inl ⟨v, d, as, r1, fun _ => hr _ _, r3, r4, fun q => ⟨(r5 q).1, fun a ha => ?_⟩⟩, ⟨fun b o e => ?_, fun b o e => ?_⟩, hos, hg⟩
    · cases q1 : s₁.heap.get? a with
      | none => rfl
      | some o =>
        by_cases hb : a ∈ tabs.map (·.2)
        · obtain ⟨_, _, ps, hP⟩ := grown a o hb q1
          exact absurd ha (readsW_apart hP rfl r3)
        · have e3 := (r5 q).2 a ha
          rw [show (ghostOf s₁.heap tabs).get? a = some o from ghost_ne q1 hb] at e3
          cases e3
    · by_cases hb : b ∈ tabs.map (·.2)
      · obtain ⟨ht, rfl, ps, hP⟩ := grown b o hb e
        exact .inr (.inl ⟨ht, rfl, #[], ps, rfl, by rw [Array.empty_append]; exact hP⟩)
      · exact .inl (keep b o hb e)
    · by_cases hb : b ∈ tabs.map (·.2)
      · obtain ⟨_, _, ps, hP⟩ := grown b o hb e
        exact ⟨_, hP⟩
      · exact ⟨o, keep b o hb e⟩
theorem lawTail0 (w : World) : T0 w := stepT0 (stepT1 (stepT5 (stepT8 (stepT12 (stepT14 (stepT15 (stepT16 (stepT17 (stepT18 (stepT19 (stepT20 (stepT21 (stepT22 (stepT23 stepT24))))))))))))))
theorem grownAt {P : Addr} {o : Obj} {h₀ h : Heap} {L : Addr} {news : Led} (N : News h₀ L h news) (hm : (P, o) ∈ news) (t : IsTab o) : GrownAt P h := by
  obtain ⟨ps, rfl, _⟩ := t
  exact ⟨ps, (N _ hm).1⟩
end Mine
open Mine
set_option maxHeartbeats 8000000 in
theorem PySem.Challenge.cw_ay0011_01_holds : PySem.Challenge.rw_ay0011_01.Holds :=
  Mine.hd (by
  k_fill
  intro w s₀ s₁ mg mb G Y fa o pm cd doc dV kV ho hd hcd hD hmg hg args vals as hpre hlay hrd hwl hlo
  have KX := km_in_of Y
  have hT8 := km_tabs_of Y
  have X := (Ground.X G).1
  have V := (Ground.X G).2
  refine Ground.open G ?_
  intro T B D TE TW
  try (refine guard_noD D (by decide +kernel) ?_; clear D)
  have hT9 : TabsAt [(146,142),(180,178),(229,225)] s₁.heap := List.forall_mem_cons.mpr ⟨⟨codeHd_of_K (c := 146) (P := 142) KX (by kernel_rfl), hT8 142 (by k_mem)⟩, List.forall_mem_cons.mpr ⟨⟨codeHd_of_K (c := 180) (P := 178) KX (by kernel_rfl), hT8 178 (by k_mem)⟩, List.forall_mem_cons.mpr ⟨⟨codeHd_of_K (c := 229) (P := 225) KX (by kernel_rfl), hT8 225 (by k_mem)⟩, fun _ h => nomatch h⟩⟩⟩
  clear hmg
  wrow_args hpre hlay hrd hwl hlo
  all_goals (
    first | refine callC_kw (enter_call ?_) | refine enter_call ?_
    w_top on
    refine kn_postG hT9 (fun _ _ => rfl) ?_
    w_call any ho hd hcd hD T F
    clear hd
    kn_ghosts F T
    k_drop
    rename Below _ _ _ _ => K8
    rename Frag.In _ (ghostOf _ _) => X8
    rename Top topProg _ _ _ _ _ => T8
    rename News _ _ _ _ => N8
    rename Fr _ _ _ _ => F8
    rename (ghostOf _ _).IsList _ _ => L8
    rename IntsAre _ _ => I8
    rename (142 < _ ∧ _) => l8
    show wpAny _ _ (execs _ _) _ _ _
    refine wpAny_mono (E := fun _ _ => False) ?_ (fun _ _ h => h) (fun _ _ h => h.elim)
    refine' lawTail0 w ?q1 ?q2 ?q3 ?q4 ?q5 ?q6 ?h K8 F8 X8 T8 (by decide) (by decide) ?hret ⟨#[], rfl, trivial⟩ ⟨#[], rfl, trivial⟩ ⟨#[], rfl, trivial⟩ (.of_eq hg) (by omega) (newsSub N8 (by lcg_sub)) (by assumption) (by assumption) (by assumption) (by assumption) (by assumption) (by assumption) (by assumption) L8 I8 (by omega) rfl
    (case h => with_unfolding_all rfl)
    (case hret =>
      intro s' m' p1 p2 p3 hos t1 t2 t3 bare F N
      exact ⟨⟨.bool true, _, [], rfl, .bool true, (by with_unfolding_all rfl), fun _ => ⟨List.nodup_nil, fun _ h => nomatch h⟩⟩, F.keep, hos, bare, grownAt N (by k_mem) t1, grownAt N (by k_mem) t2, grownAt N (by k_mem) t3, trivial⟩)))
