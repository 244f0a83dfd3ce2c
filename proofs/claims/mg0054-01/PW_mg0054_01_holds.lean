import PyProof.Rows.All
import Wide.All
import OpenK.AllK
import Wide.FinOn
import Lean
import PySem.Challenge.RW_mg0054_01
open PySem PySem.W PyProof.Rows
set_option Elab.async false
set_option compiler.extract_closed false
set_option genInjectivity false
set_option genSizeOf false
set_option linter.unusedVariables false
namespace Mine
/-- as the library's rule, but what the text's top leaves behind, and that the row is well said, stand beside the walk, to be shown by hand -/
theorem PySem.W.holds_open {r : OpenRow} {q : Program} {loose : List Str} {Xt : Shared → Bool} {XP : (Str → Option Value) → Heap → Prop} {α : Type} {Yf : Shared → α} {Ya : World → α} {YP : World → Heap → Prop} {d : DefRec} {kwd : List (Str × Expr)} {N : Nat}
    (_ : ∀ _ : World, N = N) (hY : ∀ w s, Yf s = Ya w → YP w s.heap) (hYk : ∀ w h h', YP w h → (∀ b o, h.get? b = some o → h'.get? b = some o) → YP w h')
    (hX : ∀ s, Xt s = true → XP (s.heap.nsMap mainGlobals) s.heap) (hXk : ∀ mg h h', XP mg h → (∀ b o, h.get? b = some o → h'.get? b = some o) → XP mg h')
    (hdef : defOf q r.name = some (d, kwd)) (hp : r.prog.theDef r.name = some (d.params, d.body, d.scope)) (hk : kwWritten? d.params.kwonlyargs d.params.kw_defaults = some kwd) (hRf : ∀ s, Xt s = true → RecFacts r.records s.heap) (hwr : (!r.writes || r.records.isEmpty) = true)
    (_ : True) (ok : (chainsOk q && opensWell r.prog && (frees r.toRowW && r.within.isEmpty)) = true) (hb : r.prog.bare) (hw : r.toRowW.promised)
    (hc : (r.wellSaid = true ∧ LeftO r.prog q loose Xt Yf Ya N) ∧ WalkO q loose XP YP r.toRowW d kwd fun f vs => PySem.call f vs) : r.Holds :=
  _root_.PySem.W.holds_open hc.1.2 hY hYk hX hXk hdef hp hk hRf hwr hc.1.1 ok hb hw hc.2
set_option maxRecDepth 100000 in
set_option maxHeartbeats 8000000 in
open_top hd for PySem.Challenge.rw_mg0054_01.row

/-- the top's run on the tree of objects -/
noncomputable def runT (p : Program) (w : World) (n₀ : Nat) (ann : Option Value) : Nat → SharedT → Thread → Option SharedT
  | 0, _, _ => none
  | n + 1, s, t => match through t with
    | true => some s
    | false => match stepOk n₀ ann t with
      | false => none
      | true => match stepT (denote treeTable) p w s t with
        | some (s', t') => runT p w n₀ ann n s' t'
        | none => none
theorem runT_of {p : Program} {w : World} {n₀ : Nat} {ann : Option Value} : ∀ {n : Nat} {s s' : SharedT} {t : Thread}, runT p w n₀ ann n s t = some s' → topRun treeTable p w n₀ ann n s.abs t = some s'.abs
  | 0, _, _, _, h => by cases h
  | n + 1, s, s', t, h => by
    unfold runT at h
    unfold topRun
    cases e : through t with
    | true => rw [e] at h; cases h; rfl
    | false =>
      rw [e] at h
      cases k : stepOk n₀ ann t with
      | false => rw [k] at h; cases h
      | true =>
        rw [k] at h
        cases q : stepT (denote treeTable) p w s t with
        | none => rw [q] at h; cases h
        | some r => obtain ⟨s₂, t₂⟩ := r; rw [q] at h; rw [stepT_spec q]; exact runT_of h
noncomputable def treeOf (h : Heap) : BT := (h.objs.toList.foldl (fun (x : BT × Nat) o => (x.1.ins x.2 o, x.2 + 1)) (.nil, 0)).1
theorem left_tree {p q : Program} {loose : List Str} {Xt : Shared → Bool} {α : Type} {Yf : Shared → α} {Ya : World → α} {N m₀ : Nat} {g0 : Bool} {ann : Option Value} {life : Life}
    (e : opening p = plainProg p.main.scope.names) (hN : Nat.ble 600 N = true) (f : ∀ s, fenceModules? p s = some s)
    (hT : ∀ P, absHeap (treeOf (boot_heap P)) m₀ life = boot_heap P)
    (size : ∀ w : World, ((boot_heap w.params).isNs mainGlobals, (boot_heap w.params).objs.size, (boot_heap w.params).nsMap mainGlobals "__annotations__") = (true, m₀, ann))
    (run : ∀ w : World, (fun os => (runT p w m₀ ann N ⟨treeOf (boot_heap w.params), m₀, life, Array.mk [], boot_drawn, boot_toks, os⟩ (topStub p)).map fun s =>
      ((staticsOk (importedModules p.main.body) (boot_heap w.params) s.abs.heap && namesBound p s.abs.heap && gensDone s.abs && laidKept (boot_heap w.params) s.abs.heap), openSeen q loose (importedModules p.main.body) Xt g0 s.abs, Yf s.abs)) =
      fun _ => some (true, openGood q loose, Ya w)) : LeftO p q loose Xt Yf Ya N g0 := fun w => by
  obtain ⟨⟨h0, gs, d, k, os⟩, e1, e2⟩ := Option.map_eq_some_iff.mp (boot_open e hN f w)
  obtain ⟨rfl, rfl, rfl, rfl⟩ : h0 = boot_heap w.params ∧ gs = Array.mk [] ∧ d = boot_drawn ∧ k = boot_toks := by simpa using e2
  obtain ⟨z1, z2, z3⟩ : _ ∧ _ ∧ _ := by simpa only [Prod.mk.injEq] using size w
  obtain ⟨s, r, l⟩ := Option.map_eq_some_iff.mp (congrFun (run w) os)
  obtain ⟨l1, l2, l3⟩ : _ ∧ _ ∧ _ := by simpa only [Prod.mk.injEq] using l
  have r' := runT_of r
  have ea : SharedT.abs ⟨treeOf (boot_heap w.params), m₀, life, Array.mk [], boot_drawn, boot_toks, os⟩ = ⟨boot_heap w.params, Array.mk [], boot_drawn, boot_toks, os⟩ := by unfold SharedT.abs; rw [hT]
  rw [ea] at r'
  have t : topFrom treeTable p w N ⟨boot_heap w.params, Array.mk [], boot_drawn, boot_toks, os⟩ = some s.abs := by
    unfold topFrom
    dsimp only
    rw [z1, z2, z3, r']
    show (match staticsOk (importedModules p.main.body) (boot_heap w.params) s.abs.heap && namesBound p s.abs.heap && gensDone s.abs && laidKept (boot_heap w.params) s.abs.heap with | true => _ | false => _) = _
    rw [l1]
  unfold openEnds
  rw [e1]
  show (topFrom treeTable p w N _).map _ = _
  rw [t]
  exact congrArg some (Prod.ext l2 l3)
/-- the same run, on the library's quick forms of its step -/
noncomputable def runQ (p : Program) (w : World) (n₀ : Nat) (ann : Option Value) : Nat → SharedT → Thread → Option SharedT
  | 0, _, _ => none
  | n + 1, s, t => match through t with
    | true => some s
    | false => match PySem.W.Fast.tw6613529449190102663 n₀ ann t with
      | false => none
      | true => match PySem.W.Fast.tw10156331382660048174 (PySem.W.Fast.tw11892475500146522536 PySem.W.Fast.tw14364793385576792824) p w s t with
        | some (s', t') => runQ p w n₀ ann n s' t'
        | none => none
theorem runQ_eq {p : Program} {w : World} {n₀ : Nat} {ann : Option Value} : ∀ (n : Nat) (s : SharedT) (t : Thread), runT p w n₀ ann n s t = runQ p w n₀ ann n s t
  | 0, _, _ => rfl
  | n + 1, s, t => by
    unfold runT runQ
    rw [PySem.W.Fast.te6613529449190102663, PySem.W.Fast.te10156331382660048174, PySem.W.Fast.te11892475500146522536, PySem.W.Fast.te14364793385576792824]
    simp only [runQ_eq n]
theorem left_quick {p p' q : Program} {loose : List Str} {Xt : Shared → Bool} {α : Type} {Yf : Shared → α} {Ya : World → α} {N m₀ : Nat} {g0 : Bool} {ann : Option Value} {life : Life} (hp : p = p')
    (e : opening p = plainProg p.main.scope.names) (hN : Nat.ble 600 N = true) (f : ∀ s, fenceModules? p s = some s)
    (hT : ∀ P, absHeap (treeOf (boot_heap P)) m₀ life = boot_heap P)
    (size : ∀ w : World, ((boot_heap w.params).isNs mainGlobals, (boot_heap w.params).objs.size, (boot_heap w.params).nsMap mainGlobals "__annotations__") = (true, m₀, ann))
    (run : ∀ w : World, (fun os => (runQ p' w m₀ ann N ⟨treeOf (boot_heap w.params), m₀, life, Array.mk [], boot_drawn, boot_toks, os⟩ (topStub p')).map fun s =>
      ((staticsOk (importedModules p'.main.body) (boot_heap w.params) s.abs.heap && namesBound p' s.abs.heap && gensDone s.abs && laidKept (boot_heap w.params) s.abs.heap), PySem.W.Fast.tw4187177175401517315 q loose (importedModules p'.main.body) Xt g0 s.abs, Yf s.abs)) =
      fun _ => some (true, openGood q loose, Ya w)) : LeftO p q loose Xt Yf Ya N g0 := by
  subst hp
  refine left_tree e hN f hT size fun w => ?_
  have h := run w
  simp only [← runQ_eq, ← PySem.W.Fast.te4187177175401517315] at h
  exact h
noncomputable def hookK : Hook := kHook Mine.hd.heap_1 [2, 3, 15, 17, 18, 20, 21, 22, 24, 25, 27, 28, 29, 31, 32, 34, 35, 36, 38, 39, 41, 42, 43, 45, 46, 48, 49, 50, 52, 53, 55, 56, 64, 65, 67, 68, 70, 71, 72, 74, 75, 76, 77, 78, 81, 88, 89, 90, 91, 101, 102, 104, 105, 107, 108, 109, 111, 112, 114, 115, 116, 118, 119, 121, 122, 123, 126, 127, 128, 130, 131, 133, 134, 135, 137, 138, 140, 141, 142, 144, 145, 147, 148, 149, 151, 152, 154, 155, 156, 158, 159, 161, 162, 163, 165, 166, 168, 169, 170, 171, 172, 173, 174, 177, 179, 180, 182, 183, 184, 186, 187, 189, 190, 191, 194, 195, 196, 199, 200, 201, 203, 204, 206, 207, 208, 211, 212, 213, 216, 217, 218, 220, 221, 223, 224] (fun _ => by kernel_rfl)
set_option maxRecDepth 100000 in
set_option maxHeartbeats 8000000 in
theorem left_ok : LeftO PySem.Challenge.rw_mg0054_01.row.prog Mine.hd.view_1 [Str.ofString "_NodeInfo"] (fun s => xlAt Mine.hd.view_1 [] s && recOk PySem.Challenge.rw_mg0054_01.row.records s) hookK.obs hookK.val 3030 :=
  left_quick (m₀ := 11) (life := {}) (ann := some (.ref 6)) (p' := PySem.Challenge.pw_mg0054_01) rfl (by kernel_rfl) (by decide) (fun s => by kernel_rfl) (fun P => by kernel_rfl) (fun w => by kernel_rfl) (fun w => by kernel_rfl)
theorem said_ok : OpenLaw.wellSaid PySem.Challenge.rw_mg0054_01 = true := by
  rw [PySem.W.Fast.te9446332074065402090]
  kernel_rfl

/-- a mark: the walker stops here -/
noncomputable def Stop (P : Prop) : Prop := P
theorem pin_postA {α : Type} {M : Model} {A : Around} {t : Sem α} {Q : α → Shared → Prop} {E : PySem.Value → Shared → Prop} {s : Shared} (h : let A' := A; let s' := s; let Q' := Q; let E' := E; wpAny M A' t Q' E' s') : wpAny M A t Q E s := h
theorem pin_postQ {α : Type} {M : Model} {A : Around} {t : Sem α} {Q : α → Shared → Prop} {E : PySem.Value → Shared → Prop} {s : Shared} (h : let Q' := Q; let E' := E; wpAny M A t Q' E' s) : wpAny M A t Q E s := h
theorem pin_post {α : Type} {M : Model} {A : Around} {t : Sem α} {Q : α → Shared → Prop} {E : PySem.Value → Shared → Prop} {s : Shared} (h : let s' := s; let Q' := Q; let E' := E; wpAny M A t Q' E' s') : wpAny M A t Q E s := h
theorem stop_in {P : Prop} (h : Stop P) : P := h
/-- the defs that have contracts: the walk stops at their calls -/
noncomputable def stopAt (a : Nat) : Bool := [28, 35, 42, 127, 134, 155, 162, 183, 190, 195, 200, 207, 212, 217].contains a
theorem stop_ref {M : Model} {A : Around} {a : Addr} {xs : List PySem.Value} {kw : List (Str × PySem.Value)} {Q : PySem.Value → Shared → Prop} {E : PySem.Value → Shared → Prop} {s : Shared} (_ : stopAt a = true) (h : Stop (wpAny M A (call (.ref a) xs kw) Q E s)) : wpAny M A (call (.ref a) xs kw) Q E s := h
theorem stop_out {P : Prop} (h : P) : Stop P := h

section
variable {prog : Program} {w : World} {M : Model} {A : Around} {E : Value → Shared → Prop} {s : Shared} {h₀ : Heap} {L a : Addr} {m : Str → Option Value} {news : List (Addr × Obj)} {cn x : Str} {cs : Scope} {ccd : Value} {cl : List (Str × Addr)}
/-- a store of an int: its token and the state's are letters behind it -/
theorem st_int {v : Int} {t : Tok} {Q : Unit → Shared → Prop} (F : Fr h₀ L s.heap m) (N : News h₀ L s.heap news)
    (h : ∀ h' t' tk', Fr h₀ L h' (fun y => if y = x then some (.int v t') else m y) → News h₀ L h' news → Q () { s with heap := h', toks := tk' })
    (hk : cs.kind = .function := by rfl) (hx : (envX cn cs L a ccd cl).kindOf x = some .local := by rfl) : wpAny M A (storeName (envX cn cs L a ccd cl) x (.int v t)) Q E s :=
  storeX_L F N (fun h' F' N' => h h' _ _ F' N') hk hx
theorem rsh1 {n : Nat} {t u : Tok} {Q : Value → Shared → Prop} (h0 : 0 < n) (h : ∀ t', Q (.int (((n - 1) / 2 : Nat) : Int) t') { s with toks := s.toks + 1 }) :
    wpAny (model prog w) A (binaryOp .RShift (.int ((n : Int) - 1) t) (.int 1 u)) Q E s := by
  refine wpAny_rshift1_int (by omega) ?_
  have e : ((n : Int) - 1) / 2 = (((n - 1) / 2 : Nat) : Int) := by omega
  rw [e]
  exact h _
theorem pop_last {D : Addr} {n : Nat} {p : List Value} {y : Value} {news' : List (Addr × Obj)} {Q : Value → Shared → Prop} (F : Fr h₀ L s.heap m) (N : News h₀ L s.heap news) (U : Upd D (listOf (p ++ [y]).toArray n) (listOf p.toArray (n + 1)) news news')
    (hz : p.length < 1000) (h : ∀ h', Fr h₀ L h' m → News h₀ L h' news' → Q y { s with heap := h' }) : wpAny (model prog w) A (call (.builtin "list.pop") [.ref D]) Q E s :=
  kl_pop F N (kpa_last y p) U (by show (p ++ [y]).length ≤ sizeLine; rw [List.length_append, sizeLine_eq, List.length_singleton]; omega) h
theorem append_L {D : Addr} {n : Nat} {vs : List Value} {y : Value} {news' : List (Addr × Obj)} {Q : Value → Shared → Prop} (F : Fr h₀ L s.heap m) (N : News h₀ L s.heap news) (U : Upd D (listOf vs.toArray n) (listOf (vs ++ [y]).toArray (n + 1)) news news')
    (hz : vs.length < 1000) (h : ∀ h', Fr h₀ L h' m → News h₀ L h' news' → Q .none { s with heap := h' }) : wpAny (model prog w) A (call (.builtin "list.append") [.ref D, y]) Q E s :=
  append_K (its := vs.toArray) F N (by rw [List.push_toArray]; exact U) h (by rw [sizeLine_eq, List.size_toArray]; omega)
theorem ints_snoc_inv : ∀ {ns : List Int} {vs : List Value} {x : Int}, IntsAre vs (ns ++ [x]) → ∃ vs0 t, vs = vs0 ++ [.int x t] ∧ IntsAre vs0 ns
  | [], _, _, h => by cases h with | cons _ t h => cases h; exact ⟨[], t, rfl, .nil⟩
  | n :: ns, _, _, h => by
    cases h with | cons _ t h =>
    obtain ⟨vs0, t', e, h'⟩ := ints_snoc_inv (ns := ns) h
    exact ⟨.int n t :: vs0, t', by rw [e]; rfl, .cons n t h'⟩
theorem ints_snoc {ns : List Int} {vs : List Value} {x : Int} {t : Tok} (h : IntsAre vs ns) : IntsAre (vs ++ [.int x t]) (ns ++ [x]) := h.append (.cons x t .nil)
end

/-! the symbolic end of a ledger: one more than its greatest address -/
noncomputable def bd : List (Addr × Obj) → Nat
  | [] => 0
  | p :: r => max (p.1 + 1) (bd r)
theorem allLt_bd {d : Nat} : ∀ {r : List (Addr × Obj)}, AllLt d r ↔ bd r ≤ d
  | [] => by simp [AllLt, bd]
  | p :: r => by
    have ih := allLt_bd (d := d) (r := r)
    have e : bd (p :: r) = max (p.1 + 1) (bd r) := rfl
    rw [e]
    show (@LT.lt Nat _ p.1 d ∧ AllLt d r) ↔ _
    rw [ih]
    have h1 : ∀ a b : Nat, a < d ∧ b ≤ d ↔ max (a + 1) b ≤ d := by omega
    exact h1 _ _
theorem bd_lt {x : Nat} {r : List (Addr × Obj)} (h : bd r ≤ x) : ∀ p ∈ r, p.1 < x := by
  induction r with
  | nil => intro p hp; cases hp
  | cons q r ih =>
    have e : bd (q :: r) = max (q.1 + 1) (bd r) := rfl
    rw [e] at h
    have h1 : ∀ a b : Nat, max (a + 1) b ≤ x → a < x ∧ b ≤ x := by omega
    obtain ⟨h2, h3⟩ := h1 _ _ h
    intro p hp
    rcases List.mem_cons.mp hp with rfl | hp
    · exact h2
    · exact ih h3 p hp
theorem bd_ne {x : Nat} {r : List (Addr × Obj)} (h : bd r ≤ x) : ∀ p ∈ r, p.1 ≠ x := fun p hp => Nat.ne_of_lt (bd_lt h p hp)
theorem bd_le {x : Nat} {r : List (Addr × Obj)} (h : ∀ p ∈ r, p.1 < x) : bd r ≤ x := allLt_bd.mp (allLt_of h)
theorem bd_append {r q : List (Addr × Obj)} : bd (r ++ q) = max (bd r) (bd q) := by
  induction r with
  | nil => simp [bd]
  | cons p r ih => simp only [List.cons_append, bd, ih]; exact (Nat.max_assoc _ _ _).symm
theorem bd_mono {r q : List (Addr × Obj)} (h : ∀ p ∈ r, ∃ o, (p.1, o) ∈ q) : bd r ≤ bd q := bd_le fun p hp => by
  obtain ⟨o, ho⟩ := h p hp
  exact bd_lt (Nat.le_refl _) (p.1, o) ho
theorem news_swap {h₀ h : Heap} {L : Addr} {p q : Addr × Obj} {r : List (Addr × Obj)} (N : News h₀ L h (p :: q :: r)) : News h₀ L h (q :: p :: r) := fun x hx => N x (by
  rcases List.mem_cons.mp hx with rfl | hx
  · exact .tail _ (.head _)
  · rcases List.mem_cons.mp hx with rfl | hx
    · exact .head _
    · exact .tail _ (.tail _ hx))
theorem news_sub {h₀ h : Heap} {L : Addr} {r q : List (Addr × Obj)} (N : News h₀ L h r) (hs : ∀ p ∈ q, p ∈ r) : News h₀ L h q := fun x hx => N x (hs x hx)

local macro_rules | `(tactic| k_all) => `(tactic| first | assumption | exact bd_ne (by omega))
local macro_rules | `(tactic| k_lt $h:ident) => `(tactic| ((replace $h:ident := allLt_of $h); (try simp only [AllLt, and_true] at $h:ident); (try simp only [allLt_bd] at $h:ident)))
local macro_rules | `(tactic| walk_at "exec While") => `(tactic| with_reducible refine stop_in ?_)
local macro_rules | `(tactic| walk_at "storeName") => `(tactic| (k_here; k_dflt (refine' st_int (by k_asm) (by k_asm) ?_ (by rfl) (by rfl)); intro h' t' tk' F' N'; (try k_sweep); (try dsimp only)))
local macro_rules | `(tactic| walk_at "binaryOp RShift int int") => `(tactic| (k_here; (with_reducible refine rsh1 ?a ?_); (case a => omega); intro t'))
local macro_rules | `(tactic| walk_at "same") => `(tactic| (intro z h2 h3; (have h4 := h3); (simp only [List.forall_mem_cons, List.not_mem_nil, false_implies, implies_true, and_true, ne_eq] at h2); (simp only [List.contains_cons, List.contains_nil, Bool.or_false, Bool.or_eq_false_iff, beq_eq_false_iff_ne, ne_eq] at h4); (simp only [kstB, h2, h3, h4, if_false, Bool.false_eq_true, not_false_eq_true])))
local macro_rules | `(tactic| walk_at "call builtin:list.pop") => `(tactic| (k_here; (with_reducible show wpAny _ _ (call (Value.builtin _) [Value.ref _]) _ _ _); k_dflt (refine' pop_last (by k_asm) (by k_asm) (by k_upd) (by omega) ?_); (intro h' F' N')))
local macro_rules | `(tactic| k_room) => `(tactic| ktr_room)
local macro_rules | `(tactic| k_units) => `(tactic| ktr_units)
local macro_rules | `(tactic| k_mem) => `(tactic| first | exact List.mem_append_right _ (by assumption) | assumption)
local macro_rules | `(tactic| walk_at "exec For") => `(tactic| (k_here; (with_reducible show wpAny _ _ (exec (Stmt.For (Expr.Name _ _) _ _ [] _) _) _ _ _); (rename Fr _ _ _ _ => lF'); (with_unfolding_all refine' For_invVF lF' ?k1 ?k2 ?_; (case k1 => exact rfl); (case k2 => exact rfl); k_whole)))
local macro_rules | `(tactic| walk_at "pyIter ref") => `(tactic| ((with_reducible show wpAny _ _ (pyIter (Value.ref _)) (fun it s₂ => LoopAtV _ _ _ _ _ _ _ _ _ it s₂) _ _); with_reducible refine stop_in ?_))
local macro_rules | `(tactic| walk_at "same3") => `(tactic| (intro z h1 h2 h3; (have h4 := h3); (try simp only [List.forall_mem_cons, List.not_mem_nil, false_implies, implies_true, and_true, ne_eq] at h2); (try simp only [List.contains_cons, List.contains_nil, Bool.or_false, Bool.or_eq_false_iff, beq_eq_false_iff_ne, ne_eq] at h4); (first | (simp only [kstB, h1, h2, h3, h4, if_false, Bool.false_eq_true, not_false_eq_true]; done) | (simp only [kstB, h1, h2, h4, List.contains_cons, List.contains_nil, Bool.or_false, Bool.or_eq_true, beq_iff_eq, or_self, or_false, false_or, if_false, Bool.false_eq_true, not_false_eq_true]; done))))
local macro_rules | `(tactic| k_ne) => `(tactic| (refine neN ?_; (try dsimp only); first | with_reducible assumption | (refine Ne.symm ?_; with_reducible assumption) | omega))
local macro_rules | `(tactic| walk_at "call ref") => `(tactic| (k_here; with_reducible refine stop_ref (by decide) ?_))
theorem anew_A_for : True := by w_top off; first | (walk1; done) | trivial
/-! a general for rule: any walker, a state of one's own, a ledger that may grow -/
noncomputable def ForEnd {σ : Type} (h₀ : Heap) (L I : Addr) (oI : Obj) (s : Shared) (Led : σ → List (Addr × Obj)) (ps : σ → List (Str × Value)) (x : Str) (stored : List Str) (m₀ : Str → Option Value) (J : σ → Prop) (s₂ : Shared) : Prop :=
  ∃ (c' : σ) (h' : Heap) (tk : Nat) (m' : Str → Option Value) (news' : List (Addr × Obj)), s₂ = { s with heap := h', toks := tk } ∧ Fr h₀ L h' m' ∧ News h₀ L h' news' ∧ (I, oI) ∈ news' ∧ (∀ p ∈ Led c', p ∈ news') ∧ (∀ p ∈ Led c', p.1 ≠ I) ∧
    (∀ p ∈ ps c', m' p.1 = some p.2) ∧ (∀ z, z ≠ x → (∀ p ∈ ps c', z ≠ p.1) → stored.contains z = false → m' z = m₀ z) ∧ J c'
noncomputable def ForPost {σ : Type} (h₀ : Heap) (L I : Addr) (oI : Obj) (s : Shared) (Led : σ → List (Addr × Obj)) (ps : σ → List (Str × Value)) (x : Str) (stored : List Str) (m₀ : Str → Option Value) (J : σ → Prop) (Q : Flow → Shared → Prop) (f : Flow) (s₂ : Shared) : Prop :=
  match f with
  | .ret v => Q (.ret v) s₂
  | .brk => Q .next s₂
  | _ => ForEnd h₀ L I oI s Led ps x stored m₀ J s₂
theorem for_end {σ : Type} {h₀ : Heap} {L I : Addr} {oI : Obj} {s : Shared} {Led : σ → List (Addr × Obj)} {ps : σ → List (Str × Value)} {x : Str} {stored : List Str} {m₀ m' : Str → Option Value} {J : σ → Prop} {h' : Heap} {tk : Nat} {news' : List (Addr × Obj)} (c' : σ)
    (F : Fr h₀ L h' m') (N : News h₀ L h' news') (hI : (I, oI) ∈ news') (hn : ∀ p ∈ Led c', p ∈ news') (ho : ∀ p ∈ Led c', p.1 ≠ I) (hk : ∀ p ∈ ps c', m' p.1 = some p.2)
    (hr : ∀ z, z ≠ x → (∀ p ∈ ps c', z ≠ p.1) → stored.contains z = false → m' z = m₀ z) (hj : J c') : ForEnd h₀ L I oI s Led ps x stored m₀ J { s with heap := h', toks := tk } :=
  ⟨c', h', tk, m', news', rfl, F, N, hI, hn, ho, hk, hr, hj⟩

theorem Fr.lt {h₀ h : Heap} {L : Addr} {m : Str → Option Value} (F : Fr h₀ L h m) : L < h.objs.size := by
  obtain ⟨oL, _, _, hL, _⟩ := F.ns
  exact Heap.lt_size hL
theorem Fr.fresh {h₀ h : Heap} {L : Addr} {m : Str → Option Value} (F : Fr h₀ L h m) : h₀.get? h.objs.size = none := by
  cases hq : h₀.get? h.objs.size with
  | none => rfl
  | some o' => exact absurd (Heap.lt_size (F.keep _ _ hq)) (Nat.lt_irrefl _)
section
variable {prog : Program} {w : World} {A : Around} {E : Value → Shared → Prop} {Q : Flow → Shared → Prop} {s : Shared} {env : Env} {h₀ : Heap} {x : Str} {body : List Stmt}
theorem for_gen {σ : Type} {I : Addr} {fs : List Addr} {n : Nat} {P : Nat → Value → Prop} {St : Nat → Heap → Prop} {m₀ : Str → Option Value} (W : Walks prog w A I (I :: fs) [I] n P St)
    (Led : σ → List (Addr × Obj)) (ps : σ → List (Str × Value)) (stored : List Str) (J : Nat → σ → Prop) (c₀ : σ)
    (hlive : ∀ i h, St i h → ∃ o, h.get? I = some o) (hfs : ∀ b ∈ fs, (∃ o, h₀.get? b = some o) ∨ ∃ o, ∀ i c, J i c → (b, o) ∈ Led c)
    (hI : h₀.get? I = none) (hL : env.locals ∉ I :: fs) (hoff : ∀ p ∈ Led c₀, p.1 ≠ I) (hst : St 0 s.heap) (F : Fr h₀ env.locals s.heap m₀) (N : News h₀ env.locals s.heap (Led c₀)) (hk : ∀ p ∈ ps c₀, m₀ p.1 = some p.2) (hJ : J 0 c₀)
    (turn : ∀ i v (c : σ) (u : Str → Option Value) h tk oI, i < n → P i v → J i c → (∀ p ∈ Led c, p.1 ≠ I) →
      Fr h₀ env.locals h (fun y => if y = x then some v else kstB (fun z => if stored.contains z then u z else m₀ z) (ps c) y) → News h₀ env.locals h ((I, oI) :: Led c) →
      wpAny (model prog w) A (execs body env) (ForPost h₀ env.locals I oI s Led ps x stored m₀ (J (i + 1)) Q) E { s with heap := h, toks := tk })
    (done : ∀ (c : σ) (u : Str → Option Value) h tk, J n c → Fr h₀ env.locals h (fun y => if y = x then u y else kstB (fun z => if stored.contains z then u z else m₀ z) (ps c) y) → News h₀ env.locals h (Led c) → Q .next { s with heap := h, toks := tk }) :
    LoopAtV prog w A h₀ env x body Q E (.ref I) s := by
  let Jx : Nat → (Str → Option Value) → List (Addr × Obj) → Prop := fun i m nx => ∃ c : σ, nx = Led c ∧ J i c ∧ (∀ p ∈ ps c, m p.1 = some p.2) ∧ (∀ z, z ≠ x → (∀ p ∈ ps c, z ≠ p.1) → stored.contains z = false → m z = m₀ z)
  refine ⟨I, I :: fs, [I], n, P, St, m₀, Led c₀, Jx, rfl, W, hL, ?_, ?_, hst, F, N, ⟨c₀, rfl, hJ, hk, fun _ _ _ _ => rfl⟩, ?_, ?_⟩
  · intro b hb
    rw [List.mem_singleton.mp hb]
    exact hI
  · intro p hp hq
    exact hoff p hp (List.mem_singleton.mp hq)
  · rintro i v m₁ news₁ s₁ own ⟨h, tk, rfl⟩ hin hP ⟨c, rfl, hJ', h1, h2⟩ hoff' hown1 hown2 hown3 hst' F₁ N₁
    obtain ⟨oI, hoI⟩ := hlive _ _ hst'
    have hIm : (I, oI) ∈ own := hown3 I (.head _) hI oI hoI
    have hoff2 : ∀ p ∈ Led c, p.1 ≠ I := fun p hp e => hoff' p hp (by rw [e]; exact .head _)
    have N₂ : News h₀ env.locals h ((I, oI) :: Led c) := fun p hp => by
      rcases List.mem_cons.mp hp with rfl | hp
      · exact N₁ _ (List.mem_append_left _ hIm)
      · exact N₁ _ (List.mem_append_right _ hp)
    refine wpAny_mono (turn i v c m₁ h tk oI hin hP hJ' hoff2 (kst_fr h1 h2 F₁) N₂) (fun f s₂ p => ?_) fun _ _ e => e
    have fin : ForEnd h₀ env.locals I oI s Led ps x stored m₀ (J (i + 1)) s₂ → LoopStepU h₀ env.locals [I] own (Jx (i + 1)) { s with heap := h, toks := tk } .next s₂ := by
      rintro ⟨c', h', tk', m', news', rfl, F', N', hIn, hn, ho, hk', hr', hj'⟩
      refine ⟨rfl, h', tk', m', Led c', rfl, F', fun p hp => ?_, fun p hp hq => ho p hp (List.mem_singleton.mp hq), c', rfl, hj', hk', hr'⟩
      rcases List.mem_append.mp hp with hp | hp
      · rcases List.mem_cons.mp (hown1 p hp) with e | hb
        · have e2 := hown2 p hp
          rw [e] at e2
          have e3 : p = (I, oI) := by
            obtain ⟨a, b⟩ := p
            have e' : a = I := e
            have e4 : h.get? I = some b := e2
            rw [hoI] at e4
            rw [e', Option.some.inj e4]
          rw [e3]
          exact N' _ hIn
        · rcases hfs p.1 hb with ⟨o, ho⟩ | ⟨o, ho⟩
          · have := (N₁ p (List.mem_append_left _ hp)).2.2
            rw [ho] at this
            cases this
          · have e1 := (N₁ _ (List.mem_append_right _ (ho i c hJ'))).1
            have e2 := hown2 p hp
            have e3 : p = (p.1, o) := by
              obtain ⟨a, b⟩ := p
              have e4 : h.get? a = some b := e2
              have e5 : h.get? a = some o := e1
              rw [e4] at e5
              cases e5
              rfl
            rw [e3]
            exact N' _ (hn _ (ho (i + 1) c' hj'))
      · exact N' _ (hn _ hp)
    cases f with
    | ret v => exact .ret p
    | brk => exact .brk p
    | next => exact .next (fin p)
    | cont => exact .cont (fin p)
  · rintro h' tk m' news' F' N' _ ⟨c, rfl, hJ', h1, h2⟩
    exact done c m' h' tk hJ' (kst_frOut h1 h2 F') N'

/-- over a range iterator (whatever its step) -/
theorem for_rangeIter {σ : Type} {I : Addr} {n : Nat} {a c₁ : Int} {m₀ : Str → Option Value} (hh : A.handled = none) (hit : IsRangeIter s.heap I a n c₁)
    (Led : σ → List (Addr × Obj)) (ps : σ → List (Str × Value)) (stored : List Str) (J : Nat → σ → Prop) (c₀ : σ)
    (hI : h₀.get? I = none) (hL : env.locals ≠ I) (hoff : ∀ p ∈ Led c₀, p.1 ≠ I) (F : Fr h₀ env.locals s.heap m₀) (N : News h₀ env.locals s.heap (Led c₀)) (hk : ∀ p ∈ ps c₀, m₀ p.1 = some p.2) (hJ : J 0 c₀)
    (turn : ∀ (i : Nat) t (c : σ) (u : Str → Option Value) h tk oI, i < n → J i c → (∀ p ∈ Led c, p.1 ≠ I) →
      Fr h₀ env.locals h (fun y => if y = x then some (.int (a + i * c₁) t) else kstB (fun z => if stored.contains z then u z else m₀ z) (ps c) y) → News h₀ env.locals h ((I, oI) :: Led c) →
      wpAny (model prog w) A (execs body env) (ForPost h₀ env.locals I oI s Led ps x stored m₀ (J (i + 1)) Q) E { s with heap := h, toks := tk })
    (done : ∀ (c : σ) (u : Str → Option Value) h tk, J n c → Fr h₀ env.locals h (fun y => if y = x then u y else kstB (fun z => if stored.contains z then u z else m₀ z) (ps c) y) → News h₀ env.locals h (Led c) → Q .next { s with heap := h, toks := tk }) :
    LoopAtV prog w A h₀ env x body Q E (.ref I) s := by
  refine for_gen (fs := []) (Walks.range hh I a c₁ n) Led ps stored J c₀ (fun i h st => ⟨_, st⟩) (fun b hb => (nomatch hb)) hI (fun h => hL (List.mem_singleton.mp h)) hoff (by simpa using hit) F N hk hJ ?_ done
  rintro i v c u h tk oI hi ⟨t, rfl⟩ hJ' ho F' N'
  exact turn i t c u h tk oI hi hJ' ho F' N'
end

section
variable {prog : Program} {w : World} {A : Around} {E : Value → Shared → Prop} {Q : Flow → Shared → Prop} {s : Shared} {env : Env} {h₀ : Heap} {x : Str} {body : List Stmt}
/-- over a list of the ledger that no turn changes -/
theorem iter_list {σ : Type} {l : Addr} {vs : List Value} {n : Nat} {m₀ : Str → Option Value} (Led : σ → List (Addr × Obj)) (ps : σ → List (Str × Value)) (stored : List Str) (J : Nat → σ → Prop) (c₀ : σ) (hh : A.handled = none)
    (hmem : ∀ i c, J i c → (l, listOf vs.toArray n) ∈ Led c) (F : Fr h₀ env.locals s.heap m₀) (N : News h₀ env.locals s.heap (Led c₀)) (hk : ∀ p ∈ ps c₀, m₀ p.1 = some p.2) (hJ : J 0 c₀)
    (turn : ∀ (i : Nat) v (c : σ) (u : Str → Option Value) h tk (I : Nat) oI, vs[i]? = some v → J i c → (∀ p ∈ Led c, p.1 ≠ I) →
      Fr h₀ env.locals h (fun y => if y = x then some v else kstB (fun z => if stored.contains z then u z else m₀ z) (ps c) y) → News h₀ env.locals h ((I, oI) :: Led c) →
      wpAny (model prog w) A (execs body env) (ForPost h₀ env.locals I oI s Led ps x stored m₀ (J (i + 1)) Q) E { s with heap := h, toks := tk })
    (done : ∀ (c : σ) (u : Str → Option Value) h tk, J vs.length c → Fr h₀ env.locals h (fun y => if y = x then u y else kstB (fun z => if stored.contains z then u z else m₀ z) (ps c) y) → News h₀ env.locals h (Led c) → Q .next { s with heap := h, toks := tk }) :
    wpAny (model prog w) A (pyIter (.ref l)) (fun it s₂ => LoopAtV prog w A h₀ env x body Q E it s₂) E s := by
  have hl : s.heap.IsList l vs.toArray := ⟨_, (N _ (hmem 0 _ hJ)).1, rfl, _, rfl⟩
  have hlI : l ≠ s.heap.objs.size := Nat.ne_of_lt (Heap.lt_size (N _ (hmem 0 _ hJ)).1)
  refine wpAny_pyIter_list hl ?_
  refine for_gen (s := { s with heap := s.heap.push _ }) (fs := [l]) (Walks.list hh _ l hlI vs.toArray) Led ps stored J c₀ (fun i h st => ?_) (fun b hb => .inr ?_) F.fresh (fun h => ?_) N.apart ?_ (F.push _) (N.pushKeep _) hk hJ ?_ ?_
  · obtain ⟨o, ho, _⟩ := st.1; exact ⟨o, ho⟩
  · rw [List.mem_singleton.mp hb]; exact ⟨_, hmem⟩
  · rcases List.mem_cons.mp h with h | h
    · exact absurd h (Nat.ne_of_lt (Mine.Fr.lt F))
    · exact absurd (List.mem_singleton.mp h) (fun e => (N _ (hmem 0 _ hJ)).2.1 e.symm)
  · exact ⟨⟨_, Heap.get?_push_size _ rfl, rfl, rfl⟩, ⟨_, Heap.get?_push_of_some _ (N _ (hmem 0 _ hJ)).1, rfl, _, rfl⟩⟩
  · rintro i v c u h tk oI hi hv hJ' ho F' N'
    exact turn i v c u h tk _ oI (by simpa using hv) hJ' ho F' N'
  · intro c u h tk hJ' F' N'
    exact done c u h tk (by simpa using hJ') F' N'
theorem iter_tuple {σ : Type} {l : Addr} {vs : List Value} {n : Nat} {m₀ : Str → Option Value} (Led : σ → List (Addr × Obj)) (ps : σ → List (Str × Value)) (stored : List Str) (J : Nat → σ → Prop) (c₀ : σ) (hh : A.handled = none)
    (hmem : ∀ i c, J i c → (l, ({ cls := .type "tuple", data := .seq vs.toArray n } : Obj)) ∈ Led c) (F : Fr h₀ env.locals s.heap m₀) (N : News h₀ env.locals s.heap (Led c₀)) (hk : ∀ p ∈ ps c₀, m₀ p.1 = some p.2) (hJ : J 0 c₀)
    (turn : ∀ (i : Nat) v (c : σ) (u : Str → Option Value) h tk (I : Nat) oI, vs[i]? = some v → J i c → (∀ p ∈ Led c, p.1 ≠ I) →
      Fr h₀ env.locals h (fun y => if y = x then some v else kstB (fun z => if stored.contains z then u z else m₀ z) (ps c) y) → News h₀ env.locals h ((I, oI) :: Led c) →
      wpAny (model prog w) A (execs body env) (ForPost h₀ env.locals I oI s Led ps x stored m₀ (J (i + 1)) Q) E { s with heap := h, toks := tk })
    (done : ∀ (c : σ) (u : Str → Option Value) h tk, J vs.length c → Fr h₀ env.locals h (fun y => if y = x then u y else kstB (fun z => if stored.contains z then u z else m₀ z) (ps c) y) → News h₀ env.locals h (Led c) → Q .next { s with heap := h, toks := tk }) :
    wpAny (model prog w) A (pyIter (.ref l)) (fun it s₂ => LoopAtV prog w A h₀ env x body Q E it s₂) E s := by
  have hl : s.heap.IsTuple l vs.toArray := ⟨_, (N _ (hmem 0 _ hJ)).1, rfl, _, rfl⟩
  have hlI : l ≠ s.heap.objs.size := Nat.ne_of_lt (Heap.lt_size (N _ (hmem 0 _ hJ)).1)
  refine wpAny_pyIter_tuple hl ?_
  refine for_gen (s := { s with heap := s.heap.push _ }) (fs := [l]) (Walks.tuple hh _ l hlI vs.toArray) Led ps stored J c₀ (fun i h st => ?_) (fun b hb => .inr ?_) F.fresh (fun h => ?_) N.apart ?_ (F.push _) (N.pushKeep _) hk hJ ?_ ?_
  · obtain ⟨o, ho, _⟩ := st.1; exact ⟨o, ho⟩
  · rw [List.mem_singleton.mp hb]; exact ⟨_, hmem⟩
  · rcases List.mem_cons.mp h with h | h
    · exact absurd h (Nat.ne_of_lt (Mine.Fr.lt F))
    · exact absurd (List.mem_singleton.mp h) (fun e => (N _ (hmem 0 _ hJ)).2.1 e.symm)
  · exact ⟨⟨_, Heap.get?_push_size _ rfl, rfl, rfl⟩, ⟨_, Heap.get?_push_of_some _ (N _ (hmem 0 _ hJ)).1, rfl, _, rfl⟩⟩
  · rintro i v c u h tk oI hi hv hJ' ho F' N'
    exact turn i v c u h tk _ oI (by simpa using hv) hJ' ho F' N'
  · intro c u h tk hJ' F' N'
    exact done c u h tk (by simpa using hJ') F' N'
end

section
variable {prog : Program} {w : World} {A : Around} {E : Value → Shared → Prop} {s : Shared}
theorem sub_ri_reversed : isSubtype (.type "range_iterator") (.type "reversed") = pure false := by rw [isSubtype_type]; kernel_rfl
noncomputable abbrev rgSmall (a b c : Int) : Bool := Builtin.Range.rangeFitsLong a && Builtin.Range.rangeFitsLong b && Builtin.Range.rangeFitsLong c && Builtin.Range.rangeFitsLong (-c) && Builtin.Range.rangeFitsLong (a - c) && Builtin.Range.rangeFitsLong (Builtin.Range.rangeSize a b c)
theorem range_reversed_meets (r : Addr) (a b c : Int) (t u v : Tok) (hc0 : ¬ (!(rgSmall a b c)) = true) :
    Meets (Builtin.«range.__reversed__» ⟨[.ref r], []⟩) (fun _ R s => s.heap.get? r = some { cls := .type "range", dict := none, data := .fields #[.int a t, .int b u, .int c v], slots := #[] } ∧
      R (.ok (.ret (Value.ref s.heap.objs.size))) { s with heap := s.heap.push { cls := Value.type (if (rgSmall a b c) = true then "range_iterator" else "longrange_iterator"), data := Data.fields #[rawInt (a + (Builtin.Range.rangeSize a b c - 1) * c), rawInt (Builtin.Range.rangeSize a b c), rawInt (-c)] }, toks := s.toks }) :=
  .of_wp fun prog w A R s h => by obtain ⟨hp, g, d, tk, os⟩ := s; obtain ⟨hl, h⟩ := h; wp_walk; exact ⟨_, rfl, h⟩
theorem call_range_reversed {r : Addr} {a b c : Int} {t u v : Tok} {Q : Value → Shared → Prop} (hr : IsRange s.heap r a b c t u v) (hsm : rgSmall a b c = true)
    (h : Q (.ref s.heap.objs.size) { s with heap := s.heap.push { cls := .type "range_iterator", data := .fields #[rawInt (a + (Builtin.Range.rangeSize a b c - 1) * c), rawInt (Builtin.Range.rangeSize a b c), rawInt (-c)] } }) :
    wpAny (model prog w) A (call (.builtin "range.__reversed__") [.ref r]) Q E s := by
  have hT : s.TypeIs (.ref r) "range" := ⟨_, hr, rfl⟩
  refine call_meets F.slot_range_reversed hT F.entry_range_reversed (F.args_range_reversed_1 _) (range_reversed_meets r a b c t u v (by rw [hsm]; decide)) ⟨hr, ?_⟩
  rw [if_pos hsm]
  exact h
theorem code_reversed_new_r {r : Addr} {a b c : Int} {t u v : Tok} {Q₁ : Value → Shared → Prop} (hr : IsRange s.heap r a b c t u v) (hsm : rgSmall a b c = true)
    (h : Q₁ (.ref s.heap.objs.size) { s with heap := s.heap.push { cls := .type "range_iterator", data := .fields #[rawInt (a + (Builtin.Range.rangeSize a b c - 1) * c), rawInt (Builtin.Range.rangeSize a b c), rawInt (-c)] } }) :
    codeAny (model prog w) A (.call (.builtin "reversed.__new__") ⟨[.type "reversed", .ref r], []⟩) (wants Q₁ E) s := by
  have hT : s.TypeIs (.ref r) "range" := ⟨_, hr, rfl⟩
  refine codeAny_of_tree ?_
  show wpAny _ A.in1 (do checkBuiltinCall "reversed.__new__" ⟨[.type "reversed", .ref r], []⟩; again (.builtin "reversed.__new__" ⟨[.type "reversed", .ref r], []⟩)) _ _ s
  refine wpAny_bind (wpAny_of_eq (F.newCall_reversed_1 _) (wpAny_pure ⟨plainId_quiet F.plain_reversed_new _, codeAny_builtin F.entry_reversed_new ?_⟩))
  rw [Around.under_plainId F.plain_reversed_new _]
  unfold Builtin.«reversed.__new__»
  refine wpAny_bind (wpAny_of_eq (newClass_reversed _) ?_)
  try dsimp only
  refine wpAny_bind (wpAny_of_eq (a := ()) (by first | rfl | kernel_rfl) ?_)
  refine wpAny_bind (wpAny_of_eq (a := ()) (by first | rfl | kernel_rfl) ?_)
  try dsimp only
  refine wpAny_bind (wpAny_specialOf hT F.slot_range_reversed.lookup ?_)
  try dsimp only
  refine wpAny_bind (wpAny_of_eq (F.slot_range_reversed.bind _) ?_)
  try dsimp only
  first
  | rw [if_neg (show ¬ ((Value.builtin "range.__reversed__" == Value.none) = true) from Bool.false_ne_true)]
  | (show wpAny _ _ (if (Value.builtin "range.__reversed__" == Value.none) = true then _ else _) _ _ _; rw [if_neg (show ¬ ((Value.builtin "range.__reversed__" == Value.none) = true) from Bool.false_ne_true)])
  refine wpAny_bind (wpAny_rule ?_)
  refine wpAny_bind (m := runValue (.call (.builtin "range.__reversed__") ⟨[.ref r], []⟩)) (show wpAny _ _ (call (.builtin "range.__reversed__") [.ref r]) _ _ _ from call_range_reversed hr hsm ?_)
  first
  | exact wpAny_pure h
  | exact wpAny_bind (wpAny_pure (wpAny_pure h))
theorem call_reversed_range {r : Addr} {a b c : Int} {t u v : Tok} {Q : Value → Shared → Prop} (hr : IsRange s.heap r a b c t u v) (hsm : rgSmall a b c = true)
    (h : Q (.ref s.heap.objs.size) { s with heap := s.heap.push { cls := .type "range_iterator", data := .fields #[rawInt (a + (Builtin.Range.rangeSize a b c - 1) * c), rawInt (Builtin.Range.rangeSize a b c), rawInt (-c)] } }) :
    wpAny (model prog w) A (call (.type "reversed") [.ref r]) Q E s := by
  refine callType_other (U := "range_iterator") (Q₁ := fun obj s₁ => obj = .ref s.heap.objs.size ∧ s₁ = { s with heap := s.heap.push { cls := .type "range_iterator", data := .fields #[rawInt (a + (Builtin.Range.rangeSize a b c - 1) * c), rawInt (Builtin.Range.rangeSize a b c), rawInt (-c)] } }) (by decide +kernel) F.create_reversed ⟨_, _, F.mro_reversed⟩ F.made_reversed sub_ri_reversed (F.typeCall_reversed_1 _) (code_reversed_new_r hr hsm ⟨rfl, rfl⟩) ?_
  rintro obj s₁ ⟨rfl, rfl⟩
  exact ⟨⟨_, Heap.get?_push_size _ rfl, rfl⟩, h⟩
end

theorem anew_B_sift : True := by w_top off; first | (walk1; done) | trivial
/-- the way up: what `_siftdown` makes of the list -/
noncomputable def sd (x : Int) (st : Nat) (ns : List Int) (ps : Nat) : List Int :=
  if h : st < ps then
    if x < ns.getD ((ps - 1) / 2) 0 then sd x st (ns.set ps (ns.getD ((ps - 1) / 2) 0)) ((ps - 1) / 2) else ns.set ps x
  else ns.set ps x
termination_by ps
decreasing_by (first | lia | omega)

set_option maxRecDepth 100000 in
set_option maxHeartbeats 4000000 in
theorem siftdown_0 : ∀ {w : World} {p : Program} {loose : List Str} {mean : ExcName → Option Value} {mg mb : Str → Option Value} {dp un : Nat} {gd : Option (List Code)} {cn : Str} {cs : Scope} {a : Addr} {ccd : Value} {cl : List (Str × Addr)} {outer : List Env} {A₀ : Around} {base h₀ : Heap} {L : Addr} {m : Str → Option Value} {s : Shared}
    {Q E : Value → Shared → Prop} {hp : Addr} {vs : List Value} {ns : List Int} {c : Nat} {rest : List (Addr × Obj)} {sp ps : Nat} {t1 t2 : Tok},
    Below A₀ base outer h₀ → Fr h₀ L s.heap m → (Mine.hd.heap_1 w.params).In h₀ → News h₀ L s.heap ((hp, listOf vs.toArray c) :: rest) → Top p loose mean mg mb h₀ → cs.kind = .function → dp < 900 → un < 9000 →
    IntsAre vs ns → (∀ p ∈ rest, p.1 ≠ hp) → ps < ns.length → ns.length < 100 →
    (∀ vs' h' tk', Fr h₀ L h' m → News h₀ L h' ((hp, listOf vs'.toArray c) :: rest) → IntsAre vs' (sd (ns.getD ps 0) sp ns ps) → Q .none { s with heap := h', toks := tk' }) →
    wpAny (model PySem.Challenge.rw_mg0054_01.row.prog w) (ktrTop dp un gd cn cs L a ccd cl outer) (call (.ref 49) [.ref hp, .int sp t1, .int ps t2]) Q E s := by
  k_fill
  intro w p loose mean mg mb dp un gd cn cs a ccd cl outer A₀ base h₀ L m s Q E hp vs ns c rest sp ps t1 t2 B F X N T hk hdp hun hi hnd hps hlen hret
  refine wpAny_call ?_
  k_dflt ktr_enter
  ((try (with_reducible refine pin_postA ?_; intros)); k_steps)
  refine stop_out ?_
  rename_i h1 t0 tk0 F1 N1
  refine ksw_while (σ := List Value × List Int × Nat × Tok) (fun c' => (hp, listOf c'.1.toArray c) :: rest) (fun c' => [(Str.ofString "pos", .int c'.2.2.1 c'.2.2.2)]) (fun c' => IntsAre c'.1 c'.2.1 ∧ c'.2.1.length = ns.length ∧ c'.2.2.1 < ns.length ∧ sd (ns.getD ps 0) sp c'.2.1 c'.2.2.1 = sd (ns.getD ps 0) sp ns ps) [Str.ofString "parent", Str.ofString "parentpos"] (fun _ => True) (fun c' => c'.2.2.1) (vs, ns, ps, t2) F1 N1 ⟨hi, rfl, hps, rfl⟩ (by intro p hp'; cases hp' with | head => rfl | tail _ h => cases h) trivial ?_ ?_
  · rintro ⟨vs1, ns1, ps1, tk1⟩ u h tk ⟨hi1, hl1, hp1, he1⟩ _ F2 N2
    dsimp only at *
    ((try (with_reducible refine pin_postA ?_; intros)); k_steps)
    · rename_i hlt t' _ _ _ _ _ _ _ hx _ hi' _ _ _ _ _ F' N'
      refine ksw_end (_, _, (ps1 - 1) / 2, ?tk) F' N' (fun _ h => h) ⟨hi', ?_, ?_, ?_⟩ ?k1 ?_ trivial ?_
      case k1 => kst_all
      · dsimp only; simp [hl1]
      · dsimp only; (first | lia | omega)
      · rw [← he1]
        conv => rhs; unfold sd
        simp only [Int.toNat_natCast] at hx ⊢
        rw [dif_pos (by (first | lia | omega)), if_pos hx]
      · walk_at "same"
      · dsimp only; (first | lia | omega)
    · rename_i hi' _ _ kF kN _ _
      rename ¬ (_ < _) => hx
      simp only [Int.toNat_natCast] at hx hi' kN
      refine hret _ _ _ kF kN ?_
      rw [← he1]
      unfold sd
      rw [dif_pos (by (first | lia | omega)), if_neg hx]
      exact hi'
    · rename_i hlt _ hi' _ _ kF kN _ _
      simp only [Int.toNat_natCast] at hi' kN
      refine hret _ _ _ kF kN ?_
      rw [← he1]
      unfold sd
      rw [dif_neg (by (first | lia | omega))]
      exact hi'
  · passes_own

theorem siftdown_c {w : World} {p : Program} {loose : List Str} {mean : ExcName → Option Value} {mg mb : Str → Option Value} {dp un : Nat} {gd : Option (List Code)} {cn : Str} {cs : Scope} {a : Addr} {ccd : Value} {cl : List (Str × Addr)} {outer : List Env} {A₀ : Around} {base h₀ : Heap} {L : Addr} {m : Str → Option Value} {s : Shared}
    {Q E : Value → Shared → Prop} {hp : Addr} {vs : List Value} {ns : List Int} {c : Nat} {rest : List (Addr × Obj)} {sp ps : Int} {t1 t2 : Tok}
    (B : Below A₀ base outer h₀) (F : Fr h₀ L s.heap m) (X : (Mine.hd.heap_1 w.params).In h₀) (N : News h₀ L s.heap ((hp, listOf vs.toArray c) :: rest)) (T : Top p loose mean mg mb h₀) (hk : cs.kind = .function) (hd : dp < 900) (hu : un < 9000)
    (hi : IntsAre vs ns) (hr : ∀ p ∈ rest, p.1 ≠ hp) (h0 : 0 ≤ sp) (h1 : 0 ≤ ps) (h2 : ps < ns.length) (h3 : ns.length < 100)
    (h : ∀ vs' h' tk', Fr h₀ L h' m → News h₀ L h' ((hp, listOf vs'.toArray c) :: rest) → IntsAre vs' (sd (ns.getD ps.toNat 0) sp.toNat ns ps.toNat) → Q .none { s with heap := h', toks := tk' }) :
    wpAny (model PySem.Challenge.rw_mg0054_01.row.prog w) (ktrTop dp un gd cn cs L a ccd cl outer) (call (.ref 49) [.ref hp, .int sp t1, .int ps t2]) Q E s := by
  obtain ⟨sp, rfl⟩ := Int.eq_ofNat_of_zero_le h0
  obtain ⟨ps, rfl⟩ := Int.eq_ofNat_of_zero_le h1
  exact siftdown_0 B F X N T hk hd hu hi hr (by (first | lia | omega)) h3 h

noncomputable def su (ns : List Int) (ps : Nat) : List Int × Nat :=
  if h : 2 * ps + 1 < ns.length then
    if 2 * ps + 1 + 1 < ns.length ∧ ¬ ns.getD (2 * ps + 1) 0 < ns.getD (2 * ps + 1 + 1) 0 then su (ns.set ps (ns.getD (2 * ps + 1 + 1) 0)) (2 * ps + 1 + 1)
    else su (ns.set ps (ns.getD (2 * ps + 1) 0)) (2 * ps + 1)
  else (ns, ps)
termination_by ns.length - ps
decreasing_by all_goals (simp only [List.length_set]; (first | lia | omega))
noncomputable def sup (ns : List Int) (ps : Nat) : List Int :=
  sd (ns.getD ps 0) ps ((su ns ps).1.set (su ns ps).2 (ns.getD ps 0)) (su ns ps).2

local macro_rules | `(tactic| walk_at "call ref") => `(tactic| (k_here; (with_reducible show wpAny _ _ (call (Value.ref 49) _) _ _ _); k_dflt (refine' siftdown_c (by k_asm) (by k_asm) (by k_asm) (by k_asm) (by k_asm) (by exact rfl) (by ktr_room) (by ktr_units) (by k_asm) (by k_asm) (by omega) (by omega) (by omega) (by omega) ?_); intro vs' h' tk' F' N' hi'))
set_option maxRecDepth 100000 in
set_option maxHeartbeats 4000000 in
theorem siftup_0 : ∀ {w : World} {p : Program} {loose : List Str} {mean : ExcName → Option Value} {mg mb : Str → Option Value} {dp un : Nat} {gd : Option (List Code)} {cn : Str} {cs : Scope} {a : Addr} {ccd : Value} {cl : List (Str × Addr)} {outer : List Env} {A₀ : Around} {base h₀ : Heap} {L : Addr} {m : Str → Option Value} {s : Shared}
    {Q E : Value → Shared → Prop} {hp : Addr} {vs : List Value} {ns : List Int} {c : Nat} {rest : List (Addr × Obj)} {ps : Nat} {t2 : Tok},
    Below A₀ base outer h₀ → Fr h₀ L s.heap m → (Mine.hd.heap_1 w.params).In h₀ → News h₀ L s.heap ((hp, listOf vs.toArray c) :: rest) → Top p loose mean mg mb h₀ → cs.kind = .function → dp < 890 → un < 8900 →
    IntsAre vs ns → (∀ p ∈ rest, p.1 ≠ hp) → ps < ns.length → ns.length < 100 →
    (∀ vs' h' tk', Fr h₀ L h' m → News h₀ L h' ((hp, listOf vs'.toArray c) :: rest) → IntsAre vs' (sup ns ps) → Q .none { s with heap := h', toks := tk' }) →
    wpAny (model PySem.Challenge.rw_mg0054_01.row.prog w) (ktrTop dp un gd cn cs L a ccd cl outer) (call (.ref 56) [.ref hp, .int ps t2]) Q E s := by
  k_fill
  intro w p loose mean mg mb dp un gd cn cs a ccd cl outer A₀ base h₀ L m s Q E hp vs ns c rest ps t2 B F X N T hk hdp hun hi hnd hps hlen hret
  refine wpAny_call ?_
  k_dflt ktr_enter
  ((try (with_reducible refine pin_postA ?_; intros)); k_steps)
  (refine stop_out ?_; (try (with_reducible refine pin_postQ ?_; intros)))
  rename Fr _ _ _ _ => F1
  rename News _ _ _ _ => N1
  refine ksw_while (σ := List Value × List Int × Nat × Tok × Tok) (fun c' => (hp, listOf c'.1.toArray c) :: rest) (fun c' => [(Str.ofString "pos", .int c'.2.2.1 c'.2.2.2.1), (Str.ofString "childpos", .int (2 * (c'.2.2.1 : Int) + 1) c'.2.2.2.2)]) (fun c' => IntsAre c'.1 c'.2.1 ∧ c'.2.1.length = ns.length ∧ c'.2.2.1 < ns.length ∧ su c'.2.1 c'.2.2.1 = su ns ps) [Str.ofString "rightpos"] (fun _ => True) (fun c' => ns.length - c'.2.2.1) (vs, ns, ps, t2, _) F1 N1 ⟨hi, rfl, hps, rfl⟩ (by kst_all) trivial ?_ ?_
  · rintro ⟨vs1, ns1, ps1, tk1, tk2⟩ u h tk ⟨hi1, hl1, hp1, he1⟩ _ F2 N2
    dsimp only at *
    have e1 : (2 * (ps1 : Int) + 1).toNat = 2 * ps1 + 1 := by (first | lia | omega)
    have e2 : (2 * (ps1 : Int) + 1 + 1).toNat = 2 * ps1 + 1 + 1 := by (first | lia | omega)
    ((try (with_reducible refine pin_postA ?_; intros)); k_steps)
    · rename IntsAre (List.set _ _ _) _ => hi'
      rename Fr _ _ _ _ => F'
      rename News _ _ _ _ => N'
      refine ksw_end (_, _, 2 * ps1 + 1, ?u1a, ?u1b) F' N' (fun _ h => h) ⟨hi', ?_, ?_, ?_⟩ ?k1 ?_ trivial ?_
      case k1 => kst_all
      · dsimp only; simp [hl1]
      · dsimp only; (first | lia | omega)
      · rw [← he1]
        conv => rhs; unfold su
        simp only [e1, e2, Int.toNat_natCast] at *
        rename (_ : Int) < List.getD _ _ _ => hx
        rw [dif_pos (by (first | lia | omega)), if_neg (by (first | lia | omega))]
      · walk_at "same"
      · dsimp only; (first | lia | omega)
    · rename IntsAre (List.set _ _ _) _ => hi'
      rename Fr _ _ _ _ => F'
      rename News _ _ _ _ => N'
      refine ksw_end (_, _, 2 * ps1 + 1 + 1, ?u2a, ?u2b) F' N' (fun _ h => h) ⟨hi', ?_, ?_, ?_⟩ ?k1 ?_ trivial ?_
      case k1 => kst_all
      · dsimp only; simp [hl1]
      · dsimp only; (first | lia | omega)
      · rw [← he1]
        conv => rhs; unfold su
        simp only [e1, e2, Int.toNat_natCast] at *
        rename ¬ ((_ : Int) < List.getD _ _ _) => hx
        rw [dif_pos (by (first | lia | omega)), if_pos ⟨by (first | lia | omega), hx⟩]
      · walk_at "same"
      · dsimp only; (first | lia | omega)
    · rename IntsAre (List.set _ _ _) _ => hi'
      rename Fr _ _ _ _ => F'
      rename News _ _ _ _ => N'
      refine ksw_end (_, _, 2 * ps1 + 1, ?u3a, ?u3b) F' N' (fun _ h => h) ⟨hi', ?_, ?_, ?_⟩ ?k1 ?_ trivial ?_
      case k1 => kst_all
      · dsimp only; simp [hl1]
      · dsimp only; (first | lia | omega)
      · rw [← he1]
        conv => rhs; unfold su
        simp only [e1, e2, Int.toNat_natCast] at *
        rw [dif_pos (by (first | lia | omega)), if_neg (by (first | lia | omega))]
      · walk_at "same"
      · dsimp only; (first | lia | omega)
    · rename IntsAre _ (sd _ _ _ _) => hi'
      rename Fr _ _ _ _ => kF
      rename News _ _ _ _ => kN
      simp only [Int.toNat_natCast] at hi'
      refine hret _ _ _ kF kN ?_
      have hsu : su ns ps = (ns1, ps1) := by rw [← he1]; unfold su; rw [dif_neg (by (first | lia | omega))]
      have hg : (ns1.set ps1 (ns.getD ps 0)).getD ps1 0 = ns.getD ps 0 := by simp [List.getD_eq_getElem?_getD, show ps1 < ns1.length by (first | lia | omega)]
      rw [hg] at hi'
      unfold sup
      rw [hsu]
      exact hi'
  · passes_own

theorem siftup_c {w : World} {p : Program} {loose : List Str} {mean : ExcName → Option Value} {mg mb : Str → Option Value} {dp un : Nat} {gd : Option (List Code)} {cn : Str} {cs : Scope} {a : Addr} {ccd : Value} {cl : List (Str × Addr)} {outer : List Env} {A₀ : Around} {base h₀ : Heap} {L : Addr} {m : Str → Option Value} {s : Shared}
    {Q E : Value → Shared → Prop} {hp : Addr} {vs : List Value} {ns : List Int} {c : Nat} {rest : List (Addr × Obj)} {ps : Int} {t2 : Tok}
    (B : Below A₀ base outer h₀) (F : Fr h₀ L s.heap m) (X : (Mine.hd.heap_1 w.params).In h₀) (N : News h₀ L s.heap ((hp, listOf vs.toArray c) :: rest)) (T : Top p loose mean mg mb h₀) (hk : cs.kind = .function) (hd : dp < 890) (hu : un < 8900)
    (hi : IntsAre vs ns) (hr : ∀ p ∈ rest, p.1 ≠ hp) (h1 : 0 ≤ ps) (h2 : ps < ns.length) (h3 : ns.length < 100)
    (h : ∀ vs' h' tk', Fr h₀ L h' m → News h₀ L h' ((hp, listOf vs'.toArray c) :: rest) → IntsAre vs' (sup ns ps.toNat) → Q .none { s with heap := h', toks := tk' }) :
    wpAny (model PySem.Challenge.rw_mg0054_01.row.prog w) (ktrTop dp un gd cn cs L a ccd cl outer) (call (.ref 56) [.ref hp, .int ps t2]) Q E s := by
  obtain ⟨ps, rfl⟩ := Int.eq_ofNat_of_zero_le h1
  exact siftup_0 B F X N T hk hd hu hi hr (by (first | lia | omega)) h3 h
local macro_rules | `(tactic| walk_at "call ref") => `(tactic| (k_here; (with_reducible show wpAny _ _ (call (Value.ref 56) _) _ _ _); k_dflt (refine' siftup_c (by k_asm) (by k_asm) (by k_asm) (by k_asm) (by k_asm) (by exact rfl) (by ktr_room) (by ktr_units) (by k_asm) (by k_asm) (by omega) (by omega) (by omega) ?_); intro vs' h' tk' F' N' hi'))

theorem anew_C_heap : True := by w_top off; first | (walk1; done) | trivial
set_option maxRecDepth 100000 in
set_option maxHeartbeats 4000000 in
theorem heappush_c : ∀ {w : World} {p : Program} {loose : List Str} {mean : ExcName → Option Value} {mg mb : Str → Option Value} {dp un : Nat} {gd : Option (List Code)} {cn : Str} {cs : Scope} {a : Addr} {ccd : Value} {cl : List (Str × Addr)} {outer : List Env} {A₀ : Around} {base h₀ : Heap} {L : Addr} {m : Str → Option Value} {s : Shared}
    {Q E : Value → Shared → Prop} {hp : Addr} {vs : List Value} {ns : List Int} {c : Nat} {rest : List (Addr × Obj)} {x : Int} {t2 : Tok},
    Below A₀ base outer h₀ → Fr h₀ L s.heap m → (Mine.hd.heap_1 w.params).In h₀ → News h₀ L s.heap ((hp, listOf vs.toArray c) :: rest) → Top p loose mean mg mb h₀ → cs.kind = .function → dp < 880 → un < 8800 →
    IntsAre vs ns → (∀ p ∈ rest, p.1 ≠ hp) → ns.length < 90 →
    (∀ vs' c' h' tk', Fr h₀ L h' m → News h₀ L h' ((hp, listOf vs'.toArray c') :: rest) → IntsAre vs' (sd x 0 (ns ++ [x]) ns.length) → Q .none { s with heap := h', toks := tk' }) →
    wpAny (model PySem.Challenge.rw_mg0054_01.row.prog w) (ktrTop dp un gd cn cs L a ccd cl outer) (call (.ref 28) [.ref hp, .int x t2]) Q E s := by
  k_fill
  intro w p loose mean mg mb dp un gd cn cs a ccd cl outer A₀ base h₀ L m s Q E hp vs ns c rest x t2 B F X N T hk hdp hun hi hnd hlen hret
  have hi2 := ints_snoc (x := x) (t := t2) hi
  have hl2 : (ns ++ [x]).length = ns.length + 1 := by simp
  refine wpAny_call ?_
  k_dflt ktr_enter
  ((try (with_reducible refine pin_postA ?_; intros)); k_steps)
  rename Fr _ _ _ _ => kF
  rename News _ _ _ _ => kN
  rename IntsAre _ (sd _ _ _ _) => hi'
  have e1 : ((ns.length + 1 : Nat) - 1 : Int).toNat = ns.length := by (first | lia | omega)
  rw [e1] at hi'
  refine hret _ _ _ _ kF kN ?_
  have e2 : (ns ++ [x]).getD ns.length 0 = x := by simp
  rw [e2] at hi'
  exact hi'
noncomputable def hpop (ns : List Int) (x : Int) : Int × List Int := if ns = [] then (x, []) else (ns.getD 0 0, sup (ns.set 0 x) 0)
set_option maxRecDepth 100000 in
set_option maxHeartbeats 4000000 in
theorem heappop_c : ∀ {w : World} {p : Program} {loose : List Str} {mean : ExcName → Option Value} {mg mb : Str → Option Value} {dp un : Nat} {gd : Option (List Code)} {cn : Str} {cs : Scope} {a : Addr} {ccd : Value} {cl : List (Str × Addr)} {outer : List Env} {A₀ : Around} {base h₀ : Heap} {L : Addr} {m : Str → Option Value} {s : Shared}
    {Q E : Value → Shared → Prop} {hp : Addr} {vs : List Value} {ns : List Int} {c : Nat} {rest : List (Addr × Obj)} {x : Int},
    Below A₀ base outer h₀ → Fr h₀ L s.heap m → (Mine.hd.heap_1 w.params).In h₀ → News h₀ L s.heap ((hp, listOf vs.toArray c) :: rest) → Top p loose mean mg mb h₀ → cs.kind = .function → dp < 880 → un < 8800 →
    IntsAre vs (ns ++ [x]) → (∀ p ∈ rest, p.1 ≠ hp) → ns.length < 90 →
    (∀ vs' c' h' tk' t', Fr h₀ L h' m → News h₀ L h' ((hp, listOf vs'.toArray c') :: rest) → IntsAre vs' (hpop ns x).2 → Q (.int (hpop ns x).1 t') { s with heap := h', toks := tk' }) →
    wpAny (model PySem.Challenge.rw_mg0054_01.row.prog w) (ktrTop dp un gd cn cs L a ccd cl outer) (call (.ref 35) [.ref hp]) Q E s := by
  k_fill
  intro w p loose mean mg mb dp un gd cn cs a ccd cl outer A₀ base h₀ L m s Q E hp vs ns c rest x B F X N T hk hdp hun hi hnd hlen hret
  obtain ⟨vs0, t0, rfl, hi0⟩ := ints_snoc_inv hi
  have hl0 := hi0.length
  refine wpAny_call ?_
  k_dflt ktr_enter
  ((try (with_reducible refine pin_postA ?_; intros)); k_steps)
  · rename Fr _ _ _ _ => kF
    rename News _ _ _ _ => kN
    rename IntsAre _ (sup _ _) => hi'
    have hne : ns ≠ [] := by intro e; subst e; rename 0 < List.length _ => h9; simp at h9
    have e : hpop ns x = (ns.getD 0 0, sup (ns.set 0 x) 0) := by unfold hpop; rw [if_neg hne]
    rw [e] at hret
    exact hret _ _ _ _ _ kF kN hi'
  · rename Fr _ _ _ _ => kF
    rename News _ _ _ _ => kN
    have hne : ns = [] := by
      rename ¬ 0 < List.length _ => h9
      cases ns with
      | nil => rfl
      | cons _ _ => simp at h9
    subst hne
    exact hret _ _ _ _ _ kF kN hi0

noncomputable def hpf (ns : List Int) : Nat → List Int
  | 0 => ns
  | k + 1 => hpf (sup ns k) k
theorem sd_length {x : Int} {st : Nat} : ∀ {ps : Nat} {ns : List Int}, (sd x st ns ps).length = ns.length := by
  intro ps
  induction ps using Nat.strongRecOn with
  | ind ps ih =>
    intro ns
    unfold sd
    split
    · split
      · rw [ih _ (by (first | lia | omega))]; simp
      · simp
    · simp
theorem su_length : ∀ {k : Nat} {ns : List Int} {ps : Nat}, ns.length - ps ≤ k → (su ns ps).1.length = ns.length := by
  intro k
  induction k with
  | zero =>
    intro ns ps h
    unfold su
    rw [dif_neg (by (first | lia | omega))]
  | succ k ih =>
    intro ns ps h
    unfold su
    split
    · split
      · rw [ih (by simp only [List.length_set]; (first | lia | omega))]; simp
      · rw [ih (by simp only [List.length_set]; (first | lia | omega))]; simp
    · rfl
theorem sup_length {ns : List Int} {ps : Nat} : (sup ns ps).length = ns.length := by
  unfold sup; rw [sd_length, List.length_set, su_length (Nat.le_refl _)]
set_option maxRecDepth 100000 in
set_option maxHeartbeats 4000000 in
theorem heapify_c : ∀ {w : World} {p : Program} {loose : List Str} {mean : ExcName → Option Value} {mg mb : Str → Option Value} {dp un : Nat} {gd : Option (List Code)} {cn : Str} {cs : Scope} {a : Addr} {ccd : Value} {cl : List (Str × Addr)} {outer : List Env} {A₀ : Around} {base h₀ : Heap} {L : Addr} {m : Str → Option Value} {s : Shared}
    {Q E : Value → Shared → Prop} {hp : Addr} {vs : List Value} {ns : List Int} {c : Nat} {rest : List (Addr × Obj)},
    Below A₀ base outer h₀ → Fr h₀ L s.heap m → (Mine.hd.heap_1 w.params).In h₀ → News h₀ L s.heap ((hp, listOf vs.toArray c) :: rest) → Top p loose mean mg mb h₀ → cs.kind = .function → dp < 880 → un < 8800 →
    IntsAre vs ns → (∀ p ∈ rest, p.1 ≠ hp) → ns.length < 7 →
    (∀ vs' h' tk', Fr h₀ L h' m → News h₀ L h' ((hp, listOf vs'.toArray c) :: rest) → IntsAre vs' (hpf ns (ns.length / 2)) → Q .none { s with heap := h', toks := tk' }) →
    wpAny (model PySem.Challenge.rw_mg0054_01.row.prog w) (ktrTop dp un gd cn cs L a ccd cl outer) (call (.ref 42) [.ref hp]) Q E s := by
  k_fill
  intro w p loose mean mg mb dp un gd cn cs a ccd cl outer A₀ base h₀ L m s Q E hp vs ns c rest B F X N T hk hdp hun hi hnd hlen hret
  refine wpAny_call ?_
  k_dflt ktr_enter
  ((try (with_reducible refine pin_postA ?_; intros)); k_steps)
  have hdiv : ((ns.length : Int)).fdiv 2 = ((ns.length / 2 : Nat) : Int) := by
    rw [Int.fdiv_eq_ediv_of_nonneg _ (by decide)]; (first | lia | omega)
  rename Fr _ _ _ _ => F1
  rename News _ _ _ _ => N1
  rename IsRange _ _ _ _ _ _ _ _ => R1
  rw [hdiv] at R1
  generalize hK : ns.length / 2 = K at *
  have hK4 : K < 4 := by (first | lia | omega)
  have hsz : Builtin.Range.rangeSize 0 (K : Int) 1 = K := by
    match K, hK4 with
    | 0, _ | 1, _ | 2, _ | 3, _ => decide
    | k + 4, h => (first | lia | omega)
  refine call_reversed_range R1 ?_ ?_
  · match K, hK4 with
    | 0, _ | 1, _ | 2, _ | 3, _ => decide
    | k + 4, h => (first | lia | omega)
  rw [hsz]
  dsimp only
  refine wpAny_pyIter_rangeiter (Heap.get?_push_size _ rfl) ?_
  refine for_rangeIter (σ := List Value × List Int) (n := K) rfl (Heap.get?_push_size _ rfl) (fun c' => (hp, listOf c'.1.toArray c) :: rest) (fun _ => []) [] (fun i c' => IntsAre c'.1 c'.2 ∧ c'.2.length = ns.length ∧ hpf c'.2 (K - i) = hpf ns K) (vs, ns) ?_ ?_ ?_ (F1.push _) ?_ (by simp) ⟨hi, rfl, rfl⟩ ?_ ?_
  · exact Mine.Fr.fresh F1
  · exact Nat.ne_of_lt (Mine.Fr.lt F1)
  · exact N1.apart
  · exact N1.pushKeep _
  · rintro i t' ⟨vs1, ns1⟩ u h tk oI hi' ⟨hi1, hl1, he1⟩ ho1 F2 N2
    dsimp only at *
    have N3 := news_swap N2
    have hnd3 : ∀ p ∈ (_, oI) :: rest, p.1 ≠ hp := List.forall_mem_cons.mpr ⟨fun e => (ho1 _ (.head _)) e.symm, hnd⟩
    have hiK := hi'
    clear hnd N2 hi N hi'
    ((try (with_reducible refine pin_postA ?_; intros)); k_steps)
    rename Fr _ _ _ _ => kF
    rename News _ _ _ _ => kN
    rename IntsAre _ (sup _ _) => hi2
    have e3 : (0 + ((K : Int) - 1) * 1 + (i : Int) * -1).toNat = K - (i + 1) := by (first | lia | omega)
    rw [e3] at hi2
    refine for_end (_, sup ns1 (K - (i + 1))) kF kN (.tail _ (.head _)) ?_ ?_ (by simp) ?_ ⟨hi2, ?_, ?_⟩
    · intro p hq
      rcases List.mem_cons.mp hq with rfl | hq
      · exact .head _
      · exact .tail _ (.tail _ hq)
    · exact List.forall_mem_cons.mpr ⟨(List.forall_mem_cons.mp ho1).1, (List.forall_mem_cons.mp ho1).2⟩
    · intro z h2 h3 h4
      simp only [h2, if_false]
      rfl
    · dsimp only; rw [sup_length, hl1]
    · dsimp only
      rw [← he1, show K - i = (K - (i + 1)) + 1 by (first | lia | omega)]
      rfl
  · rintro ⟨vs1, ns1⟩ u h tk ⟨hi1, hl1, he1⟩ F2 N2
    dsimp only at *
    ((try (with_reducible refine pin_postA ?_; intros)); k_steps)
    rename Fr _ _ _ _ => kF
    rename News _ _ _ _ => kN
    rw [Nat.sub_self] at he1
    have he2 : ns1 = hpf ns K := he1
    rw [he2] at hi1
    exact hret _ _ _ kF kN hi1

theorem anew_D_sort : True := by w_top off; first | (walk1; done) | trivial
/-! the sorter's part of the ledger -/
structure NI where
  k : Int
  kt : Tok
  a : Nat
  d : Nat
  l : Nat
  np : Int
  nt : Tok
  sv : List Value
  sc : List Int
  lv : Nat
noncomputable abbrev niObj (k : Int) (kt : Tok) (d l : Addr) (np : Int) (nt : Tok) : Obj := { cls := .ref 75, dict := some d, data := .plain, slots := #[some (.int k kt), some (.int np nt), some (.ref l)] }
noncomputable def NI.led (i : NI) : List (Addr × Obj) := [(i.a, niObj i.k i.kt i.d i.l i.np i.nt), (i.d, dictOf [] 0), (i.l, listOf i.sv.toArray i.lv)]
noncomputable def nled (ns : List NI) : List (Addr × Obj) := ns.flatMap NI.led
noncomputable def kvsOf (ns : List NI) : List (Int × Value) := ns.map fun i => (i.k, Value.ref i.a)
noncomputable abbrev sEs (w : World) (t1 t2 t3 t4 : Tok) (v1 v2 v3 v4 : Value) : List DictEntry :=
  [⟨PyData.keyHash w.params (Str.ofString "_node2info"), .str (Str.ofString "_node2info") t1, v1⟩, ⟨PyData.keyHash w.params (Str.ofString "_ready_nodes"), .str (Str.ofString "_ready_nodes") t2, v2⟩,
   ⟨PyData.keyHash w.params (Str.ofString "_npassedout"), .str (Str.ofString "_npassedout") t3, v3⟩, ⟨PyData.keyHash w.params (Str.ofString "_nfinished"), .str (Str.ofString "_nfinished") t4, v4⟩]
theorem news_rot3 {h₀ h : Heap} {L : Addr} {p1 p2 p3 q1 q2 q3 : Addr × Obj} {r : List (Addr × Obj)} (N : News h₀ L h (p3 :: p1 :: p2 :: q1 :: q2 :: q3 :: r)) : News h₀ L h (q1 :: q2 :: q3 :: p1 :: p2 :: p3 :: r) := news_sub N fun p hp => by
  simp only [List.mem_cons] at hp ⊢
  rcases hp with h | h | h | h | h | h | h <;> simp [h]
theorem nled_nil : nled [] = [] := rfl
theorem nled_cons {i : NI} {ns : List NI} : nled (i :: ns) = i.led ++ nled ns := rfl
theorem nled_append {ns ms : List NI} : nled (ns ++ ms) = nled ns ++ nled ms := by simp [nled]
theorem mem_nled {ns : List NI} {p : Addr × Obj} : p ∈ nled ns ↔ ∃ i ∈ ns, p ∈ i.led := by simp [nled]

local macro_rules | `(tactic| walk_at "getMethod ref") => `(tactic| (k_here; (with_reducible show wpAny _ _ (getMethod (Value.ref _) (Str.ofString "get") _) _ _ _); k_dflt (refine kdg_method (knd := PySem.intKind _ _) (by k_asm) (by k_mem) (by with_reducible assumption) ?_)))
local macro_rules | `(tactic| walk_at "call builtin:dict.get") => `(tactic| (k_here; k_dflt (refine kdg_get1 (knd := PySem.intKind _ _) (by k_asm) (by k_mem) (by with_reducible assumption) (by with_reducible assumption) (intKind_is _ _ _ _) _ (by with_reducible assumption) ?_); (try dsimp only [Option.getD])))
local macro_rules | `(tactic| walk_at "setItem ref int") => `(tactic| (k_here; k_dflt (refine' kda_set (knd := PySem.intKind _ _) (by k_asm) (by k_asm) (by k_updF) (by with_reducible assumption) (intKind_is _ _ _ _) (by rw [sizeLine_eq]; omega) ?_); intro h' o' F' N' hd'; (try dsimp only at N')))
set_option maxRecDepth 100000 in
set_option maxHeartbeats 4000000 in
theorem getinfo_old : ∀ {w : World} {p : Program} {loose : List Str} {mean : ExcName → Option Value} {mg mb : Str → Option Value} {dp un : Nat} {gd : Option (List Code)} {cn : Str} {cs : Scope} {a : Addr} {ccd : Value} {cl : List (Str × Addr)} {outer : List Env} {A₀ : Around} {base h₀ : Heap} {L : Addr} {m : Str → Option Value} {s : Shared} {Q E : Value → Shared → Prop} {D Dd n2i : Nat} {t1 t2 t3 t4 kt : Tok} {v2 v3 v4 : Value} {od : Obj} {kvs : List (Int × Value)} {k : Int} {b : Addr} {rest : List (Addr × Obj)},
    Below A₀ base outer h₀ → Fr h₀ L s.heap m → (Mine.hd.heap_1 w.params).In h₀ → Top p loose mean mg mb h₀ → cs.kind = .function → dp < 880 → un < 8800 → News h₀ L s.heap ((D, instObj 172 Dd) :: (Dd, dictOf (sEs w t1 t2 t3 t4 (.ref n2i) v2 v3 v4) 4) :: (n2i, od) :: rest) →
    od.IsDictOf (PySem.intKind PySem.Challenge.rw_mg0054_01.row.prog w) kvs → (n2i == sysModules) = false → valueAt kvs k = some (.ref b) →
    (∀ h' tk', Fr h₀ L h' m → News h₀ L h' ((D, instObj 172 Dd) :: (Dd, dictOf (sEs w t1 t2 t3 t4 (.ref n2i) v2 v3 v4) 4) :: (n2i, od) :: rest) → Q (.ref b) { s with heap := h', toks := tk' }) →
    wpAny (model PySem.Challenge.rw_mg0054_01.row.prog w) (ktrTop dp un gd cn cs L a ccd cl outer) (call (.ref 115) [.ref D, .int k kt]) Q E s := by
  k_fill
  intro w p loose mean mg mb dp un gd cn cs a ccd cl outer A₀ base h₀ L m s Q E D Dd n2i t1 t2 t3 t4 kt v2 v3 v4 od kvs k b rest B F X T hk hdp hun N hod hlo hv hret
  refine wpAny_call ?_
  k_dflt ktr_enter
  ((try (with_reducible refine pin_post ?_; intros)); k_steps)
  exact hret _ _ (by assumption) (by assumption)
set_option maxRecDepth 100000 in
set_option maxHeartbeats 4000000 in
theorem getinfo_new : ∀ {w : World} {p : Program} {loose : List Str} {mean : ExcName → Option Value} {mg mb : Str → Option Value} {dp un : Nat} {gd : Option (List Code)} {cn : Str} {cs : Scope} {a : Addr} {ccd : Value} {cl : List (Str × Addr)} {outer : List Env} {A₀ : Around} {base h₀ : Heap} {L : Addr} {m : Str → Option Value} {s : Shared} {Q E : Value → Shared → Prop} {D Dd n2i : Nat} {t1 t2 t3 t4 kt : Tok} {v2 v3 v4 : Value} {od : Obj} {kvs : List (Int × Value)} {k : Int} {rest : List (Addr × Obj)},
    Below A₀ base outer h₀ → Fr h₀ L s.heap m → (Mine.hd.heap_1 w.params).In h₀ → Top p loose mean mg mb h₀ → cs.kind = .function → dp < 880 → un < 8800 → News h₀ L s.heap ((D, instObj 172 Dd) :: (Dd, dictOf (sEs w t1 t2 t3 t4 (.ref n2i) v2 v3 v4) 4) :: (n2i, od) :: rest) →
    od.IsDictOf (PySem.intKind PySem.Challenge.rw_mg0054_01.row.prog w) kvs → (n2i == sysModules) = false → valueAt kvs k = none → kvs.length < 100 → D ≠ Dd → D ≠ n2i → Dd ≠ n2i → (∀ p ∈ rest, p.1 ≠ n2i) →
    (∀ (x dx l : Nat) kt' nt od' h' tk', Fr h₀ L h' m → News h₀ L h' ((D, instObj 172 Dd) :: (Dd, dictOf (sEs w t1 t2 t3 t4 (.ref n2i) v2 v3 v4) 4) :: (n2i, od') :: (x, niObj k kt' dx l 0 nt) :: (dx, dictOf [] 0) :: (l, listOf #[] 0) :: rest) →
      od'.IsDictOf (PySem.intKind PySem.Challenge.rw_mg0054_01.row.prog w) (stored kvs k (.ref x)) → D < dx → Dd < dx → n2i < dx → bd rest ≤ dx → dx < x → x < l → Q (.ref x) { s with heap := h', toks := tk' }) →
    wpAny (model PySem.Challenge.rw_mg0054_01.row.prog w) (ktrTop dp un gd cn cs L a ccd cl outer) (call (.ref 115) [.ref D, .int k kt]) Q E s := by
  k_fill
  intro w p loose mean mg mb dp un gd cn cs a ccd cl outer A₀ base h₀ L m s Q E D Dd n2i t1 t2 t3 t4 kt v2 v3 v4 od kvs k rest B F X T hk hdp hun N hod hlo hv hlen hD1 hD2 hD3 hnd hret
  refine wpAny_call ?_
  k_dflt ktr_enter
  ((try (with_reducible refine pin_post ?_; intros)); k_steps)
  rename News _ _ _ _ => kN
  refine hret _ _ _ _ _ _ _ _ (by assumption) (news_rot3 kN) (by assumption) (by omega) (by omega) (by omega) (by omega) (by omega) (by omega)

structure SW (D Dd n2i : Nat) (ns : List NI) (rest : List (Addr × Obj)) : Prop where
  nd : (D :: Dd :: n2i :: (nled ns ++ rest).map (·.1)).Nodup
  kd : (ns.map (·.k)).Nodup
  it : ∀ i ∈ ns, IntsAre i.sv i.sc
noncomputable abbrev sL (w : World) (D Dd n2i : Nat) (t1 t2 t3 t4 : Tok) (v2 v3 v4 : Value) (od : Obj) (ns : List NI) (rest : List (Addr × Obj)) : List (Addr × Obj) :=
  (D, instObj 172 Dd) :: (Dd, dictOf (sEs w t1 t2 t3 t4 (.ref n2i) v2 v3 v4) 4) :: (n2i, od) :: (nled ns ++ rest)
section
variable {D Dd n2i : Nat} {ns ms : List NI} {i : NI} {rest : List (Addr × Obj)}
theorem SW.ne1 (h : SW D Dd n2i ns rest) : D ≠ Dd := by have := h.nd; simp only [List.nodup_cons, List.mem_cons, not_or] at this; exact this.1.1
theorem SW.ne2 (h : SW D Dd n2i ns rest) : D ≠ n2i := by have := h.nd; simp only [List.nodup_cons, List.mem_cons, not_or] at this; exact this.1.2.1
theorem SW.ne3 (h : SW D Dd n2i ns rest) : Dd ≠ n2i := by have := h.nd; simp only [List.nodup_cons, List.mem_cons, not_or] at this; exact this.2.1.1
theorem SW.a1 (h : SW D Dd n2i ns rest) : ∀ p ∈ nled ns ++ rest, p.1 ≠ D := by
  have := h.nd; simp only [List.nodup_cons, List.mem_cons, not_or] at this
  intro p hp e; exact this.1.2.2 (e ▸ List.mem_map_of_mem hp)
theorem SW.a2 (h : SW D Dd n2i ns rest) : ∀ p ∈ nled ns ++ rest, p.1 ≠ Dd := by
  have := h.nd; simp only [List.nodup_cons, List.mem_cons, not_or] at this
  intro p hp e; exact this.2.1.2 (e ▸ List.mem_map_of_mem hp)
theorem SW.a3 (h : SW D Dd n2i ns rest) : ∀ p ∈ nled ns ++ rest, p.1 ≠ n2i := by
  have := h.nd; simp only [List.nodup_cons, List.mem_cons, not_or] at this
  intro p hp e; exact this.2.2.1 (e ▸ List.mem_map_of_mem hp)
theorem kvsOf_keys : (kvsOf ns).map (·.1) = ns.map (·.k) := by simp [kvsOf]
theorem valueAt_in (h : (ns.map (·.k)).Nodup) (hi : i ∈ ns) : valueAt (kvsOf ns) i.k = some (.ref i.a) := by
  obtain ⟨j, hj, e⟩ := List.getElem_of_mem hi
  refine valueAt_of_get (i := j) (by rw [kvsOf_keys]; exact h) ?_
  simp [kvsOf, e, hj]
theorem valueAt_out {k : Int} (h : k ∉ ns.map (·.k)) : valueAt (kvsOf ns) k = none := PyProof.Rows.valueAt_none_of_not_mem (by rw [kvsOf_keys]; exact h)
/-- a fresh node at the end -/
theorem SW.grow (h : SW D Dd n2i ns rest) (hk : i.k ∉ ns.map (·.k)) (hi : IntsAre i.sv i.sc) (h1 : D < i.d) (h2 : Dd < i.d) (h3 : n2i < i.d) (h4 : bd (nled ns ++ rest) ≤ i.d) (h5 : i.d < i.a) (h6 : i.a < i.l) : SW D Dd n2i (ns ++ [i]) rest := by
  have hb := bd_lt h4
  refine ⟨?_, ?_, ?_⟩
  · have p1 : ((D :: Dd :: n2i :: (nled (ns ++ [i]) ++ rest).map (·.1))).Perm (i.a :: i.d :: i.l :: (D :: Dd :: n2i :: (nled ns ++ rest).map (·.1))) := by
      rw [nled_append, nled_cons, nled_nil, List.append_nil]
      simp only [NI.led, List.map_append, List.map_cons, List.map_nil, List.append_assoc, List.cons_append, List.nil_append]
      have e : (D :: Dd :: n2i :: ((nled ns).map (·.1) ++ (i.a :: i.d :: i.l :: rest.map (·.1)))) = (D :: Dd :: n2i :: (nled ns).map (·.1)) ++ ([i.a, i.d, i.l] ++ rest.map (·.1)) := by simp
      rw [e]
      refine (List.perm_append_comm_assoc _ _ _).trans ?_
      simp
    refine p1.nodup_iff.mpr ?_
    have hb' : ∀ x ∈ (nled ns ++ rest).map (·.1), x < i.d := by
      intro x hx; obtain ⟨p, hp, rfl⟩ := List.mem_map.mp hx; exact hb p hp
    have g : ∀ x ∈ (D :: Dd :: n2i :: (nled ns ++ rest).map (·.1)), x < i.d := by
      intro x hx
      simp only [List.mem_cons] at hx
      rcases hx with rfl | rfl | rfl | hx
      · exact h1
      · exact h2
      · exact h3
      · exact hb' x hx
    refine List.nodup_cons.mpr ⟨?_, List.nodup_cons.mpr ⟨?_, List.nodup_cons.mpr ⟨?_, h.nd⟩⟩⟩
    · intro hm
      rcases List.mem_cons.mp hm with e | hm
      · omega
      · rcases List.mem_cons.mp hm with e | hm
        · omega
        · have := g _ hm; omega
    · intro hm
      rcases List.mem_cons.mp hm with e | hm
      · omega
      · have := g _ hm; omega
    · intro hm
      have := g _ hm; omega
  · rw [List.map_append]
    refine List.nodup_append.mpr ⟨h.kd, by simp, ?_⟩
    intro a ha b hb e
    simp at hb
    exact hk (hb ▸ e ▸ ha)
  · intro j hj
    rcases List.mem_append.mp hj with hj | hj
    · exact h.it j hj
    · rw [List.mem_singleton.mp hj]; exact hi
end
theorem getinfo_c {w : World} {p : Program} {loose : List Str} {mean : ExcName → Option Value} {mg mb : Str → Option Value} {dp un : Nat} {gd : Option (List Code)} {cn : Str} {cs : Scope} {a : Addr} {ccd : Value} {cl : List (Str × Addr)} {outer : List Env} {A₀ : Around} {base h₀ : Heap} {L : Addr} {m : Str → Option Value} {s : Shared} {Q E : Value → Shared → Prop} {D Dd n2i : Nat} {t1 t2 t3 t4 kt : Tok} {v2 v3 v4 : Value} {od : Obj} {ns : List NI} {k : Int} {rest : List (Addr × Obj)}
    (B : Below A₀ base outer h₀) (F : Fr h₀ L s.heap m) (X : (Mine.hd.heap_1 w.params).In h₀) (T : Top p loose mean mg mb h₀) (hk : cs.kind = .function) (hdp : dp < 880) (hun : un < 8800) (N : News h₀ L s.heap (sL w D Dd n2i t1 t2 t3 t4 v2 v3 v4 od ns rest)) (hod : od.IsDictOf (PySem.intKind PySem.Challenge.rw_mg0054_01.row.prog w) (kvsOf ns)) (hlo : (n2i == sysModules) = false) (hS : SW D Dd n2i ns rest) (hlen : ns.length < 100)
    (hret : ∀ ns' i od' h' tk', Fr h₀ L h' m → News h₀ L h' (sL w D Dd n2i t1 t2 t3 t4 v2 v3 v4 od' ns' rest) → od'.IsDictOf (PySem.intKind PySem.Challenge.rw_mg0054_01.row.prog w) (kvsOf ns') → SW D Dd n2i ns' rest → i ∈ ns' → i.k = k →
      ((k ∈ ns.map (·.k) ∧ ns' = ns) ∨ (k ∉ ns.map (·.k) ∧ i.np = 0 ∧ i.sc = [] ∧ ns' = ns ++ [i])) → Q (.ref i.a) { s with heap := h', toks := tk' }) :
    wpAny (model PySem.Challenge.rw_mg0054_01.row.prog w) (ktrTop dp un gd cn cs L a ccd cl outer) (call (.ref 115) [.ref D, .int k kt]) Q E s := by
  by_cases hm : k ∈ ns.map (·.k)
  · obtain ⟨i, hi, rfl⟩ := List.mem_map.mp hm
    exact getinfo_old B F X T hk hdp hun N hod hlo (valueAt_in hS.kd hi) fun h' tk' F' N' => hret ns i od h' tk' F' N' hod hS hi rfl (.inl ⟨hm, rfl⟩)
  · refine getinfo_new B F X T hk hdp hun N hod hlo (valueAt_out hm) (by simpa [kvsOf] using hlen) hS.ne1 hS.ne2 hS.ne3 hS.a3 fun x dx l kt' nt od' h' tk' F' N' hod' g1 g2 g3 g4 g5 g6 => ?_
    refine hret (ns ++ [⟨k, kt', x, dx, l, 0, nt, [], [], 0⟩]) ⟨k, kt', x, dx, l, 0, nt, [], [], 0⟩ od' h' tk' F' (news_sub N' ?_) ?_ (hS.grow hm .nil g1 g2 g3 g4 g5 g6) (by simp) rfl (.inr ⟨hm, rfl, rfl, rfl⟩)
    · intro p hp
      simp only [sL, List.mem_cons, List.mem_append, nled_append, nled_cons, nled_nil, NI.led, List.not_mem_nil, or_false] at hp ⊢
      rcases hp with h | h | h | (h | h | h | h) | h <;> simp [h]
    · rw [PyProof.Rows.stored_absent (valueAt_out hm)] at hod'
      simpa [kvsOf] using hod'

theorem anew_E_add : True := by w_top off; first | (walk1; done) | trivial
section
variable {D Dd n2i : Nat} {ns ms pre post : List NI} {i i' : NI} {rest : List (Addr × Obj)}
theorem nled_perm : (nled (pre ++ i :: post)).Perm (i.led ++ nled (pre ++ post)) := by
  rw [nled_append, nled_cons, nled_append]
  exact List.perm_append_comm_assoc _ _ _
theorem news_focus {h₀ h : Heap} {L : Addr} {q1 q2 q3 : Addr × Obj} (N : News h₀ L h (q1 :: q2 :: q3 :: (nled (pre ++ i :: post) ++ rest))) :
    News h₀ L h (q1 :: q2 :: q3 :: (i.a, niObj i.k i.kt i.d i.l i.np i.nt) :: (i.d, dictOf [] 0) :: (i.l, listOf i.sv.toArray i.lv) :: (nled (pre ++ post) ++ rest)) := by
  refine news_sub N fun p hp => ?_
  have e : ∀ x, x ∈ nled (pre ++ i :: post) ↔ x ∈ i.led ++ nled (pre ++ post) := fun x => nled_perm.mem_iff
  simp only [List.mem_cons, List.mem_append, e, NI.led, List.not_mem_nil, or_false] at hp ⊢
  rcases hp with h | h | h | h | h | h | h | h <;> simp [h]
theorem news_unfocus {h₀ h : Heap} {L : Addr} {q1 q2 q3 : Addr × Obj} (N : News h₀ L h (q1 :: q2 :: q3 :: (i.a, niObj i.k i.kt i.d i.l i.np i.nt) :: (i.d, dictOf [] 0) :: (i.l, listOf i.sv.toArray i.lv) :: (nled (pre ++ post) ++ rest))) :
    News h₀ L h (q1 :: q2 :: q3 :: (nled (pre ++ i :: post) ++ rest)) := by
  refine news_sub N fun p hp => ?_
  have e : ∀ x, x ∈ nled (pre ++ i :: post) ↔ x ∈ i.led ++ nled (pre ++ post) := fun x => nled_perm.mem_iff
  simp only [List.mem_cons, List.mem_append, e, NI.led, List.not_mem_nil, or_false] at hp ⊢
  rcases hp with h | h | h | ((h | h | h) | h) | h <;> simp [h]
theorem SW.split (h : SW D Dd n2i (pre ++ i :: post) rest) : (D ≠ i.a ∧ D ≠ i.d ∧ D ≠ i.l) ∧ (Dd ≠ i.a ∧ Dd ≠ i.d ∧ Dd ≠ i.l) ∧ (n2i ≠ i.a ∧ n2i ≠ i.d ∧ n2i ≠ i.l) ∧ (i.a ≠ i.d ∧ i.a ≠ i.l ∧ i.d ≠ i.l) ∧
    (∀ p ∈ nled (pre ++ post) ++ rest, p.1 ≠ i.a) ∧ (∀ p ∈ nled (pre ++ post) ++ rest, p.1 ≠ i.d) ∧ (∀ p ∈ nled (pre ++ post) ++ rest, p.1 ≠ i.l) := by
  have p1 : (D :: Dd :: n2i :: (nled (pre ++ i :: post) ++ rest).map (·.1)).Perm (D :: Dd :: n2i :: i.a :: i.d :: i.l :: (nled (pre ++ post) ++ rest).map (·.1)) := by
    refine .cons _ (.cons _ (.cons _ ?_))
    have := (List.Perm.append_right rest (nled_perm (pre := pre) (i := i) (post := post))).map (·.1)
    simpa [NI.led] using this
  have q := p1.nodup_iff.mp h.nd
  simp only [List.nodup_cons, List.mem_cons, not_or] at q
  obtain ⟨⟨_, _, a1, a2, a3, _⟩, ⟨_, b1, b2, b3, _⟩, ⟨c1, c2, c3, _⟩, ⟨d1, d2, d3⟩, ⟨e1, e2⟩, f1, _⟩ := q
  exact ⟨⟨a1, a2, a3⟩, ⟨b1, b2, b3⟩, ⟨c1, c2, c3⟩, ⟨d1, d2, e1⟩, fun p hp e => d3 (e ▸ List.mem_map_of_mem hp), fun p hp e => e2 (e ▸ List.mem_map_of_mem hp), fun p hp e => f1 (e ▸ List.mem_map_of_mem hp)⟩
theorem SW.upd (h : SW D Dd n2i (pre ++ i :: post) rest) (e1 : i'.k = i.k) (e2 : i'.a = i.a) (e3 : i'.d = i.d) (e4 : i'.l = i.l) (hi : IntsAre i'.sv i'.sc) : SW D Dd n2i (pre ++ i' :: post) rest := by
  refine ⟨?_, ?_, ?_⟩
  · have e : (nled (pre ++ i' :: post) ++ rest).map (·.1) = (nled (pre ++ i :: post) ++ rest).map (·.1) := by
      simp only [nled_append, nled_cons, NI.led, List.map_append, List.map_cons, e2, e3, e4]
    rw [e]; exact h.nd
  · have e : (pre ++ i' :: post).map (·.k) = (pre ++ i :: post).map (·.k) := by simp [e1]
    rw [e]; exact h.kd
  · intro j hj
    rcases List.mem_append.mp hj with hj | hj
    · exact h.it j (List.mem_append_left _ hj)
    · rcases List.mem_cons.mp hj with rfl | hj
      · exact hi
      · exact h.it j (List.mem_append_right _ (.tail _ hj))
theorem SW.more {x : Nat} {o : Obj} (h : SW D Dd n2i ns rest) (l : D < x ∧ Dd < x ∧ n2i < x ∧ bd (nled ns ++ rest) ≤ x) : SW D Dd n2i ns ((x, o) :: rest) := by
  obtain ⟨l1, l2, l3, l4⟩ := l
  have hb := bd_lt l4
  refine ⟨?_, h.kd, h.it⟩
  have p1 : (D :: Dd :: n2i :: (nled ns ++ (x, o) :: rest).map (·.1)).Perm (x :: D :: Dd :: n2i :: (nled ns ++ rest).map (·.1)) := by
    have e : (D :: Dd :: n2i :: (nled ns ++ (x, o) :: rest).map (·.1)) = (D :: Dd :: n2i :: (nled ns).map (·.1)) ++ (x :: rest.map (·.1)) := by simp
    rw [e]
    refine List.perm_middle.trans ?_
    simp
  refine p1.nodup_iff.mpr (List.nodup_cons.mpr ⟨?_, h.nd⟩)
  intro hm
  simp only [List.mem_cons] at hm
  rcases hm with e | e | e | hm
  · omega
  · omega
  · omega
  · obtain ⟨p, hp, rfl⟩ := List.mem_map.mp hm
    exact Nat.lt_irrefl _ (hb p hp)
theorem SW.more2 {x : Nat} {o o1 o2 o3 : Obj} (h : SW D Dd n2i ns rest) (l : ∀ p ∈ ((D, o1) :: (Dd, o2) :: (n2i, o3) :: (nled ns ++ rest)), p.1 ≠ x) : SW D Dd n2i ns ((x, o) :: rest) := by
  refine ⟨?_, h.kd, h.it⟩
  have p1 : (D :: Dd :: n2i :: (nled ns ++ (x, o) :: rest).map (·.1)).Perm (x :: D :: Dd :: n2i :: (nled ns ++ rest).map (·.1)) := by
    have e : (D :: Dd :: n2i :: (nled ns ++ (x, o) :: rest).map (·.1)) = (D :: Dd :: n2i :: (nled ns).map (·.1)) ++ (x :: rest.map (·.1)) := by simp
    rw [e]
    refine List.perm_middle.trans ?_
    simp
  refine p1.nodup_iff.mpr (List.nodup_cons.mpr ⟨?_, h.nd⟩)
  intro hm
  simp only [List.mem_cons] at hm
  rcases hm with e | e | e | hm
  · exact l _ (.head _) e.symm
  · exact l _ (.tail _ (.head _)) e.symm
  · exact l _ (.tail _ (.tail _ (.head _))) e.symm
  · obtain ⟨p, hp, e⟩ := List.mem_map.mp hm
    exact l p (.tail _ (.tail _ (.tail _ hp))) e
theorem SW.off {x : Nat} {o o1 o2 o3 : Obj} (h : SW D Dd n2i ns ((x, o) :: rest)) : ∀ p ∈ ((D, o1) :: (Dd, o2) :: (n2i, o3) :: (nled ns ++ rest)), p.1 ≠ x := by
  have p1 : (D :: Dd :: n2i :: (nled ns ++ (x, o) :: rest).map (·.1)).Perm (x :: D :: Dd :: n2i :: (nled ns ++ rest).map (·.1)) := by
    have e : (D :: Dd :: n2i :: (nled ns ++ (x, o) :: rest).map (·.1)) = (D :: Dd :: n2i :: (nled ns).map (·.1)) ++ (x :: rest.map (·.1)) := by simp
    rw [e]
    refine List.perm_middle.trans ?_
    simp
  have q := (List.nodup_cons.mp (p1.nodup_iff.mp h.nd)).1
  simp only [List.mem_cons, not_or] at q
  intro p hp e
  simp only [List.mem_cons] at hp
  rcases hp with rfl | rfl | rfl | hp
  · exact q.1 e.symm
  · exact q.2.1 e.symm
  · exact q.2.2.1 e.symm
  · exact q.2.2.2 (e ▸ List.mem_map_of_mem hp)
theorem SW.less {q : Addr × Obj} (h : SW D Dd n2i ns (q :: rest)) : SW D Dd n2i ns rest := by
  refine ⟨?_, h.kd, h.it⟩
  refine List.Nodup.sublist ?_ h.nd
  refine .cons_cons _ (.cons_cons _ (.cons_cons _ (List.Sublist.map _ ?_)))
  exact List.Sublist.append (List.Sublist.refl _) (List.sublist_cons_self _ _)
theorem news_more {h₀ h : Heap} {L : Addr} {q q1 q2 q3 : Addr × Obj} (N : News h₀ L h (q :: q1 :: q2 :: q3 :: (nled ns ++ rest))) : News h₀ L h (q1 :: q2 :: q3 :: (nled ns ++ q :: rest)) := news_sub N fun p hp => by
  simp only [List.mem_cons, List.mem_append] at hp ⊢
  rcases hp with h | h | h | h | h | h <;> simp [h]
theorem news_less {h₀ h : Heap} {L : Addr} {q q1 q2 q3 : Addr × Obj} (N : News h₀ L h (q1 :: q2 :: q3 :: (nled ns ++ q :: rest))) : News h₀ L h (q1 :: q2 :: q3 :: (nled ns ++ rest)) := news_sub N fun p hp => by
  simp only [List.mem_cons, List.mem_append] at hp ⊢
  rcases hp with h | h | h | h | h <;> simp [h]
theorem dict_upd {prog : Program} {w : World} {od : Obj} (h : od.IsDictOf (PySem.intKind prog w) (kvsOf (pre ++ i :: post))) (e1 : i'.k = i.k) (e2 : i'.a = i.a) : od.IsDictOf (PySem.intKind prog w) (kvsOf (pre ++ i' :: post)) := by
  have e : kvsOf (pre ++ i' :: post) = kvsOf (pre ++ i :: post) := by simp [kvsOf, e1, e2]
  rw [e]; exact h
end
/-! the graph as plain data: key, waits left, those that wait for it -/
noncomputable abbrev GS := List (Int × Int × List Int)
noncomputable def view (ns : List NI) : GS := ns.map fun i => (i.k, i.np, i.sc)
noncomputable def gGet (k : Int) (G : GS) : GS := if k ∈ G.map (·.1) then G else G ++ [(k, 0, [])]
noncomputable def gNp (k : Int) (f : Int → Int) (G : GS) : GS := G.map fun e => if e.1 = k then (e.1, f e.2.1, e.2.2) else e
noncomputable def gSc (k x : Int) (G : GS) : GS := G.map fun e => if e.1 = k then (e.1, e.2.1, e.2.2 ++ [x]) else e
theorem view_keys {ns : List NI} : (view ns).map (·.1) = ns.map (·.k) := by simp [view]
theorem view_np {pre post : List NI} {i : NI} {f : Int → Int} {t : Tok} (h : ((pre ++ i :: post).map (·.k)).Nodup) : view (pre ++ { i with np := f i.np, nt := t } :: post) = gNp i.k f (view (pre ++ i :: post)) := by
  simp only [List.map_append, List.map_cons, List.nodup_append, List.nodup_cons] at h
  obtain ⟨_, ⟨h1, _⟩, h2⟩ := h
  simp only [view, gNp, List.map_append, List.map_cons, List.map_map, if_true]
  congr 1
  · refine List.map_congr_left fun j hj => ?_
    have : j.k ≠ i.k := fun e => h2 _ (List.mem_map_of_mem hj) _ (.head _) e
    simp [this]
  · congr 1
    refine List.map_congr_left fun j hj => ?_
    have : j.k ≠ i.k := fun e => h1 (e ▸ List.mem_map_of_mem hj)
    simp [this]
theorem view_sc {pre post : List NI} {i : NI} {x : Int} {vs : List Value} {n : Nat} (h : ((pre ++ i :: post).map (·.k)).Nodup) : view (pre ++ { i with sv := vs, sc := i.sc ++ [x], lv := n } :: post) = gSc i.k x (view (pre ++ i :: post)) := by
  simp only [List.map_append, List.map_cons, List.nodup_append, List.nodup_cons] at h
  obtain ⟨_, ⟨h1, _⟩, h2⟩ := h
  simp only [view, gSc, List.map_append, List.map_cons, List.map_map, if_true]
  congr 1
  · refine List.map_congr_left fun j hj => ?_
    have : j.k ≠ i.k := fun e => h2 _ (List.mem_map_of_mem hj) _ (.head _) e
    simp [this]
  · congr 1
    refine List.map_congr_left fun j hj => ?_
    have : j.k ≠ i.k := fun e => h1 (e ▸ List.mem_map_of_mem hj)
    simp [this]
section
variable {D Dd n2i : Nat} {pre post : List NI} {i : NI} {rest : List (Addr × Obj)} {h₀ h : Heap} {L : Addr} {q1 q2 : Addr × Obj} {od : Obj} {prog : Program} {w : World}
theorem refocus_np {v : Int} {t : Tok} (N : News h₀ L h (q1 :: q2 :: (n2i, od) :: (i.a, niObj i.k i.kt i.d i.l v t) :: (i.d, dictOf [] 0) :: (i.l, listOf i.sv.toArray i.lv) :: (nled (pre ++ post) ++ rest))) (hS : SW D Dd n2i (pre ++ i :: post) rest) (ho : od.IsDictOf (PySem.intKind prog w) (kvsOf (pre ++ i :: post))) :
    ∃ ns', News h₀ L h (q1 :: q2 :: (n2i, od) :: (nled ns' ++ rest)) ∧ SW D Dd n2i ns' rest ∧ od.IsDictOf (PySem.intKind prog w) (kvsOf ns') ∧ (∀ f : Int → Int, f i.np = v → view ns' = gNp i.k f (view (pre ++ i :: post))) ∧ ns'.length = (pre ++ i :: post).length := by
  refine ⟨pre ++ { i with np := v, nt := t } :: post, news_unfocus N, hS.upd rfl rfl rfl rfl (hS.it i (by simp)), dict_upd ho rfl rfl, fun f e => ?_, by simp⟩
  subst e
  exact view_np hS.kd
theorem refocus_sc {x : Int} {t : Tok} {n : Nat} (N : News h₀ L h (q1 :: q2 :: (n2i, od) :: (i.a, niObj i.k i.kt i.d i.l i.np i.nt) :: (i.d, dictOf [] 0) :: (i.l, listOf (i.sv ++ [Value.int x t]).toArray n) :: (nled (pre ++ post) ++ rest))) (hS : SW D Dd n2i (pre ++ i :: post) rest) (ho : od.IsDictOf (PySem.intKind prog w) (kvsOf (pre ++ i :: post))) :
    ∃ ns', News h₀ L h (q1 :: q2 :: (n2i, od) :: (nled ns' ++ rest)) ∧ SW D Dd n2i ns' rest ∧ od.IsDictOf (PySem.intKind prog w) (kvsOf ns') ∧ view ns' = gSc i.k x (view (pre ++ i :: post)) ∧ ns'.length = (pre ++ i :: post).length :=
  ⟨pre ++ { i with sv := i.sv ++ [.int x t], sc := i.sc ++ [x], lv := n } :: post, news_unfocus N, hS.upd rfl rfl rfl rfl (ints_snoc (hS.it i (by simp))), dict_upd ho rfl rfl, view_sc hS.kd, by simp⟩
end
theorem gGet_len {G : GS} {k : Int} {n : Nat} (h : ∀ e ∈ G, e.2.2.length < n + 1) : ∀ e ∈ gGet k G, e.2.2.length < n + 1 := by
  unfold gGet
  split
  · exact h
  · intro e he
    rcases List.mem_append.mp he with he | he
    · exact h e he
    · rw [List.mem_singleton.mp he]; simp
theorem gNp_len {G : GS} {k : Int} {f : Int → Int} {n : Nat} (h : ∀ e ∈ G, e.2.2.length < n) : ∀ e ∈ gNp k f G, e.2.2.length < n := by
  intro e he
  obtain ⟨e0, h0, rfl⟩ := List.mem_map.mp he
  split
  · exact h e0 h0
  · exact h e0 h0
theorem view_mem {pre post : List NI} {i : NI} : (i.k, i.np, i.sc) ∈ view (pre ++ i :: post) := by simp [view]
/-- the call of _get_nodeinfo, what it hands out brought to the front -/
theorem getinfo_f {w : World} {p : Program} {loose : List Str} {mean : ExcName → Option Value} {mg mb : Str → Option Value} {dp un : Nat} {gd : Option (List Code)} {cn : Str} {cs : Scope} {a : Addr} {ccd : Value} {cl : List (Str × Addr)} {outer : List Env} {A₀ : Around} {base h₀ : Heap} {L : Addr} {m : Str → Option Value} {s : Shared} {Q E : Value → Shared → Prop} {D Dd n2i : Nat} {t1 t2 t3 t4 kt : Tok} {v2 v3 v4 : Value} {od : Obj} {ns : List NI} {k : Int} {rest : List (Addr × Obj)}
    (B : Below A₀ base outer h₀) (F : Fr h₀ L s.heap m) (X : (Mine.hd.heap_1 w.params).In h₀) (T : Top p loose mean mg mb h₀) (hk : cs.kind = .function) (hdp : dp < 880) (hun : un < 8800) (N : News h₀ L s.heap (sL w D Dd n2i t1 t2 t3 t4 v2 v3 v4 od ns rest)) (hod : od.IsDictOf (PySem.intKind PySem.Challenge.rw_mg0054_01.row.prog w) (kvsOf ns)) (hlo : (n2i == sysModules) = false) (hS : SW D Dd n2i ns rest) (hlen : ns.length < 100)
    (hret : ∀ pre i post od' h' tk', Fr h₀ L h' m → News h₀ L h' ((D, instObj 172 Dd) :: (Dd, dictOf (sEs w t1 t2 t3 t4 (.ref n2i) v2 v3 v4) 4) :: (n2i, od') :: (i.a, niObj k i.kt i.d i.l i.np i.nt) :: (i.d, dictOf [] 0) :: (i.l, listOf i.sv.toArray i.lv) :: (nled (pre ++ post) ++ rest)) →
      od'.IsDictOf (PySem.intKind PySem.Challenge.rw_mg0054_01.row.prog w) (kvsOf (pre ++ i :: post)) → SW D Dd n2i (pre ++ i :: post) rest → i.k = k → view (pre ++ i :: post) = gGet k (view ns) → (pre ++ i :: post).length ≤ ns.length + 1 → Q (.ref i.a) { s with heap := h', toks := tk' }) :
    wpAny (model PySem.Challenge.rw_mg0054_01.row.prog w) (ktrTop dp un gd cn cs L a ccd cl outer) (call (.ref 115) [.ref D, .int k kt]) Q E s := by
  refine getinfo_c B F X T hk hdp hun N hod hlo hS hlen fun ns' i od' h' tk' F' N' hod' hS' hi hk' hc => ?_
  obtain ⟨pre, post, rfl⟩ := List.append_of_mem hi
  refine hret pre i post od' h' tk' F' (by subst hk'; exact news_focus N') hod' hS' hk' ?_ ?_
  · unfold gGet
    rw [view_keys]
    rcases hc with ⟨a, b⟩ | ⟨a, b, c, d⟩
    · rw [if_pos a, b]
    · rw [if_neg a, d]; simp [view, hk', b, c]
  · rcases hc with ⟨a, b⟩ | ⟨a, b, c, d⟩
    · rw [b]; omega
    · rw [d]; simp
set_option hygiene false in
local macro_rules | `(tactic| walk_at "i:getinfo") => `(tactic| (intro pre' i' post' od' h' tk' F' N' ho' hS' hk' hv' hl'; obtain ⟨⟨_, _, _⟩, ⟨_, _, _⟩, ⟨_, _, _⟩, ⟨_, _, _⟩, q5', q6', q7'⟩ := SW.split hS'))
local macro_rules | `(tactic| walk_at "call ref") => `(tactic| (k_here; (with_reducible show wpAny _ _ (call (Value.ref 115) _) _ _ _); k_dflt (refine' getinfo_f ?b ?f ?x ?t ?k ?d ?u (by k_asm) (by k_asm) (by k_asm) (by k_asm) (by omega) ?_; (case b => k_asm); (case f => k_asm); (case x => k_asm); (case t => k_asm); (case k => exact rfl); (case d => ktr_room); (case u => ktr_units)); walk_at "i:getinfo"))
local macro_rules | `(tactic| walk_at "call builtin:list.append") => `(tactic| (k_here; (with_reducible show wpAny _ _ (call (Value.builtin _) [Value.ref _, _]) _ _ _); k_dflt (refine' append_L (by k_asm) (by k_asm) (by k_upd) (by omega) ?_); (intro h' F' N')))
set_option maxRecDepth 100000 in
set_option maxHeartbeats 4000000 in
theorem add0_c : ∀ {w : World} {p : Program} {loose : List Str} {mean : ExcName → Option Value} {mg mb : Str → Option Value} {dp un : Nat} {gd : Option (List Code)} {cn : Str} {cs : Scope} {a : Addr} {ccd : Value} {cl : List (Str × Addr)} {outer : List Env} {A₀ : Around} {base h₀ : Heap} {L : Addr} {m : Str → Option Value} {s : Shared} {Q E : Value → Shared → Prop} {D Dd n2i : Nat} {t1 t2 t3 t4 kt : Tok} {v3 v4 : Value} {od : Obj} {ns : List NI} {k : Int} {rest : List (Addr × Obj)},
    Below A₀ base outer h₀ → Fr h₀ L s.heap m → (Mine.hd.heap_1 w.params).In h₀ → Top p loose mean mg mb h₀ → cs.kind = .function → dp < 870 → un < 8700 → News h₀ L s.heap (sL w D Dd n2i t1 t2 t3 t4 .none v3 v4 od ns rest) →
    od.IsDictOf (PySem.intKind PySem.Challenge.rw_mg0054_01.row.prog w) (kvsOf ns) → (n2i == sysModules) = false → SW D Dd n2i ns rest → ns.length < 90 →
    (∀ ns' od' h' tk', Fr h₀ L h' m → News h₀ L h' (sL w D Dd n2i t1 t2 t3 t4 .none v3 v4 od' ns' rest) →
      od'.IsDictOf (PySem.intKind PySem.Challenge.rw_mg0054_01.row.prog w) (kvsOf ns') → SW D Dd n2i ns' rest → view ns' = gGet k (view ns) → ns'.length ≤ ns.length + 1 → Q .none { s with heap := h', toks := tk' }) →
    wpAny (model PySem.Challenge.rw_mg0054_01.row.prog w) (ktrTop dp un gd cn cs L a ccd cl outer) (call (.ref 122) [.ref D, .int k kt]) Q E s := by
  k_fill
  intro w p loose mean mg mb dp un gd cn cs a ccd cl outer A₀ base h₀ L m s Q E D Dd n2i t1 t2 t3 t4 kt v3 v4 od ns k rest B F X T hk hdp hun N hod hlo hS hlen hret
  refine wpAny_call ?_
  k_dflt (refine' kp_rest ?k1 ?k2 ?k3 ?k4 ?k5 ?kA ?kF ?kK ?k6 ?k7 ?k8 ?kV ?kP ?kG ?kB ?_ ?c2 ?c3 ?c4 ?c5; (case kA => exact rfl); (case kF => exact rfl); (case kK => assumption); (case k1 => k_asm); (case k2 => k_asm); (case k3 => k_asm); (case k4 => k_asm); (case k5 => k_asm); (case k6 => k_is); (case k7 => k_is); (case k8 => ktr_room); (case kV => kl_lit); (case kP => exact rfl); (case kG => exact fun _ => rfl); (case kB => exact fun _ => locs rfl); (case c5 => decide); (case c2 => exact rfl); (case c3 => exact rfl); (case c4 => exact rfl); k_whole; intro D' g' L' h' l1 FG' F' N' B' X' T'; (try k_lt l1); (try dsimp only); (try k_fold))
  obtain ⟨rest', hr⟩ : ∃ r, r = (D', { cls := .type "tuple", data := .seq #[] }) :: rest := ⟨_, rfl⟩
  have hm : (D', ({ cls := .type "tuple", data := .seq #[] } : Obj)) ∈ rest' := hr ▸ .head _
  have N2 : News g' L' h' (sL w D Dd n2i t1 t2 t3 t4 .none v3 v4 od ns rest') := by rw [hr]; exact news_more N'
  have hS2 : SW D Dd n2i ns rest' := by rw [hr]; exact hS.more l1
  clear N' hS l1
  ((try (with_reducible refine pin_postA ?_; intros)); k_steps)
  (refine stop_out ?_; (try (with_reducible refine pin_postQ ?_; intros)))
  rename Fr _ _ _ _ => F1
  rename News _ _ _ _ => N1
  subst hk'
  refine iter_tuple (σ := Unit) (vs := []) (fun _ => _) (fun _ => []) [] (fun i _ => i = 0) () rfl (fun _ _ _ => by k_mem) F1 N1 (by simp) rfl ?_ ?_
  · intro i v c u h tk I oI hv
    simp at hv
  · intro c u h tk _ F2 N2
    dsimp only at F2 N2
    clear F1 N1
    ((try (with_reducible refine pin_postA ?_; intros)); k_steps)
    rename Fr _ _ _ _ => kF
    rename News _ _ _ _ => kN
    subst hr
    have kN2 := news_less (news_unfocus (i := { i' with np := i'.np + 0, nt := _ }) kN)
    refine hret _ _ _ _ kF kN2 (dict_upd (i := i') ho' rfl rfl) ?_ ?_ ?_
    · refine SW.less (SW.upd (i := i') hS' rfl rfl rfl rfl ?_); exact hS'.it i' (by simp)
    · rw [view_np (f := fun x => x + 0) hS'.kd, hv']
      simp [gNp]
    · simpa using hl'

set_option maxRecDepth 100000 in
set_option maxHeartbeats 4000000 in
theorem add1_c : ∀ {w : World} {p : Program} {loose : List Str} {mean : ExcName → Option Value} {mg mb : Str → Option Value} {dp un : Nat} {gd : Option (List Code)} {cn : Str} {cs : Scope} {a : Addr} {ccd : Value} {cl : List (Str × Addr)} {outer : List Env} {A₀ : Around} {base h₀ : Heap} {L : Addr} {m : Str → Option Value} {s : Shared} {Q E : Value → Shared → Prop} {D Dd n2i : Nat} {t1 t2 t3 t4 kt kt2 : Tok} {v3 v4 : Value} {od : Obj} {ns : List NI} {k k2 : Int} {rest : List (Addr × Obj)},
    Below A₀ base outer h₀ → Fr h₀ L s.heap m → (Mine.hd.heap_1 w.params).In h₀ → Top p loose mean mg mb h₀ → cs.kind = .function → dp < 870 → un < 8700 → News h₀ L s.heap (sL w D Dd n2i t1 t2 t3 t4 .none v3 v4 od ns rest) →
    od.IsDictOf (PySem.intKind PySem.Challenge.rw_mg0054_01.row.prog w) (kvsOf ns) → (n2i == sysModules) = false → SW D Dd n2i ns rest → ns.length < 90 → (∀ e ∈ view ns, e.2.2.length < 90) →
    (∀ ns' od' h' tk', Fr h₀ L h' m → News h₀ L h' (sL w D Dd n2i t1 t2 t3 t4 .none v3 v4 od' ns' rest) →
      od'.IsDictOf (PySem.intKind PySem.Challenge.rw_mg0054_01.row.prog w) (kvsOf ns') → SW D Dd n2i ns' rest → view ns' = gSc k2 k (gGet k2 (gNp k (· + 1) (gGet k (view ns)))) → ns'.length ≤ ns.length + 2 → Q .none { s with heap := h', toks := tk' }) →
    wpAny (model PySem.Challenge.rw_mg0054_01.row.prog w) (ktrTop dp un gd cn cs L a ccd cl outer) (call (.ref 122) [.ref D, .int k kt, .int k2 kt2]) Q E s := by
  k_fill
  intro w p loose mean mg mb dp un gd cn cs a ccd cl outer A₀ base h₀ L m s Q E D Dd n2i t1 t2 t3 t4 kt kt2 v3 v4 od ns k k2 rest B F X T hk hdp hun N hod hlo hS hlen hsv hret
  refine wpAny_call ?_
  k_dflt (refine' kp_rest ?k1 ?k2 ?k3 ?k4 ?k5 ?kA ?kF ?kK ?k6 ?k7 ?k8 ?kV ?kP ?kG ?kB ?_ ?c2 ?c3 ?c4 ?c5; (case kA => exact rfl); (case kF => exact rfl); (case kK => assumption); (case k1 => k_asm); (case k2 => k_asm); (case k3 => k_asm); (case k4 => k_asm); (case k5 => k_asm); (case k6 => k_is); (case k7 => k_is); (case k8 => ktr_room); (case kV => kl_lit); (case kP => exact rfl); (case kG => exact fun _ => rfl); (case kB => exact fun _ => locs rfl); (case c5 => decide); (case c2 => exact rfl); (case c3 => exact rfl); (case c4 => exact rfl); k_whole; intro D' g' L' h' l1 FG' F' N' B' X' T'; (try k_lt l1); (try dsimp only); (try k_fold))
  obtain ⟨rest', hr⟩ : ∃ r, r = (D', { cls := .type "tuple", data := .seq #[.int k2 kt2] }) :: rest := ⟨_, rfl⟩
  have hm : (D', ({ cls := .type "tuple", data := .seq #[.int k2 kt2] } : Obj)) ∈ rest' := hr ▸ .head _
  have N2 : News g' L' h' (sL w D Dd n2i t1 t2 t3 t4 .none v3 v4 od ns rest') := by rw [hr]; exact news_more N'
  have hS2 : SW D Dd n2i ns rest' := by rw [hr]; exact hS.more l1
  clear N' hS l1
  ((try (with_reducible refine pin_postA ?_; intros)); k_steps)
  (refine stop_out ?_; (try (with_reducible refine pin_postQ ?_; intros)))
  rename Fr _ _ _ _ => F1
  rename News _ _ _ _ => N1
  subst hk'
  obtain ⟨ns1, N3, hS3, ho3, hv3, hl3⟩ := refocus_np N1 hS' ho'
  replace hv3 := hv3 (fun x => x + 1) rfl
  rw [hv'] at hv3
  generalize hk2 : i'.k = k at *
  have hl4 : ns1.length ≤ ns.length + 1 := by omega
  clear N1 ho' hS' hl' hv' q5' q6' q7'
  refine iter_tuple (σ := List NI × Obj) (vs := [.int k2 kt2]) (fun c => sL w D Dd n2i t1 t2 t3 t4 .none v3 v4 c.2 c.1 rest') (fun _ => []) [Str.ofString "pred_info"]
    (fun i c => (i = 0 ∧ c = (ns1, od')) ∨ (i = 1 ∧ c.2.IsDictOf (PySem.intKind PySem.Challenge.rw_mg0054_01.row.prog w) (kvsOf c.1) ∧ SW D Dd n2i c.1 rest' ∧ view c.1 = gSc k2 k (gGet k2 (gNp k (· + 1) (gGet k (view ns)))) ∧ c.1.length ≤ ns.length + 2)) (ns1, od') rfl (fun _ _ _ => by k_mem) F1 N3 (by simp) (.inl ⟨rfl, rfl⟩) ?_ ?_
  · intro i v c u h tk I oI hv hJ hoff F2 N2
    have hi0 : i = 0 := by
      rcases i with _ | i
      · rfl
      · simp at hv
    subst hi0
    simp at hv
    subst hv
    obtain ⟨_, rfl⟩ : 0 = 0 ∧ c = (ns1, od') := by
      rcases hJ with h | h
      · exact h
      · exact absurd h.1 (by decide)
    dsimp only at *
    have hS4 := hS3.more2 (o := oI) hoff
    have N4 := news_more N2
    obtain ⟨restI, hrI⟩ : ∃ r, r = (I, oI) :: rest' := ⟨_, rfl⟩
    rw [← hrI] at hS4 N4
    clear N2 hS3 F1 N3
    ((try (with_reducible refine pin_postA ?_; intros)); k_steps)
    have hz : i'.sv.length < 90 := by
      rw [(hS'.it i' (by simp)).length]
      have := view_mem (pre := pre') (i := i') (post := post')
      rw [hv', hv3] at this
      exact gGet_len (gNp_len (gGet_len hsv)) _ this
    ((try (with_reducible refine pin_postA ?_; intros)); k_steps)
    rename Fr _ _ _ _ => F1
    rename News _ _ _ _ => N1
    subst hk'
    obtain ⟨ns2, N5, hS5, ho5, hv5, hl5⟩ := refocus_sc N1 hS' ho'
    rw [hrI] at N5 hS5
    refine for_end (ns2, od') F1 N5 ?_ ?_ hS5.off (by simp) ?_ (.inr ⟨by first | trivial | rfl, ho5, hS5.less, by rw [hv5, hv', hv3], by dsimp only; omega⟩)
    · exact .tail _ (.tail _ (.tail _ (List.mem_append_right _ (.head _))))
    · intro p hp
      simp only [sL, List.mem_cons, List.mem_append] at hp ⊢
      rcases hp with h | h | h | h | h <;> simp [h]
    · walk_at "same3"
  · intro c u h tk hJ F2 N2
    dsimp only at F2 N2
    rcases hJ with ⟨h1, _⟩ | ⟨_, h2, h3, h4, h5⟩
    · simp at h1
    clear F1 N3
    ((try (with_reducible refine pin_postA ?_; intros)); k_steps)
    rename Fr _ _ _ _ => kF
    rename News _ _ _ _ => kN
    subst hr
    exact hret _ _ _ _ kF (news_less kN) h2 h3.less h4 h5

theorem anew_F_ready : True := by w_top off; first | (walk1; done) | trivial
theorem news_cons {h₀ h : Heap} {L : Addr} {q : Addr × Obj} {r : List (Addr × Obj)} (N : News h₀ L h (q :: r)) : News h₀ L h [q] ∧ News h₀ L h r := ⟨news_sub N fun p hp => by rw [List.mem_singleton.mp hp]; exact .head _, news_sub N fun p hp => .tail _ hp⟩
theorem news_join {h₀ h : Heap} {L : Addr} {q : Addr × Obj} {r : List (Addr × Obj)} (N : News h₀ L h [q]) (M : News h₀ L h r) : News h₀ L h (q :: r) := fun p hp => by
  rcases List.mem_cons.mp hp with rfl | hp
  · exact N _ (.head _)
  · exact M p hp
theorem SW.obj {D Dd n2i x : Nat} {ns : List NI} {o o' : Obj} {rest : List (Addr × Obj)} (h : SW D Dd n2i ns ((x, o) :: rest)) : SW D Dd n2i ns ((x, o') :: rest) := ⟨by simpa using h.nd, h.kd, h.it⟩
theorem clear_any {prog : Program} {w : World} {A : Around} {E : Value → Shared → Prop} {s : Shared} {h₀ : Heap} {L D : Addr} {m : Str → Option Value} {news : List (Addr × Obj)} {g : Obj → List (Addr × Obj)} {vs : List Value} {n : Nat} {Q : Value → Shared → Prop}
    (F : Fr h₀ L s.heap m) (N : News h₀ L s.heap news) (U : UpdF D (listOf vs.toArray n) news g) (hz : vs.length < 1000) (h : ∀ n' h', Fr h₀ L h' m → News h₀ L h' (g (listOf #[] n')) → Q .none { s with heap := h' }) :
    wpAny (model prog w) A (call (.builtin "list.clear") [.ref D]) Q E s := by
  obtain ⟨pre, post, rfl, hg, a, c⟩ := U.split
  have z := N (D, listOf vs.toArray n) (List.mem_append.mpr (.inr (.head _)))
  have q := PySem.IsL.update z.1 (fun _ => #[])
  refine call_meets PySem.F.slot_list_clear ⟨_, z.1, rfl⟩ PySem.F.entry_list_clear (PySem.F.args_list_clear_1 _) (PySem.AutoSeq1.list_clear_list_0 D vs.toArray n (by rw [sizeLine_eq, List.size_toArray]; omega)) ⟨z.1, h _ _ (F.change (Heap.SameBut.update ..) z.2.1 z.2.2) (by rw [hg]; exact news_set N a c (Heap.SameBut.update ..) q)⟩
local macro_rules | `(tactic| walk_at "call builtin:list.clear") => `(tactic| (k_here; (show wpAny _ _ (call (Value.builtin _) [Value.ref _]) _ _ _); k_dflt (refine' clear_any (by k_asm) (by k_asm) (by k_updF) (by omega) ?_); intro n' h' F' N'; (try dsimp only at N'); (try k_sweep)))
theorem len_tupS {prog : Program} {w : World} {A : Around} {E : Value → Shared → Prop} {s : Shared} {h₀ : Heap} {L D : Addr} {news : List (Addr × Obj)} {vs : List Value} {n : Nat} {Q : Value → Shared → Prop}
    (N : News h₀ L s.heap news) (hm : (D, ({ cls := .type "tuple", data := .seq vs.toArray n } : Obj)) ∈ news) (hz : vs.length < 1000) (h : ∀ t' tk', Q (.int (vs.length : Int) t') { s with toks := tk' }) : wpAny (model prog w) A (call (.builtin "len") [.ref D]) Q E s :=
  PyProof.Rows.len_tuple (items := vs.toArray) ⟨_, (N _ hm).1, rfl, _, rfl⟩ (by rw [List.size_toArray]; omega) (by rw [List.size_toArray]; exact h _ _)
local macro_rules | `(tactic| walk_at "call builtin:len") => `(tactic| (k_here; (with_reducible show wpAny _ _ (call (Value.builtin "len") [Value.ref _]) _ _ _); k_dflt (refine' len_tupS (by k_asm) (by k_mem) (by omega) ?_); intro t' tk'))
local macro_rules | `(tactic| walk_at "subscriptTail") => `(tactic| (k_here; (with_reducible show wpAny _ _ (subscriptTail _ _ (Value.ref _) (Value.int _ _)) _ _ _); k_dflt (refine kda_item (knd := PySem.intKind _ _) (by k_asm) (by k_mem) (by with_reducible assumption) (intKind_is _ _ _ _) (by with_reducible assumption) ?_)))
theorem SW.offs {D Dd n2i x : Nat} {ns : List NI} {o : Obj} {rest : List (Addr × Obj)} (h : SW D Dd n2i ns ((x, o) :: rest)) : (D ≠ x ∧ Dd ≠ x ∧ n2i ≠ x) ∧ ∀ p ∈ nled ns ++ rest, p.1 ≠ x :=
  have q := h.off (o1 := o) (o2 := o) (o3 := o)
  ⟨⟨q _ (.head _), q _ (.tail _ (.head _)), q _ (.tail _ (.tail _ (.head _)))⟩, fun p hp => q p (.tail _ (.tail _ (.tail _ hp)))⟩
set_option hygiene false in
local macro_rules | `(tactic| walk_at "i:tuple") => `(tactic| (intro T' h' F' N' lT'; (try k_lt lT'); (try k_sweep)))
local macro_rules | `(tactic| walk_at "call type:tuple") => `(tactic| (k_here; (with_reducible show wpAny _ _ (call (Value.type _) [Value.ref _]) _ _ _); k_dflt (refine' kde_tupleOf (by k_asm) (by k_asm) (by exact News.isList (by k_asm) (by k_mem)) (by (simp only [List.size_toArray]; omega)) rfl ?_); walk_at "i:tuple"))
local macro_rules | `(tactic| walk_at "sub") => `(tactic| (intro p hp; (simp only [sL, List.mem_cons, List.mem_append, List.not_mem_nil, or_false] at hp ⊢); grind))
theorem gNp_keys {k : Int} {f : Int → Int} {G : GS} : (gNp k f G).map (·.1) = G.map (·.1) := by
  simp only [gNp, List.map_map]
  refine List.map_congr_left fun e _ => ?_
  simp only [Function.comp]
  split <;> rfl
theorem outs_keys {rk : List Int} : ∀ {G : GS}, (rk.foldl (fun G k => gNp k (fun _ => -1) G) G).map (·.1) = G.map (·.1) := by
  induction rk with
  | nil => intro G; rfl
  | cons k rk ih => intro G; rw [List.foldl_cons, ih, gNp_keys]
theorem ints_at : ∀ {ns : List Int} {vs : List Value} {i : Nat} {v : Value}, IntsAre vs ns → vs[i]? = some v → ∃ k t, ns[i]? = some k ∧ v = .int k t
  | _, _, _, _, .nil, h => by simp at h
  | _, _, 0, _, .cons n t _, h => by simp at h; exact ⟨n, t, by simp, h.symm⟩
  | _, _, i + 1, _, .cons n t r, h => by
    simp at h
    obtain ⟨k, t', h1, h2⟩ := ints_at r h
    exact ⟨k, t', by simpa using h1, h2⟩
theorem take_succ_fold {α β : Type} {f : β → α → β} {l : List α} {i : Nat} {x : α} {b : β} (h : l[i]? = some x) : (l.take (i + 1)).foldl f b = f ((l.take i).foldl f b) x := by
  rw [List.take_add_one, h]; simp
set_option maxRecDepth 100000 in
set_option maxHeartbeats 4000000 in
theorem ready_c : ∀ {w : World} {p : Program} {loose : List Str} {mean : ExcName → Option Value} {mg mb : Str → Option Value} {dp un : Nat} {gd : Option (List Code)} {cn : Str} {cs : Scope} {a : Addr} {ccd : Value} {cl : List (Str × Addr)} {outer : List Env} {A₀ : Around} {base h₀ : Heap} {L : Addr} {m : Str → Option Value} {s : Shared} {Q E : Value → Shared → Prop} {D Dd n2i R : Nat} {t1 t2 t3 t4 t5 : Tok} {pa : Int} {v4 : Value} {rn : Nat} {od : Obj} {ns : List NI} {rv : List Value} {rk : List Int} {rest : List (Addr × Obj)},
    Below A₀ base outer h₀ → Fr h₀ L s.heap m → (Mine.hd.heap_1 w.params).In h₀ → Top p loose mean mg mb h₀ → cs.kind = .function → dp < 870 → un < 8700 → News h₀ L s.heap ((R, listOf rv.toArray rn) :: sL w D Dd n2i t1 t2 t3 t4 (.ref R) (.int pa t5) v4 od ns rest) →
    od.IsDictOf (PySem.intKind PySem.Challenge.rw_mg0054_01.row.prog w) (kvsOf ns) → (n2i == sysModules) = false → SW D Dd n2i ns ((R, listOf #[] 0) :: rest) → IntsAre rv rk → rk.length < 90 → (∀ k ∈ rk, k ∈ ns.map (·.k)) →
    (∀ T ns' t3' t5' rn' pa' h' tk', Fr h₀ L h' m → News h₀ L h' ((T, { cls := .type "tuple", data := .seq rv.toArray }) :: (R, listOf #[] rn') :: sL w D Dd n2i t1 t2 t3' t4 (.ref R) (.int pa' t5') v4 od ns' rest) →
      od.IsDictOf (PySem.intKind PySem.Challenge.rw_mg0054_01.row.prog w) (kvsOf ns') → SW D Dd n2i ns' ((R, listOf #[] 0) :: rest) → view ns' = rk.foldl (fun G k => gNp k (fun _ => -1) G) (view ns) → Q (.ref T) { s with heap := h', toks := tk' }) →
    wpAny (model PySem.Challenge.rw_mg0054_01.row.prog w) (ktrTop dp un gd cn cs L a ccd cl outer) (call (.ref 134) [.ref D]) Q E s := by
  k_fill
  intro w p loose mean mg mb dp un gd cn cs a ccd cl outer A₀ base h₀ L m s Q E D Dd n2i R t1 t2 t3 t4 t5 pa v4 rn od ns rv rk rest B F X T hk hdp hun N hod hlo hS hi hlen hkeys hret
  have hil := hi.length
  refine wpAny_call ?_
  k_dflt ktr_enter
  ((try (with_reducible refine pin_postA ?_; intros)); k_steps)
  (refine stop_out ?_; (try (with_reducible refine pin_postQ ?_; intros)))
  rename Fr _ _ _ _ => F1
  rename News _ _ _ _ => N1
  obtain ⟨rest2, hr2⟩ : ∃ r, r = (T', { cls := .type "tuple", data := .seq rv.toArray }) :: (R, listOf rv.toArray rn) :: rest := ⟨_, rfl⟩
  have hS2 : SW D Dd n2i ns rest2 := by
    rw [hr2]
    refine SW.more (hS.obj) ⟨by omega, by omega, by omega, ?_⟩
    rw [bd_append] at *
    simp only [bd]
    omega
  have N2 := news_sub (q := sL w D Dd n2i t1 t2 t3 t4 (.ref R) (.int pa t5) v4 od ns rest2) N1 (by rw [hr2]; walk_at "sub")
  have hmT : (T', ({ cls := .type "tuple", data := .seq rv.toArray } : Obj)) ∈ rest2 := by rw [hr2]; exact .head _
  refine iter_tuple (σ := List NI) (vs := rv) (fun c => sL w D Dd n2i t1 t2 t3 t4 (.ref R) (.int pa t5) v4 od c rest2) (fun _ => []) []
    (fun i c => od.IsDictOf (PySem.intKind PySem.Challenge.rw_mg0054_01.row.prog w) (kvsOf c) ∧ SW D Dd n2i c rest2 ∧ view c = (rk.take i).foldl (fun G k => gNp k (fun _ => -1) G) (view ns)) ns rfl (fun _ _ _ => by k_mem) F1 N2 (by simp) ⟨hod, hS2, by simp⟩ ?_ ?_
  · intro i v c u h tk I oI hv hJ hoff F3 N3
    obtain ⟨hod3, hS3, hv3⟩ := hJ
    obtain ⟨k, tv, hk2, rfl⟩ := ints_at hi hv
    dsimp only at *
    have hS4 := hS3.more2 (o := oI) hoff
    have N4 := news_more N3
    have hkc : k ∈ c.map (·.k) := by
      rw [← view_keys, hv3, outs_keys, view_keys]
      exact hkeys k (List.mem_of_getElem? hk2)
    obtain ⟨j, hj, rfl⟩ := List.mem_map.mp hkc
    have hva := valueAt_in hS4.kd hj
    obtain ⟨pre, post, rfl⟩ := List.append_of_mem hj
    obtain ⟨⟨_, _, _⟩, ⟨_, _, _⟩, ⟨_, _, _⟩, ⟨_, _, _⟩, q5, q6, q7⟩ := SW.split hS4
    have N5 := news_focus N4
    clear N4 N3 hS3 hod N1 N2
    ((try (with_reducible refine pin_postA ?_; intros)); k_steps)
    rename Fr _ _ _ _ => F6
    rename News _ _ _ _ => N6
    obtain ⟨ns2, N7, hS7, ho7, hv7, hl7⟩ := refocus_np N6 hS4 hod3
    replace hv7 := hv7 (fun _ => -1) rfl
    refine for_end ns2 F6 N7 ?_ ?_ hS7.off (by simp) ?_ ⟨ho7, hS7.less, ?_⟩
    · exact .tail _ (.tail _ (.tail _ (List.mem_append_right _ (.head _))))
    · walk_at "sub"
    · walk_at "same3"
    · rw [hv7, hv3, take_succ_fold hk2]
  · intro c u h tk hJ F3 N3
    obtain ⟨hod3, hS3, hv3⟩ := hJ
    dsimp only at F3 N3
    have N4 := news_sub (q := (T', { cls := .type "tuple", data := .seq rv.toArray }) :: (R, listOf rv.toArray rn) :: sL w D Dd n2i t1 t2 t3 t4 (.ref R) (.int pa t5) v4 od c rest) N3 (by rw [hr2]; walk_at "sub")
    rw [hr2] at hS3
    have hS5 := hS3.less
    obtain ⟨⟨_, _, _⟩, o2⟩ := hS3.offs
    obtain ⟨⟨_, _, _⟩, o4⟩ := hS5.offs
    have o5 := hS5.less.a2
    have o6 := hS5.less.ne1
    have o7 := hS5.less.ne3
    have o8 : R ≠ T' := by omega
    clear N1 N2 N3 hmT hr2 F1
    ((try (with_reducible refine pin_postA ?_; intros)); k_steps)
    rename Fr _ _ _ _ => kF
    rename News _ _ _ _ => kN
    refine hret _ _ _ _ _ _ _ _ kF kN hod3 hS5.obj ?_
    rw [hv3, List.take_of_length_le (by omega)]

theorem anew_G_done : True := by w_top off; first | (walk1; done) | trivial
noncomputable def npOf (k : Int) (G : GS) : Int := ((G.find? fun e => e.1 = k).map (·.2.1)).getD 0
noncomputable def scOf (k : Int) (G : GS) : List Int := ((G.find? fun e => e.1 = k).map (·.2.2)).getD []
noncomputable def dsucc (st : GS × List Int) (x : Int) : GS × List Int := (gNp x (· - 1) st.1, if npOf x (gNp x (· - 1) st.1) = 0 then st.2 ++ [x] else st.2)
noncomputable def doneG (k : Int) (G : GS) (rk : List Int) : GS × List Int := (scOf k G).foldl dsucc (gNp k (fun _ => -2) G, rk)
theorem find_view {ns : List NI} {i : NI} (h : (ns.map (·.k)).Nodup) (hi : i ∈ ns) : (view ns).find? (fun e => e.1 = i.k) = some (i.k, i.np, i.sc) := by
  induction ns with
  | nil => cases hi
  | cons j r ih =>
    simp only [List.map_cons, List.nodup_cons] at h
    rcases List.mem_cons.mp hi with rfl | hi
    · simp [view]
    · have hne : j.k ≠ i.k := fun e => h.1 (e ▸ List.mem_map_of_mem hi)
      have := ih h.2 hi
      simpa [view, hne] using this
theorem npOf_view {ns : List NI} {i : NI} (h : (ns.map (·.k)).Nodup) (hi : i ∈ ns) : npOf i.k (view ns) = i.np := by unfold npOf; rw [find_view h hi]; rfl
theorem scOf_view {ns : List NI} {i : NI} (h : (ns.map (·.k)).Nodup) (hi : i ∈ ns) : scOf i.k (view ns) = i.sc := by unfold scOf; rw [find_view h hi]; rfl
theorem npOf_gNp {k : Int} {f : Int → Int} {G : GS} (h : k ∈ G.map (·.1)) : npOf k (gNp k f G) = f (npOf k G) := by
  unfold npOf gNp
  induction G with
  | nil => simp at h
  | cons e r ih =>
    by_cases he : e.1 = k
    · simp [he]
    · have h' : k ∈ r.map (·.1) := by
        rcases List.mem_cons.mp h with h | h
        · exact absurd h.symm he
        · exact h
      simpa [he] using ih h'
theorem dsucc_keys {xs : List Int} : ∀ {st : GS × List Int}, (xs.foldl dsucc st).1.map (·.1) = st.1.map (·.1) := by
  induction xs with
  | nil => intro st; rfl
  | cons x xs ih => intro st; rw [List.foldl_cons, ih]; simp only [dsucc, gNp_keys]
theorem dsucc_len {xs : List Int} : ∀ {st : GS × List Int}, (xs.foldl dsucc st).2.length ≤ st.2.length + xs.length := by
  induction xs with
  | nil => intro st; simp
  | cons x xs ih =>
    intro st
    rw [List.foldl_cons]
    refine Nat.le_trans ih ?_
    simp only [dsucc, List.length_cons]
    split
    · simp; omega
    · omega
theorem take_succ_foldG {α β : Type} {f : β → α → β} {l : List α} {i : Nat} {x : α} {b : β} (h : l[i]? = some x) : (l.take (i + 1)).foldl f b = f ((l.take i).foldl f b) x := take_succ_fold h
section
variable {D Dd n2i : Nat} {pre post : List NI} {i : NI} {rest : List (Addr × Obj)} {h₀ h : Heap} {L : Addr} {q0 q1 q2 : Addr × Obj} {od : Obj} {prog : Program} {w : World}
theorem news_focus4 (N : News h₀ L h (q0 :: q1 :: q2 :: (n2i, od) :: (nled (pre ++ i :: post) ++ rest))) :
    News h₀ L h (q0 :: q1 :: q2 :: (n2i, od) :: (i.a, niObj i.k i.kt i.d i.l i.np i.nt) :: (i.d, dictOf [] 0) :: (i.l, listOf i.sv.toArray i.lv) :: (nled (pre ++ post) ++ rest)) :=
  news_join (news_cons N).1 (news_focus (news_cons N).2)
theorem refocus_np4 {v : Int} {t : Tok} (N : News h₀ L h (q0 :: q1 :: q2 :: (n2i, od) :: (i.a, niObj i.k i.kt i.d i.l v t) :: (i.d, dictOf [] 0) :: (i.l, listOf i.sv.toArray i.lv) :: (nled (pre ++ post) ++ rest))) (hS : SW D Dd n2i (pre ++ i :: post) rest) (ho : od.IsDictOf (PySem.intKind prog w) (kvsOf (pre ++ i :: post))) :
    ∃ ns', News h₀ L h (q0 :: q1 :: q2 :: (n2i, od) :: (nled ns' ++ rest)) ∧ (∀ r, SW D Dd n2i (pre ++ i :: post) r → SW D Dd n2i ns' r) ∧ od.IsDictOf (PySem.intKind prog w) (kvsOf ns') ∧ (∀ f : Int → Int, f i.np = v → view ns' = gNp i.k f (view (pre ++ i :: post))) ∧ (∀ x vs n, (x, listOf vs n) ∈ nled (pre ++ i :: post) → (x, listOf vs n) ∈ nled ns') := by
  refine ⟨pre ++ { i with np := v, nt := t } :: post, news_join (news_cons N).1 (news_unfocus (news_cons N).2), fun r hr => hr.upd rfl rfl rfl rfl (hr.it i (by simp)), dict_upd ho rfl rfl, fun f e => ?_, fun x vs n hm => ?_⟩
  · subst e
    exact view_np hS.kd
  · simp only [nled_append, nled_cons, NI.led, List.mem_append, List.mem_cons, List.not_mem_nil, or_false] at hm ⊢
    rcases hm with hm | (hm | hm | hm) | hm
    · exact .inl hm
    · have := congrArg (fun p : Addr × Obj => p.2.cls) hm; simp at this
    · exact .inr (.inl (.inr (.inl hm)))
    · exact .inr (.inl (.inr (.inr hm)))
    · exact .inr (.inr hm)
end
theorem SW.swap {D Dd n2i : Nat} {ns : List NI} {q r : Addr × Obj} {rest : List (Addr × Obj)} (h : SW D Dd n2i ns (q :: r :: rest)) : SW D Dd n2i ns (r :: q :: rest) := by
  refine ⟨?_, h.kd, h.it⟩
  have p1 : (nled ns ++ r :: q :: rest).Perm (nled ns ++ q :: r :: rest) := List.Perm.append_left _ (List.Perm.swap _ _ _)
  exact (List.Perm.cons _ (List.Perm.cons _ (List.Perm.cons _ (p1.map _)))).nodup_iff.mpr h.nd
theorem SW.moreR {D Dd n2i R I : Nat} {ns : List NI} {o0 oR oI o1 o2 o3 : Obj} {rest : List (Addr × Obj)} (h : SW D Dd n2i ns ((R, o0) :: rest)) (hoff : ∀ p ∈ (R, oR) :: (D, o1) :: (Dd, o2) :: (n2i, o3) :: (nled ns ++ rest), p.1 ≠ I) : SW D Dd n2i ns ((R, o0) :: (I, oI) :: rest) :=
  (SW.more2 (o := oI) (o1 := oI) (o2 := oI) (o3 := oI) h (by
      intro p hp e
      simp only [List.mem_cons, List.mem_append] at hp
      rcases hp with rfl | rfl | rfl | hp | rfl | hp
      · exact hoff (D, _) (.tail _ (.head _)) e
      · exact hoff (Dd, _) (.tail _ (.tail _ (.head _))) e
      · exact hoff (n2i, _) (.tail _ (.tail _ (.tail _ (.head _)))) e
      · exact hoff p (.tail _ (.tail _ (.tail _ (.tail _ (List.mem_append_left _ hp))))) e
      · exact hoff (R, _) (.head _) e
      · exact hoff p (.tail _ (.tail _ (.tail _ (.tail _ (List.mem_append_right _ hp))))) e)).swap
theorem SW.offR {D Dd n2i R I : Nat} {ns : List NI} {o0 oR oI o1 o2 o3 : Obj} {rest : List (Addr × Obj)} (h : SW D Dd n2i ns ((R, o0) :: (I, oI) :: rest)) : ∀ p ∈ (R, oR) :: (D, o1) :: (Dd, o2) :: (n2i, o3) :: (nled ns ++ rest), p.1 ≠ I := by
  obtain ⟨⟨a, b, c⟩, d⟩ := h.swap.offs
  intro p hp
  simp only [List.mem_cons] at hp
  rcases hp with rfl | rfl | rfl | rfl | hp
  · exact d (R, o0) (List.mem_append_right _ (.head _))
  · exact a
  · exact b
  · exact c
  · rcases List.mem_append.mp hp with hp | hp
    · exact d p (List.mem_append_left _ hp)
    · exact d p (List.mem_append_right _ (.tail _ hp))
local macro_rules | `(tactic| walk_at "sub0") => `(tactic| ((simp only [sL, List.mem_cons, List.mem_append, List.not_mem_nil, or_false]); grind))
set_option maxRecDepth 100000 in
set_option maxHeartbeats 4000000 in
theorem done_c : ∀ {w : World} {p : Program} {loose : List Str} {mean : ExcName → Option Value} {mg mb : Str → Option Value} {dp un : Nat} {gd : Option (List Code)} {cn : Str} {cs : Scope} {a : Addr} {ccd : Value} {cl : List (Str × Addr)} {outer : List Env} {A₀ : Around} {base h₀ : Heap} {L : Addr} {m : Str → Option Value} {s : Shared} {Q E : Value → Shared → Prop} {D Dd n2i R : Nat} {t1 t2 t3 t4 t6 kt : Tok} {fi : Int} {v3 : Value} {rn : Nat} {od : Obj} {ns : List NI} {rv : List Value} {rk : List Int} {k : Int} {rest : List (Addr × Obj)},
    Below A₀ base outer h₀ → Fr h₀ L s.heap m → (Mine.hd.heap_1 w.params).In h₀ → Top p loose mean mg mb h₀ → cs.kind = .function → dp < 870 → un < 8700 → News h₀ L s.heap ((R, listOf rv.toArray rn) :: sL w D Dd n2i t1 t2 t3 t4 (.ref R) v3 (.int fi t6) od ns rest) →
    od.IsDictOf (PySem.intKind PySem.Challenge.rw_mg0054_01.row.prog w) (kvsOf ns) → (n2i == sysModules) = false → SW D Dd n2i ns ((R, listOf #[] 0) :: rest) → IntsAre rv rk → rk.length + (scOf k (view ns)).length < 90 → k ∈ ns.map (·.k) → npOf k (view ns) = -1 → (∀ x ∈ scOf k (view ns), x ∈ ns.map (·.k)) →
    (∀ ns' rv' t6' rn' fi' h' tk', Fr h₀ L h' m → News h₀ L h' ((R, listOf rv'.toArray rn') :: sL w D Dd n2i t1 t2 t3 t4 (.ref R) v3 (.int fi' t6') od ns' rest) →
      od.IsDictOf (PySem.intKind PySem.Challenge.rw_mg0054_01.row.prog w) (kvsOf ns') → SW D Dd n2i ns' ((R, listOf #[] 0) :: rest) → IntsAre rv' (doneG k (view ns) rk).2 → view ns' = (doneG k (view ns) rk).1 → Q .none { s with heap := h', toks := tk' }) →
    wpAny (model PySem.Challenge.rw_mg0054_01.row.prog w) (ktrTop dp un gd cn cs L a ccd cl outer) (call (.ref 155) [.ref D, .int k kt]) Q E s := by
  k_fill
  intro w p loose mean mg mb dp un gd cn cs a ccd cl outer A₀ base h₀ L m s Q E D Dd n2i R t1 t2 t3 t4 t6 kt fi v3 rn od ns rv rk k rest B F X T hk hdp hun N hod hlo hS hi hlen hkm hnp hkeys hret
  refine wpAny_call ?_
  k_dflt (refine' kp_rest ?k1 ?k2 ?k3 ?k4 ?k5 ?kA ?kF ?kK ?k6 ?k7 ?k8 ?kV ?kP ?kG ?kB ?_ ?c2 ?c3 ?c4 ?c5; (case kA => exact rfl); (case kF => exact rfl); (case kK => assumption); (case k1 => k_asm); (case k2 => k_asm); (case k3 => k_asm); (case k4 => k_asm); (case k5 => k_asm); (case k6 => k_is); (case k7 => k_is); (case k8 => ktr_room); (case kV => kl_lit); (case kP => exact rfl); (case kG => exact fun _ => rfl); (case kB => exact fun _ => locs rfl); (case c5 => decide); (case c2 => exact rfl); (case c3 => exact rfl); (case c4 => exact rfl); k_whole; intro D' g' L' h' l1 FG' F' N' B' X' T'; (try k_lt l1); (try dsimp only); (try k_fold))
  ((try (with_reducible refine pin_postA ?_; intros)); k_steps)
  (refine stop_out ?_; (try (with_reducible refine pin_postQ ?_; intros)))
  rename Fr _ _ _ _ => F1
  rename News _ _ _ _ => N1
  obtain ⟨restT, hrT⟩ : ∃ r, r = (D', { cls := .type "tuple", data := .seq #[.int k kt] }) :: rest := ⟨_, rfl⟩
  have hS2 : SW D Dd n2i ns ((R, listOf #[] 0) :: restT) := by
    rw [hrT]
    refine (SW.more hS ⟨by omega, by omega, by omega, ?_⟩).swap
    rw [bd_append] at *
    simp only [bd]
    omega
  have N2 := news_sub (q := (R, listOf rv.toArray rn) :: sL w D Dd n2i t1 t2 t3 t4 (.ref R) v3 (.int fi t6) od ns restT) N1 (by rw [hrT]; walk_at "sub")
  have hmT : (D', ({ cls := .type "tuple", data := .seq #[.int k kt] } : Obj)) ∈ restT := by rw [hrT]; exact .head _
  clear N1
  refine iter_tuple (σ := List NI × List Value × Nat × Int × Tok) (vs := [.int k kt]) (fun c => (R, listOf c.2.1.toArray c.2.2.1) :: sL w D Dd n2i t1 t2 t3 t4 (.ref R) v3 (.int c.2.2.2.1 c.2.2.2.2) od c.1 restT) (fun _ => []) [Str.ofString "nodeinfo", Str.ofString "stat", Str.ofString "successor", Str.ofString "successor_info"]
    (fun i c => (i = 0 ∧ c = (ns, rv, rn, fi, t6)) ∨ (i = 1 ∧ od.IsDictOf (PySem.intKind PySem.Challenge.rw_mg0054_01.row.prog w) (kvsOf c.1) ∧ SW D Dd n2i c.1 ((R, listOf #[] 0) :: restT) ∧ IntsAre c.2.1 (doneG k (view ns) rk).2 ∧ view c.1 = (doneG k (view ns) rk).1)) (ns, rv, rn, fi, t6) rfl (fun _ _ _ => by k_mem) F1 N2 (by simp) (.inl ⟨rfl, rfl⟩) ?_ ?_
  · intro i v c u h tk I oI hv hJ hoff F3 N3
    have hi0 : i = 0 := by
      rcases i with _ | i
      · rfl
      · simp at hv
    subst hi0
    simp at hv
    subst hv
    obtain ⟨_, rfl⟩ : 0 = 0 ∧ c = (ns, rv, rn, fi, t6) := by
      rcases hJ with h | h
      · exact h
      · exact absurd h.1 (by decide)
    dsimp only at *
    have hS3 : SW D Dd n2i ns ((R, listOf #[] 0) :: (I, oI) :: restT) := hS2.moreR hoff
    obtain ⟨restX, hrX⟩ : ∃ r, r = (I, oI) :: restT := ⟨_, rfl⟩
    have N4 := news_sub (q := (R, listOf rv.toArray rn) :: sL w D Dd n2i t1 t2 t3 t4 (.ref R) v3 (.int fi t6) od ns restX) N3 (by rw [hrX]; walk_at "sub")
    rw [← hrX] at hS3
    obtain ⟨j, hj, rfl⟩ := List.mem_map.mp hkm
    have hva := valueAt_in hS3.kd hj
    have hjn : j.np = -1 := by rw [← npOf_view hS3.kd hj]; exact hnp
    have hjs : scOf j.k (view ns) = j.sc := scOf_view hS3.kd hj
    have hji := hS3.it j hj
    obtain ⟨pre, post, rfl⟩ := List.append_of_mem hj
    obtain ⟨⟨_, _, _⟩, ⟨_, _, _⟩, ⟨_, _, _⟩, ⟨_, _, _⟩, q5, q6, q7⟩ := SW.split hS3.less
    have q8 : R ≠ j.a := (SW.split hS3).2.2.2.2.1 (R, listOf #[] 0) (List.mem_append_right _ (.head _))
    have N5 := news_focus4 N4
    rw [hjn] at N5
    clear N4 N3 N2 hS2
    ((try (with_reducible refine pin_postA ?_; intros)); k_steps)
    (refine stop_out ?_; (try (with_reducible refine pin_postQ ?_; intros)))
    rename Fr _ _ _ _ => F6
    rename News _ _ _ _ => N6
    obtain ⟨ns1, N7, hS7, ho7, hv7, hm7⟩ := refocus_np4 N6 hS3.less hod
    replace hv7 := hv7 (fun _ => -2) rfl
    replace hS7 := hS7 _ hS3
    have hmL := hm7 j.l j.sv.toArray j.lv (mem_nled.mpr ⟨j, hj, by simp [NI.led]⟩)
    clear N6 N5 F3 N hS hoff q5 q6 q7 q8 hva
    rw [hjs] at hlen hkeys
    have hjl := hji.length
    refine iter_list (σ := List NI × List Value × Nat) (fun c => (R, listOf c.2.1.toArray c.2.2) :: sL w D Dd n2i t1 t2 t3 t4 (.ref R) v3 (.int fi t6) od c.1 restX) (fun _ => []) [Str.ofString "successor_info"]
      (fun i c => od.IsDictOf (PySem.intKind PySem.Challenge.rw_mg0054_01.row.prog w) (kvsOf c.1) ∧ SW D Dd n2i c.1 ((R, listOf #[] 0) :: restX) ∧ (j.l, listOf j.sv.toArray j.lv) ∈ nled c.1 ∧ IntsAre c.2.1 ((j.sc.take i).foldl dsucc (gNp j.k (fun _ => -2) (view (pre ++ j :: post)), rk)).2 ∧ view c.1 = ((j.sc.take i).foldl dsucc (gNp j.k (fun _ => -2) (view (pre ++ j :: post)), rk)).1)
      (ns1, rv, rn) rfl (fun _ _ h => .tail _ (.tail _ (.tail _ (.tail _ (List.mem_append_left _ h.2.2.1))))) F6 N7 (by simp) ⟨ho7, hS7, hmL, hi, hv7⟩ ?_ ?_
    · rintro i v ⟨c, rv1, rn1⟩ u1 h1 tk1 I1 oI1 hv ⟨hod1, hS1, hmL1, hi1, hv1⟩ hoff1 F8 N8
      dsimp only at *
      obtain ⟨k1, tv1, hk2, rfl⟩ := ints_at hji hv
      have hS9 : SW D Dd n2i c ((R, listOf #[] 0) :: (I1, oI1) :: restX) := hS1.moreR hoff1
      obtain ⟨restY, hrY⟩ : ∃ r, r = (I1, oI1) :: restX := ⟨_, rfl⟩
      have N9 := news_sub (q := (R, listOf rv1.toArray rn1) :: sL w D Dd n2i t1 t2 t3 t4 (.ref R) v3 (.int fi t6) od c restY) N8 (by rw [hrY]; walk_at "sub")
      rw [← hrY] at hS9
      have hkc : k1 ∈ c.map (·.k) := by
        rw [← view_keys, hv1, dsucc_keys, gNp_keys, view_keys]
        exact hkeys k1 (List.mem_of_getElem? hk2)
      obtain ⟨j1, hj1, rfl⟩ := List.mem_map.mp hkc
      have hva := valueAt_in hS9.kd hj1
      have hnp1 : npOf j1.k (view c) = j1.np := npOf_view hS9.kd hj1
      have hl1 := dsucc_len (xs := j.sc.take i) (st := (gNp j.k (fun _ => -2) (view (pre ++ j :: post)), rk))
      rw [← hi1.length, List.length_take] at hl1
      have hz : rv1.length < 90 := by dsimp only at hl1; omega
      obtain ⟨pre1, post1, rfl⟩ := List.append_of_mem hj1
      obtain ⟨⟨_, _, _⟩, ⟨_, _, _⟩, ⟨_, _, _⟩, ⟨_, _, _⟩, q5, q6, q7⟩ := SW.split hS9.less
      have q8 : R ≠ j1.a := (SW.split hS9).2.2.2.2.1 (R, listOf #[] 0) (List.mem_append_right _ (.head _))
      have q9 : R ≠ j1.d := (SW.split hS9).2.2.2.2.2.1 (R, listOf #[] 0) (List.mem_append_right _ (.head _))
      have q10 : R ≠ j1.l := (SW.split hS9).2.2.2.2.2.2 (R, listOf #[] 0) (List.mem_append_right _ (.head _))
      have hS10 := hS9
      obtain ⟨⟨_, _, _⟩, o2⟩ := hS10.offs
      have o3 : ∀ p ∈ nled (pre1 ++ post1) ++ restY, p.1 ≠ R := by
        intro p hp
        refine o2 p ?_
        rcases List.mem_append.mp hp with hp | hp
        · refine List.mem_append_left _ ?_
          rw [nled_append, nled_cons]
          rw [nled_append] at hp
          rcases List.mem_append.mp hp with hp | hp
          · exact List.mem_append_left _ hp
          · exact List.mem_append_right _ (List.mem_append_right _ hp)
        · exact List.mem_append_right _ hp
      have N10 := news_focus4 N9
      clear N9 N8 N7 hod ho7
      have hstep : (j.sc.take (i + 1)).foldl dsucc (gNp j.k (fun _ => -2) (view (pre ++ j :: post)), rk) = (gNp j1.k (· - 1) (view (pre1 ++ j1 :: post1)), if j1.np - 1 = 0 then ((j.sc.take i).foldl dsucc (gNp j.k (fun _ => -2) (view (pre ++ j :: post)), rk)).2 ++ [j1.k] else ((j.sc.take i).foldl dsucc (gNp j.k (fun _ => -2) (view (pre ++ j :: post)), rk)).2) := by
        rw [take_succ_foldG hk2]
        generalize (j.sc.take i).foldl dsucc (gNp j.k (fun _ => -2) (view (pre ++ j :: post)), rk) = st at hv1 ⊢
        unfold dsucc
        rw [← hv1, npOf_gNp (by rw [view_keys]; exact hkc), hnp1]
      ((try (with_reducible refine pin_postA ?_; intros)); k_steps)
      · rename Fr _ _ _ _ => F11
        rename News _ _ _ _ => N11
        rename j1.np - 1 = 0 => hz0
        obtain ⟨ns2, N12, hS12, ho12, hv12, hm12⟩ := refocus_np4 N11 hS9.less hod1
        replace hv12 := hv12 (fun x => x - 1) rfl
        replace hS12 := hS12 _ hS9
        rw [hrY] at hS12 N12
        refine for_end (ns2, rv1 ++ [.int j1.k tv1], rn1 + 1) F11 N12 ?_ ?_ hS12.offR (by simp) ?_ ⟨ho12, ?_, hm12 _ _ _ hmL1, ?_, ?_⟩
        · walk_at "sub0"
        · walk_at "sub"
        · walk_at "same3"
        · exact hS12.swap.less
        · rw [hstep]; dsimp only; rw [if_pos hz0]; exact ints_snoc hi1
        · rw [hstep]; exact hv12
      · rename Fr _ _ _ _ => F11
        rename News _ _ _ _ => N11
        rename j1.np - 1 ≠ 0 => hz0
        obtain ⟨ns2, N12, hS12, ho12, hv12, hm12⟩ := refocus_np4 N11 hS9.less hod1
        replace hv12 := hv12 (fun x => x - 1) rfl
        replace hS12 := hS12 _ hS9
        rw [hrY] at hS12 N12
        refine for_end (ns2, rv1, rn1) F11 N12 ?_ ?_ hS12.offR (by simp) ?_ ⟨ho12, ?_, hm12 _ _ _ hmL1, ?_, ?_⟩
        · walk_at "sub0"
        · walk_at "sub"
        · walk_at "same3"
        · exact hS12.swap.less
        · rw [hstep]; dsimp only; rw [if_neg hz0]; exact hi1
        · rw [hstep]; exact hv12
    · rintro ⟨c, rv1, rn1⟩ u1 h1 tk1 ⟨hod1, hS1, hmL1, hi1, hv1⟩ F8 N8
      dsimp only at *
      obtain ⟨⟨_, _, _⟩, o2⟩ := hS1.offs
      have o5 := hS1.less.a2
      have o6 := hS1.less.ne1
      have o7 := hS1.less.ne3
      clear N7
      ((try (with_reducible refine pin_postA ?_; intros)); k_steps)
      rename Fr _ _ _ _ => F11
      rename News _ _ _ _ => N11
      obtain ⟨tt, N12⟩ : ∃ tt, News _ _ _ ((R, listOf rv1.toArray rn1) :: sL w D Dd n2i t1 t2 t3 t4 (.ref R) v3 (.int (fi + 1) tt) od c restX) := ⟨_, N11⟩
      rw [hrX] at hS1 N12
      rw [List.take_of_length_le (by omega)] at hi1 hv1
      refine for_end (c, rv1, rn1, fi + 1, tt) F11 N12 ?_ ?_ hS1.offR (by simp) ?_ (.inr ⟨by first | trivial | rfl, hod1, hS1.swap.less, ?_, ?_⟩)
      · walk_at "sub0"
      · walk_at "sub"
      · walk_at "same3"
      · unfold doneG; rw [hjs]; exact hi1
      · unfold doneG; rw [hjs]; exact hv1
  · intro c u h tk hJ F3 N3
    dsimp only at F3 N3
    rcases hJ with ⟨h1, _⟩ | ⟨_, h2, h3, h4, h5⟩
    · simp at h1
    clear F1 N2
    ((try (with_reducible refine pin_postA ?_; intros)); k_steps)
    rename Fr _ _ _ _ => kF
    rename News _ _ _ _ => kN
    subst hrT
    exact hret _ _ _ _ _ _ _ kF (news_join (news_cons kN).1 (news_less (news_cons kN).2)) h2 h3.swap.less h4 h5

theorem anew_H_turn : True := by w_top off; first | (walk1; done) | trivial
/-! defs whose try catches: the frames below get other slots, the base turns -/
noncomputable def LeaveT (fs : List Addr) (A₀ : Around) (base : Heap) (outer : List Env) (K : Frag) (p : Program) (loose : List Str) (mean : ExcName → Option Value) (mg mb : Str → Option Value) (h₀ : Heap) (L : Addr) (m : Str → Option Value) (g : Heap) (R : Result → Shared → Prop) (v : Value) (s' : Shared) : Prop :=
  ∃ g' L' m' news', KtsTurn fs g g' ∧ Fr g' L' s'.heap m' ∧ News g' L' s'.heap news' ∧ ∀ h₀', KtsTurn (outer.filterMap (·.frame)) h₀ h₀' → Fr h₀' L s'.heap m → News h₀' L s'.heap news' → Below A₀ base outer h₀' → K.In h₀' → Top p loose mean mg mb h₀' → R (.ok (.ret v)) s'
section
variable {prog : Program} {w : World} {A₀ A : Around} {s : Shared} {base h₀ : Heap} {outer : List Env} {L : Addr} {m : Str → Option Value} {env : Env} {news : List (Addr × Obj)} {K : Frag} {p : Program} {loose : List Str} {mean : ExcName → Option Value} {mg mb : Str → Option Value}
    {R : Result → Shared → Prop} {name qual : Str} {params : Arguments} {body : List Stmt} {scope : Scope} {dV kV doc pm cdv ct oc : Value} {an od : Option Addr} {osl : Array (Option Value)} {f : Addr} {args : Args} {binds : List (Str × Value)}
theorem turn_mem {env : Env} {L b : Addr} {outer : List Env} (hf : env.frame = some L) (hm : b ∈ (env :: outer).filterMap (·.frame)) : b = L ∨ b ∈ outer.filterMap (·.frame) := by
  obtain ⟨e, he, hb⟩ := List.mem_filterMap.mp hm
  rcases List.mem_cons.mp he with rfl | he
  · rw [hf] at hb; exact .inl (Option.some.inj hb).symm
  · exact .inr (List.mem_filterMap.mpr ⟨e, he, hb⟩)
theorem code_defT (B : Below A₀ base outer h₀) (F : Fr h₀ L s.heap m) (X₀ : K.In h₀) (N : News h₀ L s.heap news) (T : Top p loose mean mg mb h₀) (XB : K.In base) (TB : Top p loose mean mg mb base)
    (hA : A.frames = some (env :: outer)) (hf : env.frame = some L) (hke : env.scope.kind = .function)
    (ho : K.lookup f = some ⟨oc, od, .func (fnOf name qual params body scope dV kV doc pm an cdv ct), osl⟩) (hcd : codeIn K cdv qual = true) (hroom : A.depth < recursionLimit)
    (hbind : BindsTo s (fnOf name qual params body scope dV kV doc pm an cdv ct) args binds) (hloc : ∀ y ∈ binds, scope.names.lookup y.1 = some .local)
    (h : ∀ g L' h₁, Fr h₀ L g m → Fr g L' h₁ (fun y => binds.reverse.lookup y) → News g L' h₁ news → Below A base (env :: outer) g → K.In g → Top p loose mean mg mb g →
      wpAny (model prog w) (A.deeper (envOf qual scope L' f cdv)) (execs body (envOf qual scope L' f cdv))
        (fun fl s' => LeaveT ((env :: outer).filterMap (·.frame)) A₀ base outer K p loose mean mg mb h₀ L m g R (match fl with | .ret v => v | _ => .none) s')
        (fun e s' => wpAny (model prog w) (A.deeper (envOf qual scope L' f cdv)) (leaving (envOf qual scope L' f cdv) e) (fun _ s'' => R (.error e) s'') (fun e' s'' => R (.error e') s'') s')
        { s with heap := h₁, toks := s.toks + binds.length })
    (hco : scope.isCoroutine = false) (hgen : scope.isGenerator = false) (hk : scope.kind = .function)
    (hcell : ∀ x ∈ scope.names, x.2 ≠ .cell) : codeAny (model prog w) A (.call (.ref f) args) R s := by
  have X := X₀.keeps F.keep
  obtain ⟨FG, BG, st, -⟩ := groundX (R := R) B F N hA hf hke
  refine codeAny_call_def (fd := fnOf name qual params body scope dV kV doc pm an cdv ct) (body := body) (binds := binds) hroom (X _ _ ho) rfl (T.nolimit.keeps F.keep) (codeRec_of X hcd) rfl hbind hcell hloc (fun h₁ hns hk₁ => ?_) hco hgen hk
  refine wpAny_mono (h _ s.heap.objs.size h₁ FG ⟨hns, fun b o e => hk₁ b o (of_hideAll _ e), Nat.le_of_eq (hideAll_size _ _)⟩
    (fun p hp => ⟨hk₁ _ _ (N p hp).1, Nat.ne_of_lt (Heap.lt_size (N p hp).1), hideAll_none _ (List.mem_map_of_mem hp)⟩) BG (X₀.keeps st) (T.keeps st)) (fun fl s' hl => ?_) fun _ _ y => y
  have nL₀ : h₀.get? L = none := kts_self F
  obtain ⟨oL, es, ep, hLg, hLd, hLk, hLf⟩ := FG.ns
  obtain ⟨g', L', m', news', T', F', N', k⟩ := hl
  obtain ⟨sl, hs⟩ := T'.up hLg
  obtain ⟨T₁, S₁⟩ := kts_turn_at (h := s'.heap) (fs := outer.filterMap (·.frame)) (g := h₀)
    (fun b hb => by
      obtain ⟨_, o, ho', _⟩ := B.frames.mem hb
      exact ⟨o, ho'⟩)
    (fun b o e nmem => F'.keep b o (T'.other b o (st b o e) (fun q => by
      rcases turn_mem hf q with z | z
      · rw [z, nL₀] at e
        cases e
      · exact nmem z)))
    (fun b o e hm => by
      obtain ⟨sl', hs'⟩ := T'.up (st b o e)
      exact ⟨sl', F'.keep _ _ hs'⟩)
  have B₃ : Below A₀ base outer (ktsHeap s'.heap (outer.filterMap (·.frame)) h₀) := ⟨B.stack, fun b o e => T₁.other b o (B.stays b o e) (fun hm => by
    rw [(B.frames.mem hm).1] at e
    cases e), B.frames.of_keeps fun b o e _ => by
    obtain ⟨sl', hs'⟩ := T₁.up e
    exact ⟨_, hs', rfl⟩⟩
  refine k _ T₁ ⟨⟨_, es, ep, F'.keep _ _ hs, hLd, hLk, hLf⟩, S₁, by rw [T₁.size]; exact F.above⟩ (fun p hp => ⟨(N' p hp).1, fun q => ?_, ?_⟩) B₃ (XB.keeps B₃.stays) (TB.keeps B₃.stays)
  · have := (N' p hp).2.2; rw [q, hs] at this; cases this
  · refine T₁.none_ _ ?_
    cases q : h₀.get? p.1 with
    | none => rfl
    | some o =>
      obtain ⟨sl', hs'⟩ := T'.up (st _ _ q)
      have := (N' p hp).2.2
      rw [hs'] at this
      cases this
end
section
variable {prog : Program} {w : World} {A₀ : Around} {E : Value → Shared → Prop} {s' : Shared} {base g h : Heap} {outer : List Env} {L a e : Addr} {m : Str → Option Value} {name : Str} {scope : Scope} {cd : Value}
  {b₀ : Stmt} {suite : List Stmt} {pos np : Pos} {rest : List ExceptHandler} {Q : Flow → Shared → Prop} {news : List (Addr × Obj)} {KF : Frag}
  {p : Program} {loose : List Str} {mean : ExcName → Option Value} {mg mb : Str → Option Value} {x : Str} {X T' : String}
structure NewX (h h' : Heap) (e : Addr) (cls : String) : Prop where
  keeps : ∀ b o, h.get? b = some o → h'.get? b = some o
  new : h.get? e = none
  there : ∃ ob vs t, h'.get? e = some ob ∧ ob.cls = .type cls ∧ ob.data = .fields vs ∧ vs[1]? = some .none ∧ vs[0]? = some t
theorem caught_new (hx₀ : NewX h s'.heap e X) (F : Fr g L h m) (N : News g L h news) (K : Below A₀ base outer g) (XB : KF.In base) (TB : Top p loose mean mg mb base)
    (ex : nsIn KF mainGlobals x = some none) (hv : bootBuiltins x = some (.type T')) (hn' : x ≠ "__name__")
    (hexc : isSubtype (.type T') (.type "BaseException") = pure true) (hnt : isSubtype (.type ((Manifest.find? T').elim "type" fun y => y.metatype)) (.type "tuple") = pure false) (hsub : isSubtype (.type X) (.type T') = pure true)
    (k : ∀ h' g', KtsTurn (outer.filterMap (·.frame)) g g' → Fr g' L h' m → News g' L h' news → Below A₀ base outer g' → KF.In g' → Top p loose mean mg mb g' →
      wpAny (model prog w) ((A₀.deeper (envOf name scope L a cd)).mark (some (.ref e))) (execs (b₀ :: suite) (envOf name scope L a cd)) Q E { s' with heap := h' })
    (hk : scope.kind = .function := by rfl) (hx : (envOf name scope L a cd).kindOf x = some .globalImplicit := by rfl) (hd : (x == ("__debug__" : Str)) = false := by decide)
    (hE : PassesOwnAt (model prog w) ((A₀.deeper (envOf name scope L a cd)).mark (some (.ref e))) (A₀.deeper (envOf name scope L a cd)) (envOf name scope L a cd) E := by passes_own) :
    wpAny (model prog w) (A₀.deeper (envOf name scope L a cd)) (noteFrame (.ref e) (envOf name scope L a cd))
      (fun _ s₂ => wpAny (model prog w) (A₀.deeper (envOf name scope L a cd)) (setFlight (.ref e) none) (fun _ s₃ =>
        wpAny (model prog w) (A₀.deeper (envOf name scope L a cd)) (handleBy (.ref e) (envOf name scope L a cd) (.ExceptHandler (some (.Name x np)) none (b₀ :: suite) pos :: rest)) Q E s₃) E s₂) E s' := by
  have K' := K.push (name := name) (a := a) (cd := cd) F hk
  have hin : ∀ env ∈ (envOf name scope L a cd :: outer), ∀ b, env.frame = some b → b ∈ (envOf name scope L a cd :: outer).filterMap (·.frame) := fun env he b hb => List.mem_filterMap.mpr ⟨env, he, hb⟩
  have hBG : ∀ b o, h.get? b = some o → b ∉ (envOf name scope L a cd :: outer).filterMap (·.frame) → (hideAll h ((envOf name scope L a cd :: outer).filterMap (·.frame))).get? b = some o := fun b o q nm => hideAll_get _ q nm
  have hl : ∀ q ∈ news, (hideAll h ((envOf name scope L a cd :: outer).filterMap (·.frame))).get? q.1 = some q.2 ∧ g.get? q.1 = none := fun q hq => by
    refine ⟨hideAll_get _ (N q hq).1 fun hm => ?_, (N q hq).2.2⟩
    obtain ⟨env, he, hf⟩ := List.mem_filterMap.mp hm
    rcases List.mem_cons.mp he with rfl | he
    · exact (N q hq).2.1 (Option.some.inj hf).symm
    · obtain ⟨o, ho, _⟩ := (K.frames.mem (List.mem_filterMap.mpr ⟨env, he, hf⟩)).2
      rw [(N q hq).2.2] at ho; cases ho
  obtain ⟨ob, evs, tp, he, hcls, hd', hv1, hv0⟩ := hx₀.there
  have hen : (hideAll h ((envOf name scope L a cd :: outer).filterMap (·.frame))).get? e = none := by
    cases q : (hideAll h ((envOf name scope L a cd :: outer).filterMap (·.frame))).get? e with
    | none => rfl
    | some o => have := of_hideAll _ q; rw [hx₀.new] at this; cases this
  have hL : (hideAll h ((envOf name scope L a cd :: outer).filterMap (·.frame))).get? L = none := hideAll_none _ (by simp [envOf])
  unfold noteFrame
  dsimp only [envOf]
  refine wpAny_bind (wpAny_field he hd' (x := .none) hv1 ?_)
  rw [if_neg (by decide)]
  refine wpAny_newEntryW (base := hideAll h ((envOf name scope L a cd :: outer).filterMap (·.frame))) (env := envOf name scope L a cd) (outer := outer) (a0 := tp) K'.stack ((funFrames_hide K'.frames hin).of_keeps fun b o hb _ => ⟨o, hx₀.keeps b o hb, rfl⟩) rfl he (fun b o hb => hx₀.keeps b o (of_hideAll _ hb)) hen hd' (Array.getElem?_eq_some_iff.mp hv1).1 hv0 fun h₅ hL5 => ?_
  obtain ⟨k1, k2, k3, k4⟩ := hL5
  rw [hcls] at k3
  have hfl : Heap.FlyingW (hideAll h ((envOf name scope L a cd :: outer).filterMap (·.frame))) (envOf name scope L a cd :: outer) e (.type X) tp h₅ := ⟨k1, hen, k2, k3⟩
  have hsm5 : h.UpToSlots h₅ := (Heap.UpToSlots.of_keeps hx₀.keeps).trans k4
  obtain ⟨g₅, T₅, F₅, K₅⟩ := kts_ground K F hBG hfl.1 hsm5
  have X₅ : KF.In g₅ := XB.keeps K₅.stays
  have P₅ : TopRead p loose mg mb g₅ := topRead_of (TB.keeps K₅.stays)
  obtain ⟨ob, hob, hobc⟩ := hfl.there
  refine wpAny_handleBy_builtin (X := X) (T := T') (b := true) hexc hnt hsub (name_B F₅ X₅ P₅ ex hv hn' ⟨rfl, ⟨ob, hob, hobc⟩, ?_⟩ hk hx hd)
  refine lands_againW hfl fun h₆ hfl₆ hsm₆ => ?_
  obtain ⟨g₆, T₆, F₆, K₆⟩ := kts_ground K F hBG hfl₆.1 (hsm5.trans hsm₆)
  have Nl : News g₆ L h₆ news := fun q hq => ⟨hfl₆.1 _ _ (hl q hq).1, (fun z => by have := (hl q hq).1; rw [z, hL] at this; cases this), T₆.none_ _ (hl q hq).2⟩
  exact wpAny_passesOwnAt hE (k h₆ g₆ T₆ F₆ Nl K₆ (XB.keeps K₆.stays) (TB.keeps K₆.stays))
end
/-! loops whose base may turn: it is a part of the state -/
noncomputable def EndT {σ : Type} (Bs : σ → Heap) (L : Addr) (s : Shared) (Led : σ → List (Addr × Obj)) (ps : σ → List (Str × Value)) (stored : List Str) (m₀ : Str → Option Value) (P : σ → Prop) (s₂ : Shared) : Prop :=
  ∃ (c' : σ) (h' : Heap) (tk : Nat) (m' : Str → Option Value) (news' : List (Addr × Obj)), s₂ = { s with heap := h', toks := tk } ∧ Fr (Bs c') L h' m' ∧ News (Bs c') L h' news' ∧ (∀ p ∈ Led c', p ∈ news') ∧ (∀ p ∈ ps c', m' p.1 = some p.2) ∧ (∀ z, (∀ p ∈ ps c', z ≠ p.1) → stored.contains z = false → m' z = m₀ z) ∧ P c'
noncomputable def PostT {σ : Type} (Bs : σ → Heap) (L : Addr) (s : Shared) (Led : σ → List (Addr × Obj)) (ps : σ → List (Str × Value)) (stored : List Str) (m₀ : Str → Option Value) (P : σ → Prop) (Q : Flow → Shared → Prop) (f : Flow) (s₂ : Shared) : Prop :=
  match f with
  | .ret v => Q (.ret v) s₂
  | .brk => Q .next s₂
  | _ => EndT Bs L s Led ps stored m₀ P s₂
theorem endT {σ : Type} {Bs : σ → Heap} {L : Addr} {s : Shared} {Led : σ → List (Addr × Obj)} {ps : σ → List (Str × Value)} {stored : List Str} {m₀ m' : Str → Option Value} {P : σ → Prop} {h' : Heap} {tk : Nat} {news' : List (Addr × Obj)} (c' : σ)
    (F : Fr (Bs c') L h' m') (N : News (Bs c') L h' news') (hn : ∀ p ∈ Led c', p ∈ news') (hk : ∀ p ∈ ps c', m' p.1 = some p.2) (hr : ∀ z, (∀ p ∈ ps c', z ≠ p.1) → stored.contains z = false → m' z = m₀ z) (hp : P c') : EndT Bs L s Led ps stored m₀ P { s with heap := h', toks := tk } :=
  ⟨c', h', tk, m', news', rfl, F, N, hn, hk, hr, hp⟩
section
variable {prog : Program} {w : World} {A : Around} {E : Value → Shared → Prop} {Q : Flow → Shared → Prop} {s : Shared} {env : Env} {L : Addr}
theorem wh_T {σ : Type} {test : Expr} {body orelse : List Stmt} {pos : Pos} {m₀ : Str → Option Value} (Bs : σ → Heap) (Led : σ → List (Addr × Obj)) (ps : σ → List (Str × Value)) (stored : List Str) (P : σ → Prop) (μ : σ → Nat) (c₀ : σ)
    (F : Fr (Bs c₀) L s.heap m₀) (N : News (Bs c₀) L s.heap (Led c₀)) (hk : ∀ p ∈ ps c₀, m₀ p.1 = some p.2) (hp : P c₀)
    (turn : ∀ (c : σ) (u : Str → Option Value) h tk, P c → Fr (Bs c) L h (kstB (fun z => if stored.contains z then u z else m₀ z) (ps c)) → News (Bs c) L h (Led c) →
      wpAny (model prog w) A (isTrue test env (eval test env)) (fun b s₂ =>
        if b = true then wpAny (model prog w) A (execs body env) (PostT Bs L s Led ps stored m₀ (fun c' => P c' ∧ μ c' < μ c) Q) E s₂ else wpAny (model prog w) A (execs orelse env) Q E s₂) E { s with heap := h, toks := tk })
    (hE : PassesOwn (model prog w) A env E := by passes_own) :
    wpAny (model prog w) A (exec (.While test body orelse pos) env) Q E s := by
  refine wpAny_While (codeAny_whileLoop (fun n s' => ∃ (c : σ) (h : Heap) (tk : Nat) (m : Str → Option Value), s' = { s with heap := h, toks := tk } ∧ Fr (Bs c) L h m ∧ News (Bs c) L h (Led c) ∧ (∀ p ∈ ps c, m p.1 = some p.2) ∧ (∀ z, (∀ p ∈ ps c, z ≠ p.1) → stored.contains z = false → m z = m₀ z) ∧ P c ∧ μ c = n) ?_ (μ c₀) ⟨c₀, s.heap, s.toks, m₀, rfl, F, N, hk, fun _ _ _ => rfl, hp, rfl⟩)
  rintro n s' ⟨c, h, tk, m, rfl, F₁, N₁, h1, h2, hp₁, rfl⟩
  refine wpAny_mono (turn c m h tk hp₁ (ksw_fr h1 h2 F₁) N₁) (fun b s₂ h₂ => ?_) hE
  cases b with
  | false =>
    simp only [Bool.false_eq_true, if_false] at h₂ ⊢
    exact wpAny_passesOwn hE h₂
  | true =>
    simp only [if_true] at h₂ ⊢
    refine wpAny_mono h₂ (fun f s₃ h₃ => ?_) hE
    cases f with
    | next =>
      obtain ⟨c', h', tk', m', news', rfl, F', N', hn, hk', hr', hp', hμ⟩ := h₃
      exact ⟨μ c', hμ, c', h', tk', m', rfl, F', fun p hp => N' p (hn p hp), hk', hr', hp', rfl⟩
    | cont =>
      obtain ⟨c', h', tk', m', news', rfl, F', N', hn, hk', hr', hp', hμ⟩ := h₃
      exact ⟨μ c', hμ, c', h', tk', m', rfl, F', fun p hp => N' p (hn p hp), hk', hr', hp', rfl⟩
    | brk => exact h₃
    | ret v => exact h₃
/-- a for over any walker; I is the iterator -/
theorem for_T {σ : Type} {I : Addr} {fs : List Addr} {n : Nat} {P : Nat → Value → Prop} {St : Nat → Heap → Prop} {m₀ : Str → Option Value} {x : Str} {px : Pos} {body : List Stmt} (W : Walks prog w A I (I :: fs) [I] n P St)
    (hx : env.kindOf x = some .local) (hpk : (env.scope.kind == .class || (env.scope.kind == .module && env.locals != env.globals)) = false)
    (Bs : σ → Heap) (Led : σ → List (Addr × Obj)) (ps : σ → List (Str × Value)) (stored : List Str) (J : Nat → σ → Prop) (c₀ : σ)
    (hlive : ∀ i h, St i h → ∃ o, h.get? I = some o) (hfs : ∀ b ∈ fs, ∃ o, ∀ i c, J i c → (b, o) ∈ Led c)
    (hI : ∀ i c, J i c → (Bs c).get? I = none) (hL : env.locals ≠ I) (hoff : ∀ p ∈ Led c₀, p.1 ≠ I) (hst : St 0 s.heap) (F : Fr (Bs c₀) env.locals s.heap m₀) (N : News (Bs c₀) env.locals s.heap (Led c₀)) (hk : ∀ p ∈ ps c₀, m₀ p.1 = some p.2) (hJ : J 0 c₀)
    (turn : ∀ i v (c : σ) (u : Str → Option Value) h tk oI, i < n → P i v → J i c → (∀ p ∈ Led c, p.1 ≠ I) →
      Fr (Bs c) env.locals h (fun y => if y = x then some v else kstB (fun z => if stored.contains z then u z else m₀ z) (ps c) y) → News (Bs c) env.locals h ((I, oI) :: Led c) →
      wpAny (model prog w) A (execs body env) (PostT Bs env.locals s (fun c => (I, oI) :: Led c) ps (x :: stored) m₀ (fun c' => J (i + 1) c' ∧ ∀ p ∈ Led c', p.1 ≠ I) Q) E { s with heap := h, toks := tk })
    (done : ∀ (c : σ) (u : Str → Option Value) h tk, J n c → Fr (Bs c) env.locals h (fun y => if y = x then u y else kstB (fun z => if stored.contains z then u z else m₀ z) (ps c) y) → News (Bs c) env.locals h (Led c) → Q .next { s with heap := h, toks := tk })
    (hE : PassesOwn (model prog w) A env E := by passes_own) :
    codeAny (model prog w) A (.forLoop (.Name x px) (.ref I) body [] env) (fun r s' => match r with | .ok f => Q f s' | .error e => cameBackBy (model prog w) A env E e s') s := by
  have stx : ∀ {m : Str → Option Value} {c : σ}, (∀ z, (∀ p ∈ ps c, z ≠ p.1) → (x :: stored).contains z = false → m z = m₀ z) → ∀ z, z ≠ x → (∀ p ∈ ps c, z ≠ p.1) → stored.contains z = false → m z = m₀ z := by
    intro m c h z h1 h2 h3
    refine h z h2 ?_
    rw [List.contains_cons, h3, Bool.or_false]
    exact beq_false_of_ne h1
  refine codeAny_forLoop (fun k s' => ∃ (i : Nat) (c : σ) (h : Heap) (tk : Nat) (m : Str → Option Value), s' = { s with heap := h, toks := tk } ∧ i ≤ n ∧ k = n + 1 - i ∧ St i h ∧ Fr (Bs c) env.locals h m ∧ News (Bs c) env.locals h (Led c) ∧ (∀ p ∈ Led c, p.1 ≠ I) ∧ (∀ p ∈ ps c, m p.1 = some p.2) ∧ (∀ z, (∀ p ∈ ps c, z ≠ p.1) → (x :: stored).contains z = false → m z = m₀ z) ∧ J i c) ?_ (n + 1)
    ⟨0, c₀, s.heap, s.toks, m₀, rfl, Nat.zero_le _, rfl, hst, F, N, hoff, hk, fun _ _ _ => rfl, hJ⟩
  rintro k s' ⟨i, c, h, tk, m, rfl, hi, rfl, hst₁, F₁, N₁, hoff₁, h1, h2, hJ₁⟩
  by_cases hlt : i < n
  · refine W.item i _ _ _ hlt hst₁ fun v h₂ tk₂ hP hst₂ hk₂ => ?_
    have F₂ := LCg.fr_but F₁ hk₂ hL (hI _ _ hJ₁)
    have N₂ := LCg.news_but N₁ hk₂ hoff₁
    refine wpAny_assign_Name (wpAny_storeName_local hx F₂.ns (fun h₃ hn₃ hs₃ => ?_) hpk)
    have F₃ := F₂.set hn₃ hs₃
    have N₃ := N₂.set hs₃
    have hst₃ : St (i + 1) h₃ := W.frame _ _ _ hst₂ fun b hb o e => by
      refine (hs₃.2 b fun q => ?_).trans e
      rcases List.mem_cons.mp hb with hb | hb
      · exact hL (q.symm.trans hb)
      · obtain ⟨o', ho'⟩ := hfs b hb
        exact (N₁ _ (ho' i c hJ₁)).2.1 q
    obtain ⟨oI, hoI⟩ := hlive _ _ hst₃
    have N₄ : News (Bs c) env.locals h₃ ((I, oI) :: Led c) := fun p hp => by
      rcases List.mem_cons.mp hp with rfl | hp
      · exact ⟨hoI, Ne.symm hL, hI _ _ hJ₁⟩
      · exact N₃ p hp
    refine wpAny_passesOwn hE (wpAny_mono (turn i v c m h₃ _ oI hlt hP hJ₁ hoff₁ (kst_fr h1 (stx h2) F₃) N₄) (fun f s₃ h₃' => ?_) fun _ _ x => x)
    have fin : EndT Bs env.locals s (fun c => (I, oI) :: Led c) ps (x :: stored) m₀ (fun c' => J (i + 1) c' ∧ ∀ p ∈ Led c', p.1 ≠ I) s₃ → ∃ m_1, m_1 < n + 1 - i ∧ ∃ i c h tk m, s₃ = { s with heap := h, toks := tk } ∧ i ≤ n ∧ m_1 = n + 1 - i ∧ St i h ∧ Fr (Bs c) env.locals h m ∧ News (Bs c) env.locals h (Led c) ∧ (∀ p ∈ Led c, p.1 ≠ I) ∧ (∀ p ∈ ps c, m p.1 = some p.2) ∧ (∀ z, (∀ p ∈ ps c, z ≠ p.1) → (x :: stored).contains z = false → m z = m₀ z) ∧ J i c := by
      rintro ⟨c', h', tk', m', news', rfl, F', N', hn, hk', hr', hp', ho'⟩
      refine ⟨n + 1 - (i + 1), by omega, i + 1, c', h', tk', m', rfl, hlt, rfl, ?_, F', fun p hp => N' p (hn p (.tail _ hp)), ho', hk', hr', hp'⟩
      refine W.frame _ _ _ hst₃ fun b hb o e => ?_
      rcases List.mem_cons.mp hb with rfl | hb
      · rw [hoI] at e
        cases e
        exact (N' _ (hn _ (.head _))).1
      · obtain ⟨o', ho'⟩ := hfs b hb
        have e1 := (N₃ _ (ho' i c hJ₁)).1
        rw [e] at e1
        cases e1
        exact (N' _ (hn _ (.tail _ (ho' (i + 1) c' hp')))).1
    cases f with
    | ret v => exact h₃'
    | brk => exact h₃'
    | next => exact fin h₃'
    | cont => exact fin h₃'
  · obtain rfl : i = n := Nat.le_antisymm hi (Nat.not_lt.mp hlt)
    refine W.done _ _ _ hst₁ fun h₂ tk₂ hk₂ => ?_
    have F₂ := LCg.fr_but F₁ hk₂ hL (hI _ _ hJ₁)
    have N₂ := LCg.news_but N₁ hk₂ hoff₁
    exact wpAny_execs_nil (done c m h₂ tk₂ hJ₁ (kst_frOut h1 (stx h2) F₂) N₂)
end
section
variable {prog : Program} {w : World} {A : Around} {E : Value → Shared → Prop} {Q : Flow → Shared → Prop} {s : Shared} {env : Env}
noncomputable def LoopT (prog : Program) (w : World) (A : Around) (env : Env) (x : Str) (px : Pos) (body : List Stmt) (Q : Flow → Shared → Prop) (E : Value → Shared → Prop) (it : Value) (s₂ : Shared) : Prop :=
  codeAny (model prog w) A (.forLoop (.Name x px) it body [] env) (fun r s' => match r with | .ok f => Q f s' | .error e => cameBackBy (model prog w) A env E e s') s₂
theorem For_T {x : Str} {px pos : Pos} {iter : Expr} {body : List Stmt} (h : wpAny (model prog w) A (eval iter env) (fun xv s₁ => wpAny (model prog w) A (pyIter xv) (fun it s₂ => LoopT prog w A env x px body Q E it s₂) E s₁) E s)
    (hs : ∀ x, foldedSetIterable iter env x = pure x := by intro _; rfl) : wpAny (model prog w) A (exec (.For (.Name x px) iter body [] pos) env) Q E s := wpAny_For h hs
theorem iterT_keys {σ : Type} {l : Addr} {od : Obj} {kvs : List (Int × Value)} {m₀ : Str → Option Value} {x : Str} {px : Pos} {body : List Stmt} (Bs : σ → Heap) (Led : σ → List (Addr × Obj)) (ps : σ → List (Str × Value)) (stored : List Str) (J : Nat → σ → Prop) (c₀ : σ) (hh : A.handled = none)
    (hx : env.kindOf x = some .local) (hpk : (env.scope.kind == .class || (env.scope.kind == .module && env.locals != env.globals)) = false)
    (hod : od.IsDictOf (PySem.intKind prog w) kvs) (hlo : (l == sysModules) = false) (hB : ∀ i c, J i c → ∀ b, (Bs c₀).get? b = none → (Bs c).get? b = none)
    (hmem : ∀ i c, J i c → (l, od) ∈ Led c) (F : Fr (Bs c₀) env.locals s.heap m₀) (N : News (Bs c₀) env.locals s.heap (Led c₀)) (hk : ∀ p ∈ ps c₀, m₀ p.1 = some p.2) (hJ : J 0 c₀)
    (turn : ∀ (i : Nat) k v t (c : σ) (u : Str → Option Value) h tk (I : Nat) oI, kvs[i]? = some (k, v) → J i c → (∀ p ∈ Led c, p.1 ≠ I) →
      Fr (Bs c) env.locals h (fun y => if y = x then some (.int k t) else kstB (fun z => if stored.contains z then u z else m₀ z) (ps c) y) → News (Bs c) env.locals h ((I, oI) :: Led c) →
      wpAny (model prog w) A (execs body env) (PostT Bs env.locals s (fun c => (I, oI) :: Led c) ps (x :: stored) m₀ (fun c' => J (i + 1) c' ∧ ∀ p ∈ Led c', p.1 ≠ I) Q) E { s with heap := h, toks := tk })
    (done : ∀ (c : σ) (u : Str → Option Value) h tk, J kvs.length c → Fr (Bs c) env.locals h (fun y => if y = x then u y else kstB (fun z => if stored.contains z then u z else m₀ z) (ps c) y) → News (Bs c) env.locals h (Led c) → Q .next { s with heap := h, toks := tk })
    (hE : PassesOwn (model prog w) A env E := by passes_own) :
    wpAny (model prog w) A (pyIter (.ref l)) (fun it s₂ => LoopT prog w A env x px body Q E it s₂) E s := by
  obtain ⟨ep, ha⟩ := KdkAt.of hod
  have hg := (N _ (hmem 0 _ hJ)).1
  have hlI : l ≠ s.heap.objs.size := Nat.ne_of_lt (Heap.lt_size hg)
  refine wpAny_pyIter_dict hlo (ha.dictAt hg) ?_
  refine for_T (s := { s with heap := s.heap.push _ }) (fs := [l]) (Walks.dictKeys (knd := PySem.intKind prog w) hh _ l hlI kvs ep) hx hpk Bs Led ps stored J c₀ (fun i h st => ?_) (fun b hb => ?_) (fun i c hc => hB i c hc _ (Mine.Fr.fresh F)) (Nat.ne_of_lt (Mine.Fr.lt F)) N.apart ?_ (F.push _) (N.pushKeep _) hk hJ ?_ ?_ hE
  · obtain ⟨o, ho, _⟩ := st.1; exact ⟨o, ho⟩
  · rw [List.mem_singleton.mp hb]; exact ⟨_, hmem⟩
  · exact ⟨⟨_, Heap.get?_push_size _ rfl, rfl, rfl⟩, ha.dictAt (Heap.get?_push_of_some _ hg)⟩
  · rintro i v c u h tk oI hi ⟨k, x, hx, hv⟩ hJ' ho F' N'
    obtain ⟨t, e⟩ := PySem.Value.isInt_shape hv
    subst e
    exact turn i k x t c u h tk _ oI hx hJ' ho F' N'
  · intro c u h tk hJ' F' N'
    exact done c u h tk hJ' F' N'
theorem cut_execs {st : Stmt} {rest : List Stmt} (R1 : Shared → Prop) (h1 : wpAny (model prog w) A (exec st env) (fun f s' => f = .next ∧ R1 s') E s) (h2 : ∀ s', R1 s' → wpAny (model prog w) A (execs rest env) Q E s') : wpAny (model prog w) A (execs (st :: rest) env) Q E s := by
  refine wpAny_execs_cons (wpAny_mono h1 (fun f s' h => ?_) fun _ _ x => x)
  obtain ⟨rfl, h⟩ := h
  exact h2 s' h
end

theorem anew_H_mw : True := by w_top off; first | (walk1; done) | trivial
/-! iter(xs).__next__ as a value, and its call -/
theorem mw_slot_ga : Slot "list_iterator" "__getattribute__" "object.__getattribute__" :=
  .of (owner := "object") (n := "__getattribute__") (by rw [typeLookup_type, builtinLookup_eq_fast]; kernel_rfl) (by decide +kernel) (by decide +kernel) (by decide +kernel)
    (by first | exact .inl (by decide +kernel) | exact .inr (by decide +kernel)) (by rw [isSubtype_type]; kernel_rfl)
theorem mw_entry_ga : entryFor table "object.__getattribute__" = some Builtin.«object.__getattribute__» := entryFor_of_tree (by kernel_rfl)
theorem mw_args_ga (a b : Value) : argsOk "object.__getattribute__" ⟨[a, b], []⟩ := by unfold argsOk; kernel_rfl
theorem mw_lk : typeLookup (.type "list_iterator") "__next__" = pure (some (.builtin "list_iterator.__next__")) := by rw [typeLookup_type, builtinLookup_eq_fast]; kernel_rfl
theorem mw_type : typeOf (.builtin "list_iterator.__next__") = pure (.type "wrapper_descriptor") := by kernel_rfl
theorem mw_slot_get : Slot "wrapper_descriptor" "__get__" "wrapper_descriptor.__get__" :=
  .of (owner := "wrapper_descriptor") (n := "__get__") (by rw [typeLookup_type, builtinLookup_eq_fast]; kernel_rfl) (by decide +kernel) (by decide +kernel) (by decide +kernel)
    (by first | exact .inl (by decide +kernel) | exact .inr (by decide +kernel)) (by rw [isSubtype_type]; kernel_rfl)
theorem mw_no_set : typeLookup (.type "wrapper_descriptor") "__set__" = pure none := by rw [typeLookup_type, builtinLookup_eq_fast]; kernel_rfl
theorem mw_no_del : typeLookup (.type "wrapper_descriptor") "__delete__" = pure none := by rw [typeLookup_type, builtinLookup_eq_fast]; kernel_rfl
theorem mw_entry_get : entryFor table "wrapper_descriptor.__get__" = some Builtin.«wrapper_descriptor.__get__» := entryFor_of_tree (by kernel_rfl)
theorem mw_args_get (a b c : Value) : argsOk "wrapper_descriptor.__get__" ⟨[a, b, c], []⟩ := by unfold argsOk; kernel_rfl
theorem mw_sub_owner : isSubtype (.type "list_iterator") (.type (".".intercalate ("list_iterator.__next__".cutAt '.').dropLast)) = pure true := by
  rw [show ".".intercalate ("list_iterator.__next__".cutAt '.').dropLast = "list_iterator" from by decide +kernel, isSubtype_type]; kernel_rfl
section
variable {prog : Program} {w : World} {A : Around} {E : Value → Shared → Prop} {h : Heap} {g : Array GenState} {d : Drawn} {t : Nat} {os : OsState} {a : Addr} {o : Obj}
set_option maxRecDepth 100000 in
theorem mw_get {R : Result → Shared → Prop} (hx : h.get? a = some o) (hc : o.cls = .type "list_iterator") (hq : R (.ok (.ret (.ref h.objs.size))) ⟨h.push { cls := .type "method-wrapper", data := .fields #[.builtin "list_iterator.__next__", .ref a] }, g, d, t, os⟩) :
    codeAny (model prog w) A (.call (.builtin "wrapper_descriptor.__get__") ⟨[.builtin "list_iterator.__next__", .ref a, .type "list_iterator"], []⟩) R ⟨h, g, d, t, os⟩ := by
  have hT : (⟨h, g, d, t, os⟩ : Shared).TypeIs (.ref a) "list_iterator" := ⟨_, hx, hc⟩
  have hT5 : (⟨h, g, d, t, os⟩ : Shared).TypeIs (.builtin "list_iterator.__next__") "wrapper_descriptor" := mw_type
  have f8 := mw_sub_owner
  refine codeAny_call_builtin mw_slot_get.plain mw_entry_get (mw_slot_get.check _ _ _ _ _ _ _ _ hT5 (mw_args_get _ _ _) ?_)
  repeat (any_goals (first | assumption | wp_step))
set_option maxRecDepth 100000 in
theorem mw_entry {tk : Tok} {fs : Array Value} {Q : Fin → Shared → Prop} (hx : h.get? a = some { cls := .type "list_iterator", data := .fields fs }) (hq : Q (.done (.ret (.ref h.objs.size))) ⟨h.push { cls := .type "method-wrapper", data := .fields #[.builtin "list_iterator.__next__", .ref a] }, g, d, t, os⟩) :
    wpAny (model prog w) A (Builtin.«object.__getattribute__» ⟨[.ref a, .str "__next__" tk], []⟩) Q E ⟨h, g, d, t, os⟩ := by
  have hT : (⟨h, g, d, t, os⟩ : Shared).TypeIs (.ref a) "list_iterator" := ⟨_, hx, rfl⟩
  have hT5 : (⟨h, g, d, t, os⟩ : Shared).TypeIs (.builtin "list_iterator.__next__") "wrapper_descriptor" := mw_type
  have f4 := mw_lk
  have f5 := mw_type
  have f6 := mw_slot_get.lookup
  have f7 := mw_no_set
  have f8 := mw_no_del
  repeat (any_goals (first | assumption | wp_step))
  refine mw_get hx rfl ?_
  exact wpAny_pure hq
theorem mw_call {tk : Tok} {fs : Array Value} {R : Result → Shared → Prop} (hx : h.get? a = some { cls := .type "list_iterator", data := .fields fs }) (hq : R (.ok (.ret (.ref h.objs.size))) ⟨h.push { cls := .type "method-wrapper", data := .fields #[.builtin "list_iterator.__next__", .ref a] }, g, d, t, os⟩) :
    codeAny (model prog w) A (.call (.builtin "object.__getattribute__") ⟨[.ref a, .str "__next__" tk], []⟩) R ⟨h, g, d, t, os⟩ :=
  codeAny_call_builtin mw_slot_ga.plain mw_entry_ga (mw_slot_ga.check _ _ _ _ _ _ _ _ (show (⟨h, g, d, t, os⟩ : Shared).TypeIs (.ref a) "list_iterator" from ⟨_, hx, rfl⟩) (mw_args_ga _ _) (mw_entry hx hq))
set_option maxRecDepth 100000 in
theorem mw_attr {fs : Array Value} {Q : Value → Shared → Prop} (hx : h.get? a = some { cls := .type "list_iterator", data := .fields fs }) (hq : Q (.ref h.objs.size) ⟨h.push { cls := .type "method-wrapper", data := .fields #[.builtin "list_iterator.__next__", .ref a] }, g, d, t + 1, os⟩) :
    wpAny (model prog w) A (getAttr (.ref a) "__next__" true) Q E ⟨h, g, d, t, os⟩ := by
  have hT : (⟨h, g, d, t, os⟩ : Shared).TypeIs (.ref a) "list_iterator" := ⟨_, hx, rfl⟩
  have f2 := mw_slot_ga.lookup
  have f3 := mw_slot_ga.bind (.ref a)
  unfold getAttr
  repeat (any_goals (first | assumption | wp_step))
  refine mw_call hx ?_
  dsimp only
  rw [handedOut_of rfl]
  exact wpAny_pure hq
end
noncomputable abbrev itObj (l : Addr) (p : Nat) : Obj := { cls := .type "list_iterator", data := .fields #[.ref l, .int p 0] }
noncomputable abbrev mwObj (I : Addr) : Obj := { cls := .type "method-wrapper", data := .fields #[.builtin "list_iterator.__next__", .ref I] }
theorem mw_check (I : Addr) : checkBoundCall "list_iterator.__next__" ⟨[.ref I], []⟩ = pure () := by first | rfl | kernel_rfl
theorem mw_plain : plainId "list_iterator.__next__" = true := by decide +kernel
section
variable {prog : Program} {w : World} {A : Around} {E : Value → Shared → Prop} {s : Shared} {I M l : Addr}
theorem mw_run {Q : Value → Shared → Prop} (hM : s.heap.get? M = some (mwObj I))
    (h : wpAny (model prog w) A.in1 (Builtin.«list_iterator.__next__» ⟨[.ref I], []⟩) (fun f s' => match f with | .done (.ret v) => Q v s' | _ => False) E s) : wpAny (model prog w) A (call (.ref M) []) Q E s := by
  refine wpAny_call (codeAny_of_tree ?_)
  show wpAny _ _ (callAny (.ref M) _) _ _ _
  refine nd_load hM ?_
  show wpAny _ _ (do checkBoundCall "list_iterator.__next__" ⟨[.ref I], []⟩; again (.builtin "list_iterator.__next__" ⟨[.ref I], []⟩)) _ _ _
  refine wpAny_bind (wpAny_of_eq (mw_check I) (wpAny_pure ⟨plainId_quiet mw_plain _, codeAny_builtin entry_listiter_next ?_⟩))
  rw [Around.under_plainId mw_plain _]
  refine wpAny_mono h (fun f s' q => ?_) fun e s' q => q
  cases f with
  | done fl => cases fl with
    | ret v => exact q
    | _ => exact q.elim
  | again c => exact q.elim
variable {h₀ : Heap} {L : Addr} {m : Str → Option Value} {news : List (Addr × Obj)} {g : Obj → List (Addr × Obj)} {vs : List Value} {n p : Nat} {x : Value}
theorem mw_item {Q : Value → Shared → Prop} (F : Fr h₀ L s.heap m) (N : News h₀ L s.heap news) (hM : (M, mwObj I) ∈ news) (U : UpdF I (itObj l p) news g) (hl : (l, listOf vs.toArray n) ∈ news) (hx : vs[p]? = some x)
    (h : ∀ h', Fr h₀ L h' m → News h₀ L h' (g (itObj l (p + 1))) → Q x { s with heap := h' }) : wpAny (model prog w) A (call (.ref M) []) Q E s := by
  refine mw_run (N _ hM).1 ?_
  obtain ⟨pre, post, rfl, hg, a, b⟩ := U.split
  have z := N (I, itObj l p) (List.mem_append_right _ (.head _))
  have hol := (N _ hl).1
  show wpAny _ _ (field (.ref I) 0 >>= _) _ _ s
  refine wpAny_bind (wpAny_field z.1 rfl (x := .ref l) rfl ?_)
  show wpAny _ _ (if (Value.ref l == Value.none) = true then _ else _) _ _ s
  rw [if_neg (show ¬ ((Value.ref l == Value.none) = true) from Bool.false_ne_true)]
  show wpAny _ _ (field (.ref I) 1 >>= _) _ _ s
  refine wpAny_bind (wpAny_field z.1 rfl (x := .int p 0) rfl ?_)
  show wpAny _ _ (seqItems? (.ref l) >>= _) _ _ s
  refine wpAny_bind (wpAny_seqItems hol rfl ?_)
  simp only [Int.toNat_natCast, List.getElem?_toArray, hx]
  refine wpAny_bind (wpAny_setField z.1 rfl (by simp) (wpAny_pure (h _ (F.change (Heap.SameBut.update ..) z.2.1 z.2.2) ?_)))
  rw [hg]
  refine news_set N a b (Heap.SameBut.update ..) ((Heap.get?_update_self _ z.1 (Obj.isFreed_of_fields (Obj.data_mapFields rfl _))).trans ?_)
  simp [rawInt, Obj.mapFields]
theorem mw_end {Q : Value → Shared → Prop} (hh : A.handled = none) (F : Fr h₀ L s.heap m) (N : News h₀ L s.heap news) (hM : (M, mwObj I) ∈ news) (U : UpdF I (itObj l p) news g) (hl : (l, listOf vs.toArray n) ∈ news) (hx : vs[p]? = none)
    (h : ∀ h₁ h' e oI, Fr h₀ L h₁ m → News h₀ L h₁ (g oI) → NewX h₁ h' e "StopIteration" → E (.ref e) { s with heap := h' }) : wpAny (model prog w) A (call (.ref M) []) Q E s := by
  refine mw_run (N _ hM).1 ?_
  obtain ⟨pre, post, rfl, hg, a, b⟩ := U.split
  have z := N (I, itObj l p) (List.mem_append_right _ (.head _))
  have hol := (N _ hl).1
  show wpAny _ _ (field (.ref I) 0 >>= _) _ _ s
  refine wpAny_bind (wpAny_field z.1 rfl (x := .ref l) rfl ?_)
  show wpAny _ _ (if (Value.ref l == Value.none) = true then _ else _) _ _ s
  rw [if_neg (show ¬ ((Value.ref l == Value.none) = true) from Bool.false_ne_true)]
  show wpAny _ _ (field (.ref I) 1 >>= _) _ _ s
  refine wpAny_bind (wpAny_field z.1 rfl (x := .int p 0) rfl ?_)
  show wpAny _ _ (seqItems? (.ref l) >>= _) _ _ s
  refine wpAny_bind (wpAny_seqItems hol rfl ?_)
  simp only [Int.toNat_natCast, List.getElem?_toArray, hx]
  refine wpAny_bind (wpAny_rule (wpAny_bind (wpAny_setField z.1 rfl (by simp) ?_)))
  show wpAny _ _ (newExc (.type "StopIteration") [] >>= _) _ _ _
  refine wpAny_bind ?_
  simp only [newExc, newTuple]
  refine wpAny_bind (wpAny_newObj_type ?_ (by size_fits))
  refine wpAny_bind (m := firstArgMember _ _) (wpAny_of_eq (a := Value.none) (by first | rfl | (simp only [firstArgMember]; rfl)) ?_)
  refine wpAny_newObj_type ?_ (by size_fits)
  simp only [raiseNew]
  refine wpAny_bind (wpAny_handled ?_)
  rw [show A.in1.handled = none from hh]
  refine wpAny_bind (wpAny_pure (wpAny_throw (h (s.heap.update I (Obj.mapFields (·.setIfInBounds 0 .none))) _ _ _ (F.change (Heap.SameBut.update ..) z.2.1 z.2.2) (by rw [hg]; exact news_set N a b (Heap.SameBut.update ..) (Heap.get?_update_self _ z.1 (Obj.isFreed_of_fields (Obj.data_mapFields rfl _)))) ?_)))
  refine ⟨fun b o e => Heap.get?_push_of_some _ (Heap.get?_push_of_some _ e), ?_, ⟨_, _, _, Heap.get?_push_size _ rfl, rfl, rfl, rfl, rfl⟩⟩
  refine Heap.get?_none_of_le ?_
  rw [Heap.size_push]
  omega
end
theorem next_attr {prog : Program} {w : World} {A : Around} {E : Value → Shared → Prop} {s : Shared} {h₀ : Heap} {L I l : Addr} {m : Str → Option Value} {news : List (Addr × Obj)} {p : Nat} {Q : Value → Shared → Prop}
    (F : Fr h₀ L s.heap m) (N : News h₀ L s.heap news) (hm : (I, itObj l p) ∈ news) (h : ∀ (M : Addr) h' tk, Fr h₀ L h' m → News h₀ L h' ((M, mwObj I) :: news) → (∀ p ∈ news, p.1 < M) → Q (.ref M) { s with heap := h', toks := tk }) :
    wpAny (model prog w) A (getAttr (.ref I) (Str.ofString "__next__") true) Q E s := by
  obtain ⟨hp, g, d, t, os⟩ := s
  exact mw_attr (N _ hm).1 (h _ _ _ (F.push _) (News.push F N _ rfl) (fun q hq => Heap.lt_size (N q hq).1))
theorem iter_l {prog : Program} {w : World} {A : Around} {E : Value → Shared → Prop} {s : Shared} {h₀ : Heap} {L l : Addr} {m : Str → Option Value} {news : List (Addr × Obj)} {vs : List Value} {n : Nat} {Q : Value → Shared → Prop}
    (F : Fr h₀ L s.heap m) (N : News h₀ L s.heap news) (hp : (l, listOf vs.toArray n) ∈ news)
    (h : ∀ (I : Addr) h', Fr h₀ L h' m → News h₀ L h' ((I, itObj l 0) :: news) → (∀ p ∈ news, p.1 < I) → Q (.ref I) { s with heap := h' }) :
    wpAny (model prog w) A (call (.builtin "iter") [.ref l]) Q E s := by
  refine Calls.call_function_entry (by decide +kernel) (by decide +kernel) kdk_entry_iter (kdk_args_iter _) ?_
  unfold Builtin.«iter»
  refine wpAny_bind (m := someArgs "iter" 1 2 _) (wpAny_of_eq (a := [Value.ref l]) (by first | rfl | kernel_rfl!) ?_)
  show wpAny _ _ (pyIter (.ref l) >>= _) _ _ _
  refine wpAny_bind (wpAny_pyIter_list (items := vs.toArray) ⟨_, (N _ hp).1, rfl, _, rfl⟩ ?_)
  exact wpAny_pure ⟨_, rfl, h _ _ (F.push _) (News.push F N _ rfl) (fun q hq => Heap.lt_size (N q hq).1)⟩
theorem item_last {prog : Program} {w : World} {A : Around} {E : Value → Shared → Prop} {s : Shared} {h₀ : Heap} {L l : Addr} {news : List (Addr × Obj)} {vs : List Value} {y : Value} {n : Nat} {u : Tok} {value slice : Expr} {Q : Value → Shared → Prop}
    (N : News h₀ L s.heap news) (hm : (l, listOf (vs ++ [y]).toArray n) ∈ news) (h : Q y s)
    (hs : subscripted slice false (.ref l) (.int (-1) u) = operate [.ref l, .int (-1) u] (getItem (.ref l) (.int (-1) u)) := by with_unfolding_all rfl) : wpAny (model prog w) A (subscriptTail value slice (.ref l) (.int (-1) u)) Q E s :=
  have hl : s.heap.IsList l (vs ++ [y]).toArray := ⟨_, (N _ hm).1, rfl, _, rfl⟩
  tail_any hl.typeIs slot_list_getitem.lookup (wpAny_getItem_list_neg hl (by decide) (by simp; omega) (by decide) (by
    have e : ((-1 : Int) + ((vs ++ [y]).toArray.size : Int)).toNat = vs.length := by simp; omega
    rw [e]; simp) h) hs
theorem truthy_snoc {prog : Program} {w : World} {A : Around} {E : Value → Shared → Prop} {s : Shared} {h₀ : Heap} {L l : Addr} {news : List (Addr × Obj)} {vs : List Value} {y : Value} {n : Nat} {Q : Bool → Shared → Prop}
    (N : News h₀ L s.heap news) (hm : (l, listOf (vs ++ [y]).toArray n) ∈ news) (hz : vs.length < 1000) (h : ∀ tk, Q true { s with toks := tk }) : wpAny (model prog w) A (truthy (.ref l)) Q E s :=
  wpAny_truthy_list (items := (vs ++ [y]).toArray) ⟨_, (N _ hm).1, rfl, _, rfl⟩ (by simp; omega) (by
    have e : (!(vs ++ [y]).toArray.isEmpty) = true := by simp
    rw [e]; exact h _)
theorem callWith_W0 {Mo : Model} {A : Around} {E : Value → Shared → Prop} {s : Shared} {h₀ : Heap} {L M I : Addr} {news : List (Addr × Obj)} {env : Env} {pos : Pos} {Q : Value → Shared → Prop} (N : News h₀ L s.heap news) (hm : (M, mwObj I) ∈ news)
    (h : wpAny Mo A (call (.ref M) []) Q E s) : wpAny Mo A (callWith pos (.ref M) [] (backTo pos (starEach [] env)) []) Q E s :=
  callWith_of (P := fun h => h.get? M = some (mwObj I)) rfl (fun h X => ⟨.machine, .inr (.inl rfl), (Looks.ld (part := none) X).andThen .now⟩) (evalArgs_nil3 ⟨(N _ hm).1, h⟩)

theorem anew_H_cycle : True := by w_top off; first | (walk1; done) | trivial
section Priv
local macro_rules | `(tactic| walk_at "exec For") => `(tactic| (k_here; (with_reducible show wpAny _ _ (exec (Stmt.For (Expr.Name _ _) _ _ [] _) _) _ _ _); (with_unfolding_all refine For_T ?_)))
local macro_rules | `(tactic| walk_at "pyIter ref") => `(tactic| ((with_reducible show wpAny _ _ (pyIter (Value.ref _)) (fun it s₂ => LoopT _ _ _ _ _ _ _ _ _ it s₂) _ _); with_reducible refine stop_in ?_))
local macro_rules | `(tactic| walk_at "execs cons") => `(tactic| ((with_reducible show wpAny _ _ (execs [Stmt.If _ _ _ _, Stmt.While _ _ _ _] _) _ _ _); with_reducible refine stop_in ?_))
structure IT where
  I : Nat
  M : Nat
  i : NI
  p : Nat
noncomputable def IT.led (t : IT) : List (Addr × Obj) := [(t.I, itObj t.i.l t.p), (t.M, mwObj t.I)]
noncomputable def itled (ts : List IT) : List (Addr × Obj) := ts.flatMap IT.led
structure CS where
  g : Heap
  sv : List Value
  sn : Nat
  ts : List IT
  inn : Nat
  so : Obj
  S : Int → Bool
  sc : Nat
  oN : Obj
  kv : List (Int × Value)
  node : Int
  nt : Tok
structure CP (w : World) (A₀ : Around) (base : Heap) (outer : List Env) (p : Program) (loose : List Str) (mean : ExcName → Option Value) (mg mb : Str → Option Value) (g₀ : Heap) (D Dd n2i sS iS eS nS : Nat) (ns : List NI) (rank : Int → Nat) (rest : List (Addr × Obj)) (c : CS) : Prop where
  tu : KtsTurn (outer.filterMap (·.frame)) g₀ c.g
  be : Below A₀ base outer c.g
  kx : (Mine.hd.heap_1 w.params).In c.g
  tp : Top p loose mean mg mb c.g
  sw : SW D Dd n2i ns ((sS, listOf #[] 0) :: (iS, listOf #[] 0) :: (eS, listOf #[] 0) :: (nS, listOf #[] 0) :: (itled c.ts ++ rest))
  ia : IntsAre c.sv (c.ts.map (·.i.k))
  dk : c.oN.IsDictOf (PySem.intKind PySem.Challenge.rw_mg0054_01.row.prog w) c.kv
  kk : c.kv.map (·.1) = c.ts.map (·.i.k)
  se : c.so.SetObjOf (PySem.intKind PySem.Challenge.rw_mg0054_01.row.prog w) c.S c.sc
  sz : c.sc ≤ (ns.filter (fun i => c.S i.k)).length
  tl : c.ts.length ≤ c.sc
  tm : ∀ t ∈ c.ts, t.i ∈ ns ∧ t.p ≤ t.i.sc.length ∧ c.S t.i.k = true
  tr : c.ts.Pairwise (fun a b => rank a.i.k < rank b.i.k)
noncomputable def cμ (ns : List NI) (c : CS) : Nat := ((ns.filter (fun i => !c.S i.k)).map (fun i => i.sc.length + 1)).sum + (c.ts.map (fun t => t.i.sc.length - t.p)).sum
noncomputable abbrev cLed (w : World) (D Dd n2i sS iS eS nS : Nat) (t1 t2 t3 t4 : Tok) (v2 v3 v4 : Value) (od : Obj) (ns : List NI) (rest : List (Addr × Obj)) (c : CS) : List (Addr × Obj) :=
  (sS, listOf c.sv.toArray c.sn) :: (iS, listOf (c.ts.map (fun t => Value.ref t.M)).toArray c.inn) :: (eS, c.so) :: (nS, c.oN) :: sL w D Dd n2i t1 t2 t3 t4 v2 v3 v4 od ns (itled c.ts ++ rest)
set_option hygiene false in
local macro_rules | `(tactic| walk_at "i:iter") => `(tactic| (intro I' h' F' N' lI'; (try k_lt lI'); (try k_sweep)))
local macro_rules | `(tactic| walk_at "call builtin:iter") => `(tactic| (k_here; (with_reducible show wpAny _ _ (call (Value.builtin "iter") [Value.ref _]) _ _ _); k_dflt (refine' iter_l (by k_asm) (by k_asm) (by k_mem) ?_); walk_at "i:iter"))
set_option hygiene false in
local macro_rules | `(tactic| walk_at "i:next") => `(tactic| (intro M' h' tk' F' N' lM'; (try k_lt lM'); (try k_sweep)))
local macro_rules | `(tactic| walk_at "getAttr ref") => `(tactic| (k_here; (with_reducible show wpAny _ _ (getAttr (Value.ref _) (Str.ofString "__next__") _) _ _ _); k_dflt (refine' next_attr (by k_asm) (by k_asm) (by k_mem) ?_); walk_at "i:next"))
local macro_rules | `(tactic| walk_at "subscriptTail") => `(tactic| (k_here; (with_reducible show wpAny _ _ (subscriptTail _ _ (Value.ref _) (Value.int (-1) _)) _ _ _); k_dflt (refine item_last (by k_asm) (by k_mem) ?_)))
local macro_rules | `(tactic| walk_at "truthy ref") => `(tactic| (k_here; k_dflt (refine' truthy_snoc (by k_asm) (by k_mem) (by omega) ?_); intro tk'))
local macro_rules | `(tactic| walk_at "delItem ref int") => `(tactic| (k_here; k_dflt (refine' kob_del (knd := PySem.intKind _ _) (by k_asm) (by k_asm) (by k_updF) (by with_reducible assumption) (intKind_is _ _ _ _) (by with_reducible assumption) (by rw [sizeLine_eq]; omega) ?_); intro h' o' F' N' hd'; (try dsimp only at N')))
local macro_rules | `(tactic| walk_at "callWith ref") => `(tactic| (k_here; (with_reducible show wpAny _ _ (callWith _ (Value.ref (IT.M _)) _ _ _) _ _ _); k_dflt (refine callWith_W0 (by k_asm) (by k_mem) ?_)))
local macro_rules | `(tactic| walk_at "call ref") => `(tactic| ((with_reducible show wpAny _ _ (call (Value.ref (IT.M _)) _) _ _ _); with_reducible refine stop_in ?_))
theorem Fr.tok {g h : Heap} {L : Addr} {k : Str} {m : Str → Option Value} {x : Int} {t : Tok} (F : Fr g L h (fun y => if y = k then some (.int x t) else m y)) : ∃ t', Fr g L h (fun y => if y = k then some (.int x t') else m y) := ⟨t, F⟩
theorem Fr.named {g h : Heap} {L : Addr} {m : Str → Option Value} (F : Fr g L h m) : ∃ m3, m3 = m ∧ Fr g L h m3 := ⟨m, rfl, F⟩
set_option hygiene false in
local macro_rules | `(tactic| walk_at "names") => `(tactic| first | exact rfl | exact n1 | exact n2 | exact n3 | exact n4 | exact n5)
local macro_rules | `(tactic| walk_at "eval Name") => `(tactic| (k_here; k_dflt (refine' ld (by k_asm) (by walk_at "names") ?_)))
local macro_rules | `(tactic| walk_at "compareOp In int ref") => `(tactic| (k_here; k_dflt (refine kda_in (knd := PySem.intKind _ _) (by k_asm) (by k_mem) (by with_reducible assumption) (by with_reducible assumption) (intKind_is _ _ _ _) _ (by with_reducible assumption) ?_)))
section
variable {D Dd n2i x sS iS eS nS : Nat} {ns : List NI} {o o1 o2 o3 : Obj} {r r' r1 r2 : List (Addr × Obj)}
theorem SW.perm (h : SW D Dd n2i ns r) (hp : r.Perm r') : SW D Dd n2i ns r' :=
  ⟨(List.Perm.cons _ (List.Perm.cons _ (List.Perm.cons _ (List.Perm.map _ (List.Perm.append_left _ hp))))).nodup_iff.mp h.nd, h.kd, h.it⟩
theorem SW.insert (h : SW D Dd n2i ns (r1 ++ r2)) (l : ∀ p ∈ ((D, o1) :: (Dd, o2) :: (n2i, o3) :: (nled ns ++ (r1 ++ r2))), p.1 ≠ x) : SW D Dd n2i ns (r1 ++ (x, o) :: r2) :=
  (SW.more2 h l).perm List.perm_middle.symm
theorem SW.remove {q : Addr × Obj} (h : SW D Dd n2i ns (r1 ++ q :: r2)) : SW D Dd n2i ns (r1 ++ r2) := (h.perm List.perm_middle).less
theorem SW.four (h : SW D Dd n2i ns ((sS, o) :: (iS, o) :: (eS, o) :: (nS, o) :: r)) :
    ((D ≠ sS ∧ Dd ≠ sS ∧ n2i ≠ sS) ∧ (D ≠ iS ∧ Dd ≠ iS ∧ n2i ≠ iS) ∧ (D ≠ eS ∧ Dd ≠ eS ∧ n2i ≠ eS) ∧ (D ≠ nS ∧ Dd ≠ nS ∧ n2i ≠ nS) ∧ sS ≠ iS ∧ sS ≠ eS ∧ sS ≠ nS ∧ iS ≠ eS ∧ iS ≠ nS ∧ eS ≠ nS) ∧
    (∀ p ∈ nled ns ++ r, p.1 ≠ sS) ∧ (∀ p ∈ nled ns ++ r, p.1 ≠ iS) ∧ (∀ p ∈ nled ns ++ r, p.1 ≠ eS) ∧ (∀ p ∈ nled ns ++ r, p.1 ≠ nS) := by
  obtain ⟨a1, a2⟩ := h.offs
  obtain ⟨b1, b2⟩ := h.less.offs
  obtain ⟨c1, c2⟩ := h.less.less.offs
  obtain ⟨d1, d2⟩ := h.less.less.less.offs
  have m : ∀ {p q : Addr × Obj} {l : List (Addr × Obj)}, p ∈ nled ns ++ l → p ∈ nled ns ++ q :: l := fun hp => by
    rcases List.mem_append.mp hp with hp | hp
    · exact List.mem_append_left _ hp
    · exact List.mem_append_right _ (.tail _ hp)
  have f : ∀ {q : Addr × Obj} {l : List (Addr × Obj)}, q ∈ nled ns ++ q :: l := List.mem_append_right _ (.head _)
  exact ⟨⟨a1, b1, c1, d1, Ne.symm (a2 (iS, o) f), Ne.symm (a2 (eS, o) (m f)), Ne.symm (a2 (nS, o) (m (m f))), Ne.symm (b2 (eS, o) f), Ne.symm (b2 (nS, o) (m f)), Ne.symm (c2 (nS, o) f)⟩,
    fun p hp => a2 p (m (m (m hp))), fun p hp => b2 p (m (m hp)), fun p hp => c2 p (m hp), d2⟩
end
theorem CP.rest {w : World} {A₀ : Around} {base : Heap} {outer : List Env} {p : Program} {loose : List Str} {mean : ExcName → Option Value} {mg mb : Str → Option Value} {g₀ : Heap} {D Dd n2i sS iS eS nS : Nat} {ns : List NI} {rank : Int → Nat} {rest rest' : List (Addr × Obj)} {c : CS}
    (h : CP w A₀ base outer p loose mean mg mb g₀ D Dd n2i sS iS eS nS ns rank rest c) (hs : SW D Dd n2i ns ((sS, listOf #[] 0) :: (iS, listOf #[] 0) :: (eS, listOf #[] 0) :: (nS, listOf #[] 0) :: (itled c.ts ++ rest'))) : CP w A₀ base outer p loose mean mg mb g₀ D Dd n2i sS iS eS nS ns rank rest' c :=
  ⟨h.tu, h.be, h.kx, h.tp, hs, h.ia, h.dk, h.kk, h.se, h.sz, h.tl, h.tm, h.tr⟩
theorem filt_cnt {ns : List NI} {S S' : Int → Bool} (hS : ∀ k, S k = true → S' k = true) {j : NI} (hj : j ∈ ns) (h1 : S j.k = false) (h2 : S' j.k = true) : (ns.filter (fun i => S i.k)).length + 1 ≤ (ns.filter (fun i => S' i.k)).length := by
  have mono : ∀ l : List NI, (l.filter (fun i => S i.k)).length ≤ (l.filter (fun i => S' i.k)).length := by
    intro l
    induction l with
    | nil => simp
    | cons a r ih =>
      simp only [List.filter_cons]
      cases ha : S a.k with
      | true => simp [hS _ ha]; exact ih
      | false =>
        cases ha' : S' a.k with
        | true => simp; (first | lia | omega)
        | false => simp; exact ih
  induction ns with
  | nil => cases hj
  | cons a r ih =>
    rcases List.mem_cons.mp hj with rfl | hj
    · simp only [List.filter_cons, h1, h2, if_true, Bool.false_eq_true, if_false, List.length_cons]
      have := mono r; (first | lia | omega)
    · have := ih hj
      simp only [List.filter_cons]
      cases ha : S a.k with
      | true => simp [hS _ ha]; (first | lia | omega)
      | false =>
        cases ha' : S' a.k with
        | true => simp; (first | lia | omega)
        | false => simp; (first | lia | omega)
theorem filt_sum {ns : List NI} {f : NI → Nat} {S S' : Int → Bool} (hS : ∀ k, S k = true → S' k = true) {j : NI} (hj : j ∈ ns) (h1 : S j.k = false) (h2 : S' j.k = true) : ((ns.filter (fun i => !S' i.k)).map f).sum + f j ≤ ((ns.filter (fun i => !S i.k)).map f).sum := by
  have mono : ∀ l : List NI, ((l.filter (fun i => !S' i.k)).map f).sum ≤ ((l.filter (fun i => !S i.k)).map f).sum := by
    intro l
    induction l with
    | nil => simp
    | cons a r ih =>
      simp only [List.filter_cons]
      cases ha : S a.k with
      | true => simp [hS _ ha]; exact ih
      | false =>
        cases ha' : S' a.k with
        | true => simp; (first | lia | omega)
        | false => simp; exact ih
  induction ns with
  | nil => cases hj
  | cons a r ih =>
    rcases List.mem_cons.mp hj with rfl | hj
    · simp only [List.filter_cons, h1, h2, Bool.not_true, Bool.not_false, if_true, Bool.false_eq_true, if_false, List.map_cons, List.sum_cons]
      have := mono r; (first | lia | omega)
    · have := ih hj
      simp only [List.filter_cons]
      cases ha : S a.k with
      | true => simp [hS _ ha]; (first | lia | omega)
      | false =>
        cases ha' : S' a.k with
        | true => simp; (first | lia | omega)
        | false => simp; (first | lia | omega)
theorem itled_snoc {ts : List IT} {t : IT} : itled (ts ++ [t]) = itled ts ++ t.led := by simp [itled]
section
variable {w : World} {A₀ : Around} {base : Heap} {outer : List Env} {p : Program} {loose : List Str} {mean : ExcName → Option Value} {mg mb : Str → Option Value} {g₀ : Heap} {D Dd n2i sS iS eS nS : Nat} {ns : List NI} {rank : Int → Nat} {rest : List (Addr × Obj)} {c : CS}
theorem CP.push (h : CP w A₀ base outer p loose mean mg mb g₀ D Dd n2i sS iS eS nS ns rank rest c) {j : NI} {I M : Nat} {tok : Tok} {sn inn : Nat} {so oN : Obj} {v : Value} (hj : j ∈ ns) (hn : c.S j.k = false) (hr : ∀ t ∈ c.ts, rank t.i.k < rank j.k)
    (hso : so.SetObjOf (PySem.intKind PySem.Challenge.rw_mg0054_01.row.prog w) (fun k' => c.S k' || decide (k' = j.k)) (if c.S j.k = true then c.sc else c.sc + 1)) (hoN : oN.IsDictOf (PySem.intKind PySem.Challenge.rw_mg0054_01.row.prog w) (PySem.stored c.kv j.k v))
    (hI : D < I ∧ Dd < I ∧ n2i < I ∧ sS < I ∧ iS < I ∧ eS < I ∧ nS < I ∧ bd (nled ns ++ (itled c.ts ++ rest)) ≤ I) (hM : I < M) :
    CP w A₀ base outer p loose mean mg mb g₀ D Dd n2i sS iS eS nS ns rank rest { c with sv := c.sv ++ [.int j.k tok], sn := sn, ts := c.ts ++ [⟨I, M, j, 0⟩], inn := inn, so := so, S := fun k' => c.S k' || decide (k' = j.k), sc := c.sc + 1, oN := oN, kv := c.kv ++ [(j.k, v)] } ∧
    cμ ns { c with sv := c.sv ++ [.int j.k tok], sn := sn, ts := c.ts ++ [⟨I, M, j, 0⟩], inn := inn, so := so, S := fun k' => c.S k' || decide (k' = j.k), sc := c.sc + 1, oN := oN, kv := c.kv ++ [(j.k, v)] } ≤ cμ ns c := by
  have hmono : ∀ k, c.S k = true → (fun k' => c.S k' || decide (k' = j.k)) k = true := fun k hk => by simp [hk]
  have hnk : j.k ∉ c.ts.map (·.i.k) := fun hm => by
    obtain ⟨t, ht, e⟩ := List.mem_map.mp hm
    have := hr t ht
    rw [e] at this
    exact Nat.lt_irrefl _ this
  refine ⟨⟨h.tu, h.be, h.kx, h.tp, ?_, ?_, ?_, ?_, ?_, ?_, ?_, ?_, ?_⟩, ?_⟩
  · obtain ⟨i1, i2, i3, i4, i5, i6, i7, i8⟩ := hI
    have hb := bd_lt i8
    have e : itled (c.ts ++ [⟨I, M, j, 0⟩]) ++ rest = itled c.ts ++ (I, itObj j.l 0) :: (M, mwObj I) :: rest := by rw [itled_snoc]; simp [IT.led]
    dsimp only
    rw [e]
    have s1 := SW.insert (r1 := (sS, listOf #[] 0) :: (iS, listOf #[] 0) :: (eS, listOf #[] 0) :: (nS, listOf #[] 0) :: itled c.ts) (r2 := rest) (x := M) (o := mwObj I) (o1 := mwObj I) (o2 := mwObj I) (o3 := mwObj I) h.sw (by
      intro q hq
      simp only [List.cons_append, List.mem_cons, List.mem_append] at hq
      have hb' : ∀ q, (q ∈ nled ns ∨ q ∈ itled c.ts ∨ q ∈ rest) → q.1 < I := fun q hq => hb q (by simpa using hq)
      rcases hq with rfl | rfl | rfl | hq | rfl | rfl | rfl | rfl | hq | hq
      all_goals first | exact Nat.ne_of_lt (by dsimp only; (first | lia | omega)) | exact Nat.ne_of_lt (Nat.lt_trans (hb' q (by simp [hq])) hM))
    refine SW.insert (r1 := (sS, listOf #[] 0) :: (iS, listOf #[] 0) :: (eS, listOf #[] 0) :: (nS, listOf #[] 0) :: itled c.ts) (r2 := (M, mwObj I) :: rest) (x := I) (o := itObj j.l 0) (o1 := mwObj I) (o2 := mwObj I) (o3 := mwObj I) s1 ?_
    intro q hq
    simp only [List.cons_append, List.mem_cons, List.mem_append] at hq
    have hb' : ∀ q, (q ∈ nled ns ∨ q ∈ itled c.ts ∨ q ∈ rest) → q.1 < I := fun q hq => hb q (by simpa using hq)
    rcases hq with rfl | rfl | rfl | hq | rfl | rfl | rfl | rfl | hq | rfl | hq
    all_goals first | exact Nat.ne_of_lt (by dsimp only; (first | lia | omega)) | exact Nat.ne_of_gt (by dsimp only; (first | lia | omega)) | exact Nat.ne_of_lt (hb' q (by simp [hq]))
  · simpa using ints_snoc (x := j.k) (t := tok) h.ia
  · rw [PyProof.Rows.stored_absent (PyProof.Rows.valueAt_none_of_not_mem (by rw [h.kk]; exact hnk))] at hoN; exact hoN
  · simp [h.kk]
  · dsimp only; rw [hn] at hso; exact hso
  · exact Nat.le_trans (Nat.succ_le_succ h.sz) (filt_cnt hmono hj hn (by simp))
  · simpa using h.tl
  · intro t ht
    rcases List.mem_append.mp ht with ht | ht
    · obtain ⟨a, b, e⟩ := h.tm t ht
      exact ⟨a, b, hmono _ e⟩
    · rw [List.mem_singleton.mp ht]; exact ⟨hj, Nat.zero_le _, by simp⟩
  · refine List.pairwise_append.mpr ⟨h.tr, by simp, fun a ha b hb => ?_⟩
    rw [List.mem_singleton.mp hb]; exact hr a ha
  · have e := filt_sum (f := fun i => i.sc.length + 1) hmono hj hn (by simp)
    simp only [cμ, List.map_append, List.sum_append, List.map_cons, List.map_nil, List.sum_cons, List.sum_nil]
    (first | lia | omega)
end
section
variable {w : World} {A₀ : Around} {base : Heap} {outer : List Env} {p : Program} {loose : List Str} {mean : ExcName → Option Value} {mg mb : Str → Option Value} {g₀ : Heap} {D Dd n2i sS iS eS nS : Nat} {ns : List NI} {rank : Int → Nat} {rest : List (Addr × Obj)} {c : CS}
theorem CP.into {t1 t2 t3 t4 : Tok} {v2 v3 v4 : Value} {od oI : Obj} {I : Nat} (h : CP w A₀ base outer p loose mean mg mb g₀ D Dd n2i sS iS eS nS ns rank rest c) (hoff : ∀ p ∈ cLed w D Dd n2i sS iS eS nS t1 t2 t3 t4 v2 v3 v4 od ns rest c, p.1 ≠ I) :
    CP w A₀ base outer p loose mean mg mb g₀ D Dd n2i sS iS eS nS ns rank ((I, oI) :: rest) c := h.rest (by
  refine SW.insert (r1 := (sS, listOf #[] 0) :: (iS, listOf #[] 0) :: (eS, listOf #[] 0) :: (nS, listOf #[] 0) :: itled c.ts) (o1 := oI) (o2 := oI) (o3 := oI) h.sw ?_
  have m4 : ∀ {q}, q ∈ sL w D Dd n2i t1 t2 t3 t4 v2 v3 v4 od ns (itled c.ts ++ rest) → q.1 ≠ I := fun hq => hoff _ (.tail _ (.tail _ (.tail _ (.tail _ hq))))
  intro q hq
  simp only [List.cons_append, List.mem_cons, List.mem_append] at hq
  rcases hq with rfl | rfl | rfl | hq | rfl | rfl | rfl | rfl | hq | hq
  · have := m4 (.head _); exact this
  · have := m4 (.tail _ (.head _)); exact this
  · have := m4 (.tail _ (.tail _ (.head _))); exact this
  · exact m4 (.tail _ (.tail _ (.tail _ (List.mem_append_left _ hq))))
  · have := hoff _ (.head _); exact this
  · have := hoff _ (.tail _ (.head _)); exact this
  · have := hoff _ (.tail _ (.tail _ (.head _))); exact this
  · have := hoff _ (.tail _ (.tail _ (.tail _ (.head _)))); exact this
  · exact m4 (.tail _ (.tail _ (.tail _ (List.mem_append_right _ (List.mem_append_left _ hq)))))
  · exact m4 (.tail _ (.tail _ (.tail _ (List.mem_append_right _ (List.mem_append_right _ hq))))))
theorem CP.outof {t1 t2 t3 t4 : Tok} {v2 v3 v4 : Value} {od oI : Obj} {I : Nat} (h : CP w A₀ base outer p loose mean mg mb g₀ D Dd n2i sS iS eS nS ns rank ((I, oI) :: rest) c) :
    CP w A₀ base outer p loose mean mg mb g₀ D Dd n2i sS iS eS nS ns rank rest c ∧ ∀ p ∈ cLed w D Dd n2i sS iS eS nS t1 t2 t3 t4 v2 v3 v4 od ns rest c, p.1 ≠ I := by
  have hp : SW D Dd n2i ns (((sS, listOf #[] 0) :: (iS, listOf #[] 0) :: (eS, listOf #[] 0) :: (nS, listOf #[] 0) :: itled c.ts) ++ (I, oI) :: rest) := h.sw
  refine ⟨h.rest (SW.remove hp), ?_⟩
  obtain ⟨⟨a1, a2, a3⟩, a4⟩ := (hp.perm List.perm_middle).offs
  intro q hq
  simp only [cLed, sL, List.mem_cons, List.mem_append] at hq
  rcases hq with rfl | rfl | rfl | rfl | rfl | rfl | rfl | hq | hq | hq
  · exact a4 (sS, listOf #[] 0) (by simp)
  · exact a4 (iS, listOf #[] 0) (by simp)
  · exact a4 (eS, listOf #[] 0) (by simp)
  · exact a4 (nS, listOf #[] 0) (by simp)
  · exact a1
  · exact a2
  · exact a3
  · exact a4 q (by simp [hq])
  · exact a4 q (by simp [hq])
  · exact a4 q (by simp [hq])
theorem CP.step (h : CP w A₀ base outer p loose mean mg mb g₀ D Dd n2i sS iS eS nS ns rank rest c) {ts0 : List IT} {t0 : IT} {x : Int} {xt : Tok} (ht : c.ts = ts0 ++ [t0]) (hl : t0.p < t0.i.sc.length) :
    CP w A₀ base outer p loose mean mg mb g₀ D Dd n2i sS iS eS nS ns rank rest { c with ts := ts0 ++ [{ t0 with p := t0.p + 1 }], node := x, nt := xt } ∧ cμ ns { c with ts := ts0 ++ [{ t0 with p := t0.p + 1 }], node := x, nt := xt } < cμ ns c := by
  have ek : (ts0 ++ [({ t0 with p := t0.p + 1 } : IT)]).map (fun t : IT => t.i.k) = c.ts.map (·.i.k) := by rw [ht]; simp
  refine ⟨⟨h.tu, h.be, h.kx, h.tp, ?_, by dsimp only; rw [ek]; exact h.ia, h.dk, by dsimp only; rw [ek]; exact h.kk, h.se, h.sz, ?_, ?_, ?_⟩, ?_⟩
  · refine ⟨?_, h.sw.kd, h.sw.it⟩
    have := h.sw.nd
    rw [ht, itled_snoc] at this
    dsimp only
    rw [itled_snoc]
    simpa [IT.led] using this
  · have := h.tl; rw [ht] at this; simpa using this
  · intro t hm
    rcases List.mem_append.mp hm with hm | hm
    · exact h.tm t (by rw [ht]; exact List.mem_append_left _ hm)
    · rw [List.mem_singleton.mp hm]
      have := h.tm t0 (by rw [ht]; simp)
      exact ⟨this.1, hl, this.2.2⟩
  · have := h.tr
    rw [ht] at this
    rw [List.pairwise_append] at this ⊢
    refine ⟨this.1, by simp, fun a ha b hb => ?_⟩
    rw [List.mem_singleton.mp hb]
    exact this.2.2 a ha t0 (by simp)
  · simp only [cμ, ht, List.map_append, List.sum_append, List.map_cons, List.map_nil, List.sum_cons, List.sum_nil]
    (first | lia | omega)
theorem without_last {kv : List (Int × Value)} {ks : List Int} {k : Int} (h : kv.map (·.1) = ks ++ [k]) (hn : k ∉ ks) : (PySem.without kv k).map (·.1) = ks := by
  have e : (PySem.without kv k).map (·.1) = (kv.map (·.1)).filter (fun x => decide (x ≠ k)) := by
    unfold PySem.without
    rw [List.filter_map]
    rfl
  rw [e, h, List.filter_append]
  have : ks.filter (fun x => decide (x ≠ k)) = ks := List.filter_eq_self.mpr fun a ha => by simp; exact fun e => hn (e ▸ ha)
  rw [this]
  simp
theorem CP.pop (h : CP w A₀ base outer p loose mean mg mb g₀ D Dd n2i sS iS eS nS ns rank rest c) {ts0 : List IT} {t0 : IT} {g : Heap} {sv0 : List Value} {sn inn : Nat} {oN : Obj} (ht : c.ts = ts0 ++ [t0])
    (htu : KtsTurn (outer.filterMap (·.frame)) c.g g) (hbe : Below A₀ base outer g) (hkx : (Mine.hd.heap_1 w.params).In g) (htp : Top p loose mean mg mb g) (hia : IntsAre sv0 (ts0.map (·.i.k))) (hoN : oN.IsDictOf (PySem.intKind PySem.Challenge.rw_mg0054_01.row.prog w) (PySem.without c.kv t0.i.k)) :
    CP w A₀ base outer p loose mean mg mb g₀ D Dd n2i sS iS eS nS ns rank rest { c with g := g, sv := sv0, sn := sn, ts := ts0, inn := inn, oN := oN, kv := PySem.without c.kv t0.i.k } ∧ cμ ns { c with g := g, sv := sv0, sn := sn, ts := ts0, inn := inn, oN := oN, kv := PySem.without c.kv t0.i.k } ≤ cμ ns c := by
  have htr := h.tr
  rw [ht, List.pairwise_append] at htr
  have hn : t0.i.k ∉ ts0.map (·.i.k) := fun hm => by
    obtain ⟨t, hm, e⟩ := List.mem_map.mp hm
    have := htr.2.2 t hm t0 (by simp)
    rw [e] at this
    exact Nat.lt_irrefl _ this
  refine ⟨⟨h.tu.trans htu, hbe, hkx, htp, ?_, hia, hoN, ?_, h.se, h.sz, ?_, fun t hm => h.tm t (by rw [ht]; exact List.mem_append_left _ hm), htr.1⟩, ?_⟩
  · have hs := h.sw
    rw [ht, itled_snoc] at hs
    have e : ((sS, listOf #[] 0) :: (iS, listOf #[] 0) :: (eS, listOf #[] 0) :: (nS, listOf #[] 0) :: (itled ts0 ++ t0.led ++ rest)) = ((sS, listOf #[] 0) :: (iS, listOf #[] 0) :: (eS, listOf #[] 0) :: (nS, listOf #[] 0) :: itled ts0) ++ (t0.I, itObj t0.i.l t0.p) :: (t0.M, mwObj t0.I) :: rest := by simp [IT.led]
    rw [e] at hs
    exact SW.remove (SW.remove hs)
  · refine without_last (k := t0.i.k) ?_ hn
    rw [h.kk, ht]; simp
  · have := h.tl; rw [ht] at this; simp at this; dsimp only; (first | lia | omega)
  · simp only [cμ, ht, List.map_append, List.sum_append, List.map_cons, List.map_nil, List.sum_cons, List.sum_nil]
    (first | lia | omega)
end
theorem si_isExc : isSubtype (.type "StopIteration") (.type "BaseException") = pure true := by rw [isSubtype_type]; kernel_rfl
theorem si_sub : isSubtype (.type "StopIteration") (.type "StopIteration") = pure true := by rw [isSubtype_type]; kernel_rfl
theorem si_notTuple : isSubtype (.type ((Manifest.find? "StopIteration").elim "type" fun x => x.metatype)) (.type "tuple") = pure false := by
  rw [show ((Manifest.find? "StopIteration").elim "type" fun x => x.metatype) = "type" from by kernel_rfl, isSubtype_type]; kernel_rfl
theorem gen_top {α : Type} {i m q a b c d x y z : α} {n r T : List α} (hq : q ∈ n) : ∀ p ∈ i :: m :: q :: a :: b :: c :: d :: x :: y :: z :: (n ++ (T ++ r)), p ∈ a :: b :: c :: d :: x :: y :: z :: (n ++ (T ++ [i, m] ++ r)) := by
  intro p hp
  simp only [List.mem_cons, List.mem_append] at hp ⊢
  grind
theorem gen_step {α : Type} {i m q a b c d x y z : α} {n r T : List α} : ∀ p ∈ a :: b :: c :: d :: x :: y :: z :: (n ++ (T ++ [i, m] ++ r)), p ∈ i :: m :: q :: a :: b :: c :: d :: x :: y :: z :: (n ++ (T ++ r)) := by
  intro p hp
  simp only [List.mem_cons, List.mem_append] at hp ⊢
  grind
theorem gen_push {α : Type} {i m q q' q'' a b c d x y z : α} {n r T : List α} : ∀ p ∈ a :: b :: c :: d :: x :: y :: z :: (n ++ (T ++ [i, m] ++ r)), p ∈ m :: i :: q :: q' :: q'' :: a :: b :: c :: d :: x :: y :: z :: (n ++ (T ++ r)) := by
  intro p hp
  simp only [List.mem_cons, List.mem_append] at hp ⊢
  grind
theorem gen_out {α : Type} {q a b c d x y z : α} {n r T : List α} : ∀ p ∈ q :: a :: b :: c :: d :: x :: y :: z :: (n ++ (T ++ r)), p ∈ a :: b :: c :: d :: x :: y :: z :: (n ++ (T ++ q :: r)) := by
  intro p hp
  simp only [List.mem_cons, List.mem_append] at hp ⊢
  grind
theorem map_snoc {α β : Type} {f : α → β} {l : List α} {x : α} : (l ++ [x]).map f = l.map f ++ [f x] := by rw [List.map_append]; rfl
theorem top_sub {w : World} {D Dd n2i sS iS eS nS : Nat} {t1 t2 t3 t4 : Tok} {v2 v3 v4 : Value} {od : Obj} {ns : List NI} {rest : List (Addr × Obj)} {sv : List Value} {sn inn : Nat} {ts : List IT} {t : IT} {so oN : Obj} {q : Addr × Obj} (hq : q ∈ nled ns) :
    ∀ p ∈ (t.I, itObj t.i.l t.p) :: (t.M, mwObj t.I) :: q :: (sS, listOf sv.toArray sn) :: (iS, listOf (ts.map (fun t => Value.ref t.M) ++ [Value.ref t.M]).toArray inn) :: (eS, so) :: (nS, oN) :: sL w D Dd n2i t1 t2 t3 t4 v2 v3 v4 od ns (itled ts ++ rest),
      p ∈ (sS, listOf sv.toArray sn) :: (iS, listOf ((ts ++ [t]).map (fun t => Value.ref t.M)).toArray inn) :: (eS, so) :: (nS, oN) :: sL w D Dd n2i t1 t2 t3 t4 v2 v3 v4 od ns (itled (ts ++ [t]) ++ rest) := by
  rw [map_snoc, itled_snoc]
  exact gen_top hq
theorem out_sub {w : World} {D Dd n2i sS iS eS nS : Nat} {t1 t2 t3 t4 : Tok} {v2 v3 v4 : Value} {od : Obj} {ns : List NI} {rest : List (Addr × Obj)} {c : CS} {q : Addr × Obj} :
    ∀ p ∈ q :: cLed w D Dd n2i sS iS eS nS t1 t2 t3 t4 v2 v3 v4 od ns rest c, p ∈ cLed w D Dd n2i sS iS eS nS t1 t2 t3 t4 v2 v3 v4 od ns (q :: rest) c := by
  exact gen_out
theorem step_sub {w : World} {D Dd n2i sS iS eS nS : Nat} {t1 t2 t3 t4 : Tok} {v2 v3 v4 : Value} {od : Obj} {ns : List NI} {rest : List (Addr × Obj)} {g : Heap} {sv : List Value} {sn inn sc : Nat} {ts : List IT} {t : IT} {so oN : Obj} {S : Int → Bool} {kv : List (Int × Value)} {node : Int} {nt : Tok} {q : Addr × Obj} :
    ∀ p ∈ cLed w D Dd n2i sS iS eS nS t1 t2 t3 t4 v2 v3 v4 od ns rest ⟨g, sv, sn, ts ++ [{ t with p := t.p + 1 }], inn, so, S, sc, oN, kv, node, nt⟩,
      p ∈ (t.I, itObj t.i.l (t.p + 1)) :: (t.M, mwObj t.I) :: q :: (sS, listOf sv.toArray sn) :: (iS, listOf (ts.map (fun t => Value.ref t.M) ++ [Value.ref t.M]).toArray inn) :: (eS, so) :: (nS, oN) :: sL w D Dd n2i t1 t2 t3 t4 v2 v3 v4 od ns (itled ts ++ rest) := by
  rw [cLed, map_snoc, itled_snoc]
  exact gen_step
theorem push_sub {w : World} {D Dd n2i sS iS eS nS : Nat} {t1 t2 t3 t4 : Tok} {v2 v3 v4 : Value} {od : Obj} {ns : List NI} {rest : List (Addr × Obj)} {g : Heap} {sv : List Value} {sn inn sc I M : Nat} {ts : List IT} {so oN : Obj} {S : Int → Bool} {kv : List (Int × Value)} {node : Int} {nt : Tok} {j : NI} {q1 q2 q3 : Addr × Obj} :
    ∀ p ∈ cLed w D Dd n2i sS iS eS nS t1 t2 t3 t4 v2 v3 v4 od ns rest ⟨g, sv, sn, ts ++ [⟨I, M, j, 0⟩], inn, so, S, sc, oN, kv, node, nt⟩,
      p ∈ (M, mwObj I) :: (I, itObj j.l 0) :: q1 :: q2 :: q3 :: (sS, listOf sv.toArray sn) :: (iS, listOf (ts.map (fun t => Value.ref t.M) ++ [Value.ref M]).toArray inn) :: (eS, so) :: (nS, oN) :: sL w D Dd n2i t1 t2 t3 t4 v2 v3 v4 od ns (itled ts ++ rest) := by
  rw [cLed, map_snoc, itled_snoc]
  exact gen_push
local macro_rules | `(tactic| walk_at "sameT") => `(tactic| (intro z h2 h3; (have h4 := h3); (try simp only [List.forall_mem_cons, List.not_mem_nil, false_implies, implies_true, and_true, ne_eq] at h2); (try simp only [List.contains_cons, List.contains_nil, Bool.or_false, Bool.or_eq_false_iff, beq_eq_false_iff_ne, ne_eq] at h4); (first | (simp only [kstB, h2, h4, List.contains_cons, List.contains_nil, Bool.or_false, Bool.or_eq_true, beq_iff_eq, or_self, or_false, false_or, if_false, Bool.false_eq_true, not_false_eq_true]; done) | (simp only [kstB, h4, List.contains_cons, List.contains_nil, Bool.or_false, Bool.or_eq_true, beq_iff_eq, or_self, or_false, false_or, if_false, Bool.false_eq_true, not_false_eq_true]; done) | (simp only [kstB, h2, List.contains_cons, List.contains_nil, Bool.or_false, Bool.or_eq_true, beq_iff_eq, or_self, or_false, false_or, if_false, Bool.false_eq_true, not_false_eq_true]; done))))
set_option maxRecDepth 100000 in
set_option maxHeartbeats 4000000 in
theorem cycle_c : ∀ {w : World} {p : Program} {loose : List Str} {mean : ExcName → Option Value} {mg mb : Str → Option Value} {dp un : Nat} {gd : Option (List Code)} {cn : Str} {cs : Scope} {a : Addr} {ccd : Value} {cl : List (Str × Addr)} {outer : List Env} {A₀ : Around} {base h₀ : Heap} {L : Addr} {m : Str → Option Value} {s : Shared} {Q E : Value → Shared → Prop} {D Dd n2i : Nat} {t1 t2 t3 t4 : Tok} {v2 v3 v4 : Value} {od : Obj} {ns : List NI} {rank : Int → Nat} {rest : List (Addr × Obj)},
    Below A₀ base outer h₀ → Fr h₀ L s.heap m → (Mine.hd.heap_1 w.params).In h₀ → Top p loose mean mg mb h₀ → cs.kind = .function → (Mine.hd.heap_1 w.params).In base → Top p loose mean mg mb base → dp < 860 → un < 8600 → News h₀ L s.heap (sL w D Dd n2i t1 t2 t3 t4 v2 v3 v4 od ns rest) →
    od.IsDictOf (PySem.intKind PySem.Challenge.rw_mg0054_01.row.prog w) (kvsOf ns) → (n2i == sysModules) = false → SW D Dd n2i ns rest → ns.length < 90 → (∀ i ∈ ns, i.sc.length < 90) → (∀ i ∈ ns, ∀ x ∈ i.sc, x ∈ ns.map (·.k) ∧ rank i.k < rank x) →
    (∀ h₀' h' tk', KtsTurn (outer.filterMap (·.frame)) h₀ h₀' → Fr h₀' L h' m → News h₀' L h' (sL w D Dd n2i t1 t2 t3 t4 v2 v3 v4 od ns rest) → Below A₀ base outer h₀' → (Mine.hd.heap_1 w.params).In h₀' → Top p loose mean mg mb h₀' → Q .none { s with heap := h', toks := tk' }) →
    wpAny (model PySem.Challenge.rw_mg0054_01.row.prog w) (ktrTop dp un gd cn cs L a ccd cl outer) (call (.ref 162) [.ref D]) Q E s := by
  k_fill
  intro w p loose mean mg mb dp un gd cn cs a ccd cl outer A₀ base h₀ L m s Q E D Dd n2i t1 t2 t3 t4 v2 v3 v4 od ns rank rest B F X T hk XB TB hdp hun N hod hlo hS hlen hsl hac hret
  refine wpAny_call ?_
  k_dflt (refine' code_defT ?k1 ?k2 ?k3 ?k4 ?k5 ?xb ?tb ?kA ?kF ?kK ?k6 ?k7 ?k8 ?k9 ?kB ?_ ?c2 ?c3 ?c4 ?c5; (case kA => exact rfl); (case kF => exact rfl); (case kK => assumption); (case k1 => k_asm); (case k2 => k_asm); (case k3 => k_asm); (case k4 => k_asm); (case k5 => k_asm); (case xb => k_asm); (case tb => k_asm); (case k6 => k_is); (case k7 => k_is); (case k8 => ktr_room); (case k9 => exact BindsTo.of_eq rfl); (case c5 => decide); (case kB => exact locs rfl); (case c2 => exact rfl); (case c3 => exact rfl); (case c4 => exact rfl); k_whole; intro g' L' h' FG' F' N' B' X' T'; (try dsimp only); (try k_fold))
  ((try (with_reducible refine pin_postA ?_; intros)); k_steps)
  refine stop_out ?_
  rename_i sS _ m1 _ _ iS _ m2 _ eS _ led hset _ m3 _ nS _ oN hloN _ _ hoN _ m4 _ F1 N1
  have hS0 : SW D Dd n2i ns ((sS, listOf #[] 0) :: (iS, listOf #[] 0) :: (eS, listOf #[] 0) :: (nS, listOf #[] 0) :: (itled [] ++ rest)) := by
    have e1 := (hS.more (o := listOf #[] 0) m1)
    have e2 := (e1.more (o := listOf #[] 0) (x := iS) ⟨by (first | lia | omega), by (first | lia | omega), by (first | lia | omega), by rw [bd_append] at *; simp only [bd]; (first | lia | omega)⟩)
    have e3 := (e2.more (o := listOf #[] 0) (x := eS) ⟨by (first | lia | omega), by (first | lia | omega), by (first | lia | omega), by rw [bd_append] at *; simp only [bd]; (first | lia | omega)⟩)
    have e4 := (e3.more (o := listOf #[] 0) (x := nS) ⟨by (first | lia | omega), by (first | lia | omega), by (first | lia | omega), by rw [bd_append] at *; simp only [bd]; (first | lia | omega)⟩)
    refine ⟨?_, e4.kd, e4.it⟩
    refine List.Perm.nodup_iff (List.Perm.cons _ (List.Perm.cons _ (List.Perm.cons _ (List.Perm.map _ (List.Perm.append_left _ ?_))))) |>.mp e4.nd
    exact (List.reverse_perm [_, _, _, _]).append_right rest |>.symm.trans (by simp [itled]) |>.symm |>.symm
  have hc0 : CP w (ktrTop dp un gd cn cs L a ccd cl outer) base (envX cn cs L a ccd cl :: outer) p loose mean mg mb g' D Dd n2i sS iS eS nS ns rank rest ⟨g', [], 0, [], 0, { cls := .type "set", data := .set #[] 0 (.fresh 0 0 led) }, fun _ => false, 0, oN, [], 0, 0⟩ := ⟨KtsTurn.refl, B', X', T', hS0, .nil, hoN, rfl, hset, by simp, by simp, by simp, by simp⟩
  have N2 := news_sub (q := cLed w D Dd n2i sS iS eS nS t1 t2 t3 t4 v2 v3 v4 od ns rest ⟨g', [], 0, [], 0, { cls := .type "set", data := .set #[] 0 (.fresh 0 0 led) }, fun _ => false, 0, oN, [], 0, 0⟩) N1 (by
    intro p hp
    simp only [cLed, sL, itled, List.flatMap_nil, List.nil_append, List.map_nil, List.mem_cons, List.mem_append] at hp ⊢
    grind)
  clear N1 m1 m2 m3 m4 hset hS0 hoN
  refine iterT_keys (σ := CS) (fun c => c.g) (fun c => cLed w D Dd n2i sS iS eS nS t1 t2 t3 t4 v2 v3 v4 od ns rest c) (fun _ => []) [] (fun _ c => CP w (ktrTop dp un gd cn cs L a ccd cl outer) base (envX cn cs L a ccd cl :: outer) p loose mean mg mb g' D Dd n2i sS iS eS nS ns rank rest c ∧ c.ts = []) ⟨g', [], 0, [], 0, { cls := .type "set", data := .set #[] 0 (.fresh 0 0 led) }, fun _ => false, 0, oN, [], 0, 0⟩ ?hh ?hx ?hpk hod hlo ?hB ?hmem F1 N2 ?hps ?hJ ?_ ?_ ?hE
  case hh => exact rfl
  case hx => exact rfl
  case hpk => exact rfl
  case hB => exact fun i c hc b e => hc.1.tu.none_ b e
  case hmem => exact fun _ _ _ => .tail _ (.tail _ (.tail _ (.tail _ (.tail _ (.tail _ (.head _))))))
  case hps => simp
  case hJ => exact ⟨hc0, rfl⟩
  case hE => passes_own
  · intro i k v t c u h tk I oI hkv hJ hoff F3 N3
    obtain ⟨hc, hts⟩ := hJ
    have B3 := hc.be
    have X3 := hc.kx
    have T3 := hc.tp
    have hcI : CP w (ktrTop dp un gd cn cs L a ccd cl outer) base (envX cn cs L a ccd cl :: outer) p loose mean mg mb g' D Dd n2i sS iS eS nS ns rank ((I, oI) :: rest) c := hc.into hoff
    have N4 := news_sub (q := cLed w D Dd n2i sS iS eS nS t1 t2 t3 t4 v2 v3 v4 od ns ((I, oI) :: rest) c) N3 (by
      intro p hp
      simp only [cLed, sL, List.mem_cons, List.mem_append] at hp ⊢
      grind)
    obtain ⟨restI, hrI⟩ : ∃ r, r = (I, oI) :: rest := ⟨_, rfl⟩
    rw [← hrI] at hcI N4
    have hse := hcI.se
    have hdk := hcI.dk
    obtain ⟨⟨⟨_, _, _⟩, ⟨_, _, _⟩, ⟨_, _, _⟩, ⟨_, _, _⟩, _, _, _, _, _, _⟩, q2, q3, q4, q5⟩ := hcI.sw.four
    have hsc : c.sc < 90 := Nat.lt_of_le_of_lt hcI.sz (Nat.lt_of_le_of_lt (List.length_filter_le _ _) hlen)
    clear hc0 N2 F1 N3 B' X' T'
    ((try (with_reducible refine pin_postA ?_; intros)); k_steps)
    (refine stop_out ?_; (try (with_reducible refine pin_postQ ?_; intros)))
    refine wpAny_execs_cons ?_
    ((try (with_reducible refine pin_postA ?_; intros)); k_steps)
    · show EndT (fun c => c.g) _ _ (fun c => (I, oI) :: cLed w D Dd n2i sS iS eS nS t1 t2 t3 t4 v2 v3 v4 od ns rest c) _ _ _ _ _
      refine endT (Bs := fun c => c.g) (Led := fun c => (I, oI) :: cLed w D Dd n2i sS iS eS nS t1 t2 t3 t4 v2 v3 v4 od ns rest c) c F3 N4 ?_ ?_ ?_ ?_
      · intro p hp
        simp only [cLed, sL, List.mem_cons, List.mem_append] at hp ⊢
        grind
      · simp
      · walk_at "sameT"
      · exact ⟨⟨hc, hts⟩, hoff⟩
    · (refine stop_out ?_; (try (with_reducible refine pin_postQ ?_; intros)))
      obtain ⟨m3, hm3, F4⟩ := Fr.named F3
      have n1 : m3 (Str.ofString "n2i") = some (.ref n2i) := by rw [hm3]; rfl
      have n2 : m3 (Str.ofString "stack") = some (.ref sS) := by rw [hm3]; rfl
      have n3 : m3 (Str.ofString "itstack") = some (.ref iS) := by rw [hm3]; rfl
      have n4 : m3 (Str.ofString "seen") = some (.ref eS) := by rw [hm3]; rfl
      have n5 : m3 (Str.ofString "node2stacki") = some (.ref nS) := by rw [hm3]; rfl
      have n6 : m3 (Str.ofString "node") = some (.int k t) := by rw [hm3]; rfl
      clear F3 hse hdk q2 q3 q4 q5 hsc
      refine wh_T (σ := CS) (fun c => c.g) (fun c => cLed w D Dd n2i sS iS eS nS t1 t2 t3 t4 v2 v3 v4 od ns restI c) (fun c => [(Str.ofString "node", .int c.node c.nt)]) []
        (fun c' => CP w (ktrTop dp un gd cn cs L a ccd cl outer) base (envX cn cs L a ccd cl :: outer) p loose mean mg mb g' D Dd n2i sS iS eS nS ns rank restI c' ∧ c'.node ∈ ns.map (·.k) ∧ ∀ t ∈ c'.ts, rank t.i.k < rank c'.node) (cμ ns) { c with node := k, nt := t } F4 N4 ?hps ?hP ?_ ?hE
      case hE => passes_own
      case hps => simp [n6]
      case hP =>
        have hkm : k ∈ ns.map (·.k) := by
          rw [← kvsOf_keys]
          exact List.mem_map.mpr ⟨_, List.mem_of_getElem? hkv, rfl⟩
        refine ⟨⟨hcI.tu, hcI.be, hcI.kx, hcI.tp, hcI.sw, hcI.ia, hcI.dk, hcI.kk, hcI.se, hcI.sz, hcI.tl, hcI.tm, hcI.tr⟩, hkm, ?_⟩
        dsimp only
        rw [hts]
        simp
      intro c1 u1 h1 tk1 hP1 F5 N5
      obtain ⟨hc1, hnode, hrk⟩ := hP1
      have B5 := hc1.be
      have X5 := hc1.kx
      have T5 := hc1.tp
      have hse := hc1.se
      have hdk := hc1.dk
      obtain ⟨⟨⟨_, _, _⟩, ⟨_, _, _⟩, ⟨_, _, _⟩, ⟨_, _, _⟩, _, _, _, _, _, _⟩, q2, q3, q4, q5⟩ := hc1.sw.four
      have hsc : c1.sc < 90 := Nat.lt_of_le_of_lt hc1.sz (Nat.lt_of_le_of_lt (List.length_filter_le _ _) hlen)
      have hvn : (valueAt c1.kv c1.node).isSome = false := by
        rw [PyProof.Rows.valueAt_none_of_not_mem]
        · rfl
        · rw [hc1.kk]
          intro hm
          obtain ⟨t, ht, e⟩ := List.mem_map.mp hm
          have := hrk t ht
          rw [e] at this
          exact Nat.lt_irrefl _ this
      obtain ⟨j, hj, hjk⟩ := List.mem_map.mp hnode
      have hva : valueAt (kvsOf ns) c1.node = some (.ref j.a) := by rw [← hjk]; exact valueAt_in hc1.sw.kd hj
      have htl : c1.ts.length < 90 := Nat.lt_of_le_of_lt hc1.tl hsc
      have hz1 : (c1.ts.map (fun t => Value.ref t.M)).length < 90 := by rw [List.length_map]; exact htl
      have hia := hc1.ia
      have hz2 : c1.sv.length < 90 := by rw [hia.length, List.length_map]; exact htl
      have hz3 : c1.kv.length < 90 := by have := congrArg List.length hc1.kk; rw [List.length_map, List.length_map] at this; (first | lia | omega)
      clear N4 F4 B3 X3 T3 hc hcI
      ((try (with_reducible refine pin_postA ?_; intros)); k_steps)
      (refine stop_out ?_; (try (with_reducible refine pin_postQ ?_; intros)))
      have N6 := news_sub (q := (j.a, niObj j.k j.kt j.d j.l j.np j.nt) :: (j.d, dictOf [] 0) :: (j.l, listOf j.sv.toArray j.lv) :: cLed w D Dd n2i sS iS eS nS t1 t2 t3 t4 v2 v3 v4 od ns restI c1) N5 (by
        intro p hp
        have hq : ∀ q ∈ j.led, q ∈ cLed w D Dd n2i sS iS eS nS t1 t2 t3 t4 v2 v3 v4 od ns restI c1 := fun q hq => .tail _ (.tail _ (.tail _ (.tail _ (.tail _ (.tail _ (.tail _ (List.mem_append_left _ (mem_nled.mpr ⟨j, hj, hq⟩))))))))
        rcases List.mem_cons.mp hp with rfl | hp
        · exact hq _ (by simp [NI.led])
        rcases List.mem_cons.mp hp with rfl | hp
        · exact hq _ (by simp [NI.led])
        rcases List.mem_cons.mp hp with rfl | hp
        · exact hq _ (by simp [NI.led])
        exact hp)
      have hqn : ∀ q ∈ j.led, q.1 ≠ sS ∧ q.1 ≠ iS ∧ q.1 ≠ eS ∧ q.1 ≠ nS := fun q hq => by
        have := List.mem_append_left (itled c1.ts ++ restI) (mem_nled.mpr ⟨j, hj, hq⟩)
        exact ⟨q2 q this, q3 q this, q4 q this, q5 q this⟩
      obtain ⟨_, _, _, _⟩ : j.a ≠ sS ∧ j.a ≠ iS ∧ j.a ≠ eS ∧ j.a ≠ nS := hqn (j.a, _) (.head _)
      obtain ⟨_, _, _, _⟩ : j.d ≠ sS ∧ j.d ≠ iS ∧ j.d ≠ eS ∧ j.d ≠ nS := hqn (j.d, _) (.tail _ (.head _))
      obtain ⟨_, _, _, _⟩ : j.l ≠ sS ∧ j.l ≠ iS ∧ j.l ≠ eS ∧ j.l ≠ nS := hqn (j.l, _) (.tail _ (.tail _ (.head _)))
      refine cut_execs (EndT (σ := CS) (fun c => c.g) L' s (fun c => cLed w D Dd n2i sS iS eS nS t1 t2 t3 t4 v2 v3 v4 od ns restI c) (fun c => [(Str.ofString "node", .int c.node c.nt)]) [] m3
        (fun c' => CP w (ktrTop dp un gd cn cs L a ccd cl outer) base (envX cn cs L a ccd cl :: outer) p loose mean mg mb g' D Dd n2i sS iS eS nS ns rank restI c' ∧ cμ ns c' ≤ cμ ns c1)) ?_ ?_
      · ((try (with_reducible refine pin_postA ?_; intros)); k_steps)
        · refine endT c1 F5 N6 ?_ ?_ ?_ ?_
          · intro p hp
            exact .tail _ (.tail _ (.tail _ hp))
          · simp [kstB]
          · walk_at "sameT"
          · exact ⟨hc1, Nat.le_refl _⟩
        · rename Fr _ _ _ _ => F7
          rename News _ _ _ _ => N7
          rename Obj.SetObjOf _ _ (fun _ => _) _ => hs7
          rename Obj.IsDictOf _ _ (stored _ _ _) => hd7
          rename c1.S c1.node = false => hSn
          rw [← hjk] at hSn hs7 hd7 N7 hrk
          have hp7 := hc1.push (I := I') (M := M') (tok := c1.nt) (sn := c1.sn + 1) (inn := c1.inn + 1) hj hSn hrk hs7 hd7 ⟨by (first | lia | omega), by (first | lia | omega), by (first | lia | omega), by (first | lia | omega), by (first | lia | omega), by (first | lia | omega), by (first | lia | omega), by (first | lia | omega)⟩ (by (first | lia | omega))
          refine' endT ?c7 ?f7 ?n7 ?s7 ?k7 ?r7 ?p7
          case p7 => exact hp7
          case f7 => exact F7
          case n7 => exact N7
          case s7 => exact push_sub
          case k7 => simp [kstB, hjk]
          case r7 => walk_at "sameT"
      · rintro s' ⟨c2, h2, tk2, m2, news2, rfl, F8, N8, hsub8, hk8, hr8, hc2, hμ2⟩
        have N9 := news_sub N8 hsub8
        replace n1 : m2 (Str.ofString "n2i") = some (.ref n2i) := (hr8 _ (by intro p hp; rw [List.mem_singleton.mp hp]; dsimp only; decide) rfl).trans n1
        replace n2 : m2 (Str.ofString "stack") = some (.ref sS) := (hr8 _ (by intro p hp; rw [List.mem_singleton.mp hp]; dsimp only; decide) rfl).trans n2
        replace n3 : m2 (Str.ofString "itstack") = some (.ref iS) := (hr8 _ (by intro p hp; rw [List.mem_singleton.mp hp]; dsimp only; decide) rfl).trans n3
        replace n4 : m2 (Str.ofString "seen") = some (.ref eS) := (hr8 _ (by intro p hp; rw [List.mem_singleton.mp hp]; dsimp only; decide) rfl).trans n4
        replace n5 : m2 (Str.ofString "node2stacki") = some (.ref nS) := (hr8 _ (by intro p hp; rw [List.mem_singleton.mp hp]; dsimp only; decide) rfl).trans n5
        clear F5 N5 N6 hse hdk q2 q3 q4 q5 B5 X5 T5 hvn hva N8 hsub8 hia hz1 hz2 hz3 htl hsc
        refine wpAny_execs_cons ?_
        refine wh_T (σ := CS) (fun c => c.g) (fun c => cLed w D Dd n2i sS iS eS nS t1 t2 t3 t4 v2 v3 v4 od ns restI c) (fun c => [(Str.ofString "node", .int c.node c.nt)]) []
          (fun c' => CP w (ktrTop dp un gd cn cs L a ccd cl outer) base (envX cn cs L a ccd cl :: outer) p loose mean mg mb g' D Dd n2i sS iS eS nS ns rank restI c' ∧ cμ ns c' ≤ cμ ns c1) (fun c => c.ts.length) c2 F8 N9 hk8 ⟨hc2, hμ2⟩ ?_ ?hE
        case hE => passes_own
        intro c3 u3 h3 tk3 hP3 F10 N10
        obtain ⟨hc3, hμ3⟩ := hP3
        have B10 := hc3.be
        have X10 := hc3.kx
        have T10 := hc3.tp
        have hdk := hc3.dk
        obtain ⟨⟨⟨_, _, _⟩, ⟨_, _, _⟩, ⟨_, _, _⟩, ⟨_, _, _⟩, _, _, _, _, _, _⟩, q2, q3, q4, q5⟩ := hc3.sw.four
        have hsc : c3.sc < 90 := Nat.lt_of_le_of_lt hc3.sz (Nat.lt_of_le_of_lt (List.length_filter_le _ _) hlen)
        have htl : c3.ts.length < 90 := Nat.lt_of_le_of_lt hc3.tl hsc
        have hia := hc3.ia
        clear F8 N9
        rcases List.eq_nil_or_concat c3.ts with hnil | ⟨ts0, t0, htc⟩
        · rw [hnil] at hia
          ((try (with_reducible refine pin_postA ?_; intros)); k_steps)
          show wpAny _ _ (execs [] _) _ _ _
          refine wpAny_execs_nil ?_
          rename Fr _ _ _ _ => F12
          rename News _ _ _ _ => N12
          rw [hrI] at hc3 N12
          have ho3 := hc3.outof (t1 := t1) (t2 := t2) (t3 := t3) (t4 := t4) (v2 := v2) (v3 := v3) (v4 := v4) (od := od)
          refine' endT c3 ?fA ?nA ?sA ?kA ?rA ?pA
          case pA => exact ⟨⟨ho3.1, hnil⟩, ho3.2⟩
          case fA => exact F12
          case nA => exact N12
          case sA => exact out_sub
          case kA => simp
          case rA =>
            intro z _ hz
            have hzn : z ≠ Str.ofString "node" := by simpa using hz
            simp only [kstB, hzn, if_false, List.contains_nil, Bool.false_eq_true]
            rw [hr8 z (by intro p hp; rw [List.mem_singleton.mp hp]; exact hzn) rfl, hm3]
            simp [hzn, kstB]
        · rw [List.concat_eq_append] at htc
          rw [htc, List.map_append] at hia
          obtain ⟨sv0, st0, hsv, hia0⟩ := ints_snoc_inv hia
          have hz1 : sv0.length < 90 := by rw [hia0.length, List.length_map]; rw [htc] at htl; simp at htl; (first | lia | omega)
          have hz2 : (ts0.map (fun t => Value.ref t.M)).length < 90 := by rw [List.length_map]; rw [htc] at htl; simp at htl; (first | lia | omega)
          obtain ⟨hti, htp, htS⟩ := hc3.tm t0 (by rw [htc]; simp)
          have hlm : (t0.i.l, listOf t0.i.sv.toArray t0.i.lv) ∈ nled ns := mem_nled.mpr ⟨t0.i, hti, by simp [NI.led]⟩
          have hiv := hc3.sw.it t0.i hti
          have N11 := news_sub (q := (t0.I, itObj t0.i.l t0.p) :: (t0.M, mwObj t0.I) :: (t0.i.l, listOf t0.i.sv.toArray t0.i.lv) :: (sS, listOf (sv0 ++ [Value.int t0.i.k st0]).toArray c3.sn) :: (iS, listOf (ts0.map (fun t => Value.ref t.M) ++ [Value.ref t0.M]).toArray c3.inn) :: (eS, c3.so) :: (nS, c3.oN) :: sL w D Dd n2i t1 t2 t3 t4 v2 v3 v4 od ns (itled ts0 ++ restI)) N10 (by
            rw [cLed, htc, hsv]
            exact top_sub hlm)
          have hsI : SW D Dd n2i ns ((t0.I, listOf #[] 0) :: (t0.M, listOf #[] 0) :: (sS, listOf #[] 0) :: (iS, listOf #[] 0) :: (eS, listOf #[] 0) :: (nS, listOf #[] 0) :: (itled ts0 ++ restI)) := by
            have hs := hc3.sw
            rw [htc, itled_snoc] at hs
            refine ⟨?_, hs.kd, hs.it⟩
            refine List.Perm.nodup_iff (List.Perm.cons _ (List.Perm.cons _ (List.Perm.cons _ ?_))) |>.mp hs.nd
            simp only [IT.led, List.map_append, List.map_cons, List.map_nil, List.append_assoc, List.cons_append, List.nil_append]
            refine List.Perm.append_left _ ?_
            have e : (sS :: iS :: eS :: nS :: ((itled ts0).map (·.1) ++ (t0.I :: t0.M :: restI.map (·.1)))) = (sS :: iS :: eS :: nS :: (itled ts0).map (·.1)) ++ ([t0.I, t0.M] ++ restI.map (·.1)) := by simp
            rw [e]
            refine (List.perm_append_comm_assoc _ _ _).trans ?_
            simp
          obtain ⟨-, r2, r3, r4, r5⟩ := hsI.less.less.four
          obtain ⟨⟨d1, d2, d3⟩, oI⟩ := hsI.offs
          have hkv2 : (valueAt c3.kv t0.i.k).isSome = true := by
            rw [PyProof.Rows.valueAt_isSome_eq_any, List.any_eq_true]
            have : t0.i.k ∈ c3.kv.map (·.1) := by rw [hc3.kk, htc]; simp
            obtain ⟨q, hq, e⟩ := List.mem_map.mp this
            exact ⟨q, hq, by simpa using e⟩
          have hkl : c3.kv.length < 90 := by have := congrArg List.length hc3.kk; rw [List.length_map, List.length_map] at this; (first | lia | omega)
          have e1 : t0.M ≠ t0.I := oI (t0.M, listOf #[] 0) (by simp)
          have e2 : sS ≠ t0.I := oI (sS, listOf #[] 0) (by simp)
          have e3 : iS ≠ t0.I := oI (iS, listOf #[] 0) (by simp)
          have e4 : eS ≠ t0.I := oI (eS, listOf #[] 0) (by simp)
          have e5 : nS ≠ t0.I := oI (nS, listOf #[] 0) (by simp)
          have e6 : t0.i.l ≠ t0.I := oI _ (List.mem_append_left _ hlm)
          have e7 : ∀ p ∈ nled ns ++ (itled ts0 ++ restI), p.1 ≠ t0.I := fun p hp => oI p (by simp only [List.mem_append, List.mem_cons] at hp ⊢; grind)
          clear N10
          ((try (with_reducible refine pin_postA ?_; intros)); k_steps)
          (refine stop_out ?_; (try (with_reducible refine pin_postQ ?_; intros)))
          rename Fr _ _ _ _ => F12
          rename News _ _ _ _ => N12
          have hivl := hiv.length
          by_cases hlt : t0.p < t0.i.sc.length
          · obtain ⟨y, hy⟩ : ∃ y, t0.i.sv[t0.p]? = some y := ⟨t0.i.sv[t0.p]'(by (first | lia | omega)), by simp⟩
            obtain ⟨x, xt, hx, rfl⟩ := ints_at hiv hy
            refine mw_item F12 N12 (.tail _ (.head _)) (.head ?_) (.tail _ (.tail _ (.head _))) hy fun h13 F13 N13 => ?_
            · exact List.forall_mem_cons.mpr ⟨e1, List.forall_mem_cons.mpr ⟨e6, List.forall_mem_cons.mpr ⟨e2, List.forall_mem_cons.mpr ⟨e3, List.forall_mem_cons.mpr ⟨e4, List.forall_mem_cons.mpr ⟨e5, List.forall_mem_cons.mpr ⟨d1, List.forall_mem_cons.mpr ⟨d2, List.forall_mem_cons.mpr ⟨d3, e7⟩⟩⟩⟩⟩⟩⟩⟩⟩
            ((try (with_reducible refine pin_postA ?_; intros)); k_steps)
            show wpAny _ _ (execs [] _) _ _ _
            refine wpAny_execs_nil ?_
            rename Fr _ _ _ _ => F14
            rename News _ _ _ _ => N14
            obtain ⟨xt2, F15⟩ := Fr.tok F14
            have hst := hc3.step (x := x) (xt := xt2) htc hlt
            have hxm := hac t0.i hti x (List.mem_of_getElem? hx)
            refine' endT { c3 with ts := ts0 ++ [{ t0 with p := t0.p + 1 }], node := x, nt := xt2 } ?fB ?nB ?sB ?kB ?rB ?pB
            case pB =>
              refine ⟨⟨hst.1, hxm.1, ?_⟩, Nat.lt_of_lt_of_le hst.2 hμ3⟩
              intro t ht
              rcases List.mem_append.mp ht with ht | ht
              · have := hc3.tr
                rw [htc, List.pairwise_append] at this
                exact Nat.lt_trans (this.2.2 t ht t0 (by simp)) hxm.2
              · rw [List.mem_singleton.mp ht]; exact hxm.2
            case fB => exact F15
            case nB => exact N14
            case sB =>
              rw [hsv]
              exact step_sub
            case kB =>
              intro p hp
              rw [List.mem_singleton.mp hp]
              rfl
            case rB =>
              intro z h2 _
              have hzn : z ≠ Str.ofString "node" := h2 _ (.head _)
              simp only [kstB, hzn, if_false, List.contains_nil, Bool.false_eq_true]
              exact hr8 z (by intro p hp; rw [List.mem_singleton.mp hp]; exact hzn) rfl
          · refine mw_end rfl F12 N12 (.tail _ (.head _)) (.head ?_) (.tail _ (.tail _ (.head _))) (by rw [List.getElem?_eq_none_iff]; (first | lia | omega)) fun h13 h14 e13 oI13 F13 N13 x13 => ?_
            · exact List.forall_mem_cons.mpr ⟨e1, List.forall_mem_cons.mpr ⟨e6, List.forall_mem_cons.mpr ⟨e2, List.forall_mem_cons.mpr ⟨e3, List.forall_mem_cons.mpr ⟨e4, List.forall_mem_cons.mpr ⟨e5, List.forall_mem_cons.mpr ⟨d1, List.forall_mem_cons.mpr ⟨d2, List.forall_mem_cons.mpr ⟨d3, e7⟩⟩⟩⟩⟩⟩⟩⟩⟩
            refine caught_new x13 F13 (news_sub N13 fun p hp => .tail _ (.tail _ (.tail _ hp))) B10 XB TB (by k_is) PyProof.Rows.Boot.«StopIteration» (by decide) si_isExc si_notTuple si_sub ?_
            intro h15 g15 T15 F15 N15 B15 X15 Tp15
            ((try (with_reducible refine pin_postA ?_; intros)); k_steps)
            rename Fr _ _ _ _ => F16
            rename News _ _ _ _ => N16
            rename Obj.IsDictOf _ _ (without _ _) => hd16
            have hpp := hc3.pop (sn := c3.sn + 1) (inn := c3.inn + 1) htc T15 B15 X15 Tp15 hia0 hd16
            have hlC : ts0.length < c3.ts.length := by rw [htc]; simp
            have hfin := And.intro (And.intro hpp.1 (Nat.le_trans hpp.2 hμ3)) hlC
            refine' endT ?cC ?fC ?nC ?sC ?kC ?rC ?pC
            case pC => exact hfin
            case fC => exact F16
            case nC => exact N16
            case sC => exact fun p hp => hp
            case kC => simp [kstB]
            case rC => walk_at "sameT"
  · intro c u h tk hJ F3 N3
    obtain ⟨hc, hts⟩ := hJ
    have B3 := hc.be
    have X3 := hc.kx
    have T3 := hc.tp
    clear hc0 N2 F1 B' X' T'
    ((try (with_reducible refine pin_postA ?_; intros)); k_steps)
    rename News _ _ _ _ => N12
    refine ⟨c.g, _, _, _, hc.tu, F3, news_sub N12 (q := sL w D Dd n2i t1 t2 t3 t4 v2 v3 v4 od ns rest) ?_, fun g9 T9 F9 N9 B9 X9 Tp9 => hret _ _ _ T9 F9 N9 B9 X9 Tp9⟩
    rw [cLed, hts]
    exact fun p hp => .tail _ (.tail _ (.tail _ (.tail _ hp)))
end Priv

theorem anew_I_comp : True := by w_top off; first | (walk1; done) | trivial
/-! comprehensions whose turns change nothing in the ledger -/
noncomputable def TurnEnd (h₀ : Heap) (L : Addr) (m : Str → Option Value) (s : Shared) (news : List (Addr × Obj)) (R : Value → Prop) (y : Value) (s₂ : Shared) : Prop :=
  ∃ h' tk, s₂ = { s with heap := h', toks := tk } ∧ Fr h₀ L h' m ∧ News h₀ L h' news ∧ R y
theorem turn_end {h₀ : Heap} {L : Addr} {m : Str → Option Value} {s : Shared} {news news' : List (Addr × Obj)} {R : Value → Prop} {y : Value} {h' : Heap} {tk : Nat} (F : Fr h₀ L h' m) (N : News h₀ L h' news') (sub : ∀ p ∈ news, p ∈ news') (hr : R y) : TurnEnd h₀ L m s news R y { s with heap := h', toks := tk } :=
  ⟨h', tk, rfl, F, fun p hp => N p (sub p hp), hr⟩
section
open LCg LCt
variable {prog : Program} {w : World} {A : Around} {E : Value → Shared → Prop} {s : Shared} {h₀ : Heap} {L : Addr} {m : Str → Option Value} {env : Env}
theorem compT_ind {ct elt : Expr} {x : Str} {scope : Scope} {cl : List (Str × Addr)} {S : List (Addr × Obj) → Prop} {P : Nat → Value → Prop} {Fin : List Value → List (Addr × Obj) → Prop} {n : Nat} {news : List (Addr × Obj)} (J : Nat → List Value → Prop) (hS : S news) (hJ : J 0 [])
    (turn : ∀ i ys v I oI C oC D m₂ h tk (E' : Value → Shared → Prop), i < n → J i ys → P i v → NsObj oC m₂ → m₂ x = some v → Fr h₀ L h m → News h₀ L h ((I, oI) :: (C, oC) :: (D, lst ys) :: news) →
      wpAny (model prog w) A (isTrue ct (compEnvC scope cl C env) (eval ct (compEnvC scope cl C env))) (fun ok s' => if ok = true then
        wpAny (model prog w) A (eval elt (compEnvC scope cl C env)) (TurnEnd h₀ L m s ((I, oI) :: (C, oC) :: (D, lst ys) :: news) (fun y => J (i + 1) (ys ++ [y]))) E' s'
        else TurnEnd h₀ L m s ((I, oI) :: (C, oC) :: (D, lst ys) :: news) (fun _ => J (i + 1) ys) Value.none s') E' { s with heap := h, toks := tk })
    (fin : ∀ ys, J n ys → Fin ys news) : CompRestT prog w A h₀ L m env ct elt x scope cl s S P Fin n 0 [] news := by
  have key : ∀ k i ys, i + k = n → J i ys → CompRestT prog w A h₀ L m env ct elt x scope cl s S P Fin k i ys news := by
    intro k
    induction k with
    | zero => intro i ys e h; exact fin ys (by have e' : i = n := e; rw [← e']; exact h)
    | succ k ih =>
      intro i ys e hj v I oI C oC D m₂ h tk E' hv hC hx F N off ne
      refine wpAny_mono (turn i ys v I oI C oC D m₂ h tk E' (by omega) hj hv hC hx F N) (fun ok s' q => ?_) fun _ _ e => e
      cases ok with
      | true =>
        simp only [if_true] at q ⊢
        refine wpAny_mono q (fun y s₂ q => ?_) fun _ _ e => e
        obtain ⟨h', tk', rfl, F', N', hr⟩ := q
        exact ⟨h', tk', news, rfl, F', N', off, hS, ih (i + 1) _ (by omega) hr⟩
      | false =>
        simp only [Bool.false_eq_true, if_false] at q ⊢
        obtain ⟨h', tk', rfl, F', N', hr⟩ := q
        exact ⟨h', tk', news, rfl, F', N', off, hS, ih (i + 1) _ (by omega) hr⟩
  exact key n 0 [] (by omega) hJ
theorem compU_ind {elt : Expr} {x : Str} {scope : Scope} {cl : List (Str × Addr)} {S : List (Addr × Obj) → Prop} {P : Nat → Value → Prop} {Fin : List Value → List (Addr × Obj) → Prop} {n : Nat} {news : List (Addr × Obj)} (J : Nat → List Value → Prop) (hS : S news) (hJ : J 0 [])
    (turn : ∀ i ys v I oI C oC D m₂ h tk (E' : Value → Shared → Prop), i < n → J i ys → P i v → NsObj oC m₂ → m₂ x = some v → Fr h₀ L h m → News h₀ L h ((I, oI) :: (C, oC) :: (D, lst ys) :: news) →
        wpAny (model prog w) A (eval elt (compEnvC scope cl C env)) (TurnEnd h₀ L m s ((I, oI) :: (C, oC) :: (D, lst ys) :: news) (fun y => J (i + 1) (ys ++ [y]))) E' { s with heap := h, toks := tk })
    (fin : ∀ ys, J n ys → Fin ys news) : CompRest prog w A h₀ L m env elt x scope cl s S P Fin n 0 [] news := by
  have key : ∀ k i ys, i + k = n → J i ys → CompRest prog w A h₀ L m env elt x scope cl s S P Fin k i ys news := by
    intro k
    induction k with
    | zero => intro i ys e h; exact fin ys (by have e' : i = n := e; rw [← e']; exact h)
    | succ k ih =>
      intro i ys e hj v I oI C oC D m₂ h tk E' hv hC hx F N off ne
      refine wpAny_mono (turn i ys v I oI C oC D m₂ h tk E' (by omega) hj hv hC hx F N) (fun y s₂ q => ?_) fun _ _ e => e
      obtain ⟨h', tk', rfl, F', N', hr⟩ := q
      exact ⟨h', tk', news, rfl, F', N', off, hS, ih (i + 1) _ (by omega) hr⟩
  exact key n 0 [] (by omega) hJ
noncomputable def SrcV (prog : Program) (w : World) (A : Around) (h₀ : Heap) (L : Addr) (m : Str → Option Value) (env : Env) (ct elt : Expr) (x : Str) (scope : Scope) (cl : List (Str × Addr)) (Q : Value → Shared → Prop) (xv : Value) (s₁ : Shared) : Prop :=
  ∃ (vw d : Addr) (od : Obj) (kvs : List (Int × Value)) (news : List (Addr × Obj)), xv = .ref vw ∧ A.handled = none ∧ Fr h₀ L s₁.heap m ∧ News h₀ L s₁.heap news ∧ (vw, ({ cls := .type "dict_values", data := .fields #[.ref d] } : Obj)) ∈ news ∧ (d, od) ∈ news ∧ od.IsDictOf (PySem.intKind prog w) kvs ∧ kvs.length ≤ sizeLine ∧
    ∀ s₂ : Shared, (∃ h, s₂ = { s₁ with heap := h }) → CompRestT prog w A h₀ L m env ct elt x scope cl s₂ (fun nw => (d, od) ∈ nw) (fun i v => ∃ k, kvs[i]? = some (k, v)) (FinE h₀ L m s₂ Q) kvs.length 0 [] news
theorem ListComp_V {ct elt iter : Expr} {x : Str} {px : Pos} {scope : Scope} {cl : List (Str × Addr)} {pos : Pos} {Q : Value → Shared → Prop} (F₀ : Fr h₀ L s.heap m)
    (hclos : closureFor scope env = pure cl) (hcell : ∀ y ∈ scope.names, y.2 ≠ .cell) (hkind : scope.kind = .function)
    (hnames : ∀ y ∈ scope.names, y.2 = .local → scope.names.lookup y.1 = some .local) (hx : scope.names.lookup x = some .local)
    (h : wpAny (model prog w) A (eval iter env) (SrcV prog w A h₀ L m env ct elt x scope cl Q) E s)
    (hs : ∀ x, foldedSetIterable iter env x = pure x := by intro _; rfl) :
    wpAny (model prog w) A (eval (.ListComp elt [⟨.Name x px, iter, [ct], 0⟩] scope pos) env) Q E s := by
  rw [eval_ListComp]
  refine wpAny_comprehension_free (use := none) rfl hs hclos hkind hnames (wpAny_mono h (fun xv s₁ h₁ => ?_) fun _ _ e => e)
  obtain ⟨vw, d, od, kvs, news, rfl, hh, F, N, hv, hd, hod, hsz, R⟩ := h₁
  obtain ⟨ep, ha⟩ := KdkAt.of hod
  have hg := (N _ hd).1
  have hlt : d < s₁.heap.objs.size := Heap.lt_size hg
  refine wpAny_pyIter_values ⟨_, (N _ hv).1, rfl, rfl⟩ (ha.dictAt hg) ?_
  have up : ∀ b o, s₁.heap.get? b = some o → (s₁.heap.push { cls := .type "dict_valueiterator", data := .fields #[.ref d, .int 0 0, .int kvs.length 0, .int ep 0] }).get? b = some o := fun b o e => Heap.get?_push_of_some _ e
  refine block_T (S := fun nw => (d, od) ∈ nw) (Walks.dictValues (knd := PySem.intKind prog w) hh s₁.heap.objs.size d (Nat.ne_of_lt hlt) kvs ep) hsz (fun i h st => by obtain ⟨o, e, _⟩ := st.1; exact ⟨o, e⟩)
    (fun i h h' o nw st e e' k N' S' => ⟨by obtain ⟨o', q, r⟩ := st.1; rw [e] at q; cases q; exact ⟨o, e', r⟩, ha.dictAt (N' _ S').1⟩) hcell hkind hx ⟨⟨_, Heap.get?_push_size _ rfl, rfl, rfl⟩, ha.dictAt (Heap.get?_push_of_some _ hg)⟩ (fun b hb => ?_)
      (F.keeps up) (N.grown up) (Nat.ne_of_lt F.ns.lt) (next_is_new F) (fun p hp => Nat.ne_of_lt (Heap.lt_size (N p hp).1)) hd (R _ ⟨_, rfl⟩) ?_
  · show b < (s₁.heap.push _).objs.size
    rw [Heap.size_push]
    rcases List.mem_cons.mp hb with rfl | hb
    · exact Nat.lt_succ_self _
    · rw [List.mem_singleton.mp hb]; exact Nat.lt_succ_of_lt hlt
  · intro D C h tk m' ys news' F' N' o1 hn hC₀ hD₀ hCL hDL hCD offC fin
    refine ⟨m', hn, fun h'' hs'' => fin D h'' tk (F'.change hs'' hCL hC₀) (fun p hp => ?_) o1⟩
    refine ⟨hs''.extBut _ _ ?_ (N' p hp).1, (N' p hp).2⟩
    rcases List.mem_cons.mp hp with rfl | hp
    · exact Ne.symm hCD
    · exact offC p hp
theorem off1_of {D : Addr} : ∀ {l : List (Addr × Obj)}, Off1 D l → ∀ p ∈ l, p.1 ≠ D
  | [], _, _, h => nomatch h
  | _ :: _, x, p, h => by
    rcases List.mem_cons.mp h with rfl | h
    · exact x.1
    · exact off1_of x.2 p h
end

theorem anew_I_prep : True := by w_top off; first | (walk1; done) | trivial
section Priv
local macro_rules | `(tactic| walk_at "getMethod ref") => `(tactic| (k_here; (with_reducible show wpAny _ _ (getMethod (Value.ref _) (Str.ofString "values") _) _ _ _); k_dflt (refine kdl_method (knd := PySem.intKind _ _) PySem.F.slot_dict_values PySem.F.type_dict_values (by k_asm) (by k_mem) (by with_reducible assumption) ?_)))
set_option hygiene false in
local macro_rules | `(tactic| walk_at "i:vals") => `(tactic| (intro V' h' F' N' lV'; (try k_lt lV')))
local macro_rules | `(tactic| walk_at "call builtin:dict.values") => `(tactic| (k_here; (with_reducible show wpAny _ _ (call (Value.builtin "dict.values") [Value.ref _]) _ _ _); k_dflt (refine kdl_view_values (knd := PySem.intKind _ _) (by k_asm) (by k_asm) (by k_mem) (by with_reducible assumption) (by with_reducible assumption) ?_); walk_at "i:vals"))
local macro_rules | `(tactic| walk_at "eval ListComp") => `(tactic| (k_here; with_reducible refine stop_in ?_))
set_option maxRecDepth 100000 in
set_option maxHeartbeats 4000000 in
theorem prep_c : ∀ {w : World} {p : Program} {loose : List Str} {mean : ExcName → Option Value} {mg mb : Str → Option Value} {dp un : Nat} {gd : Option (List Code)} {cn : Str} {cs : Scope} {a : Addr} {ccd : Value} {cl : List (Str × Addr)} {outer : List Env} {A₀ : Around} {base h₀ : Heap} {L : Addr} {m : Str → Option Value} {s : Shared} {Q E : Value → Shared → Prop} {D Dd n2i : Nat} {t1 t2 t3 t4 : Tok} {v3 v4 : Value} {od : Obj} {ns : List NI} {rank : Int → Nat} {rest : List (Addr × Obj)},
    Below A₀ base outer h₀ → Fr h₀ L s.heap m → (Mine.hd.heap_1 w.params).In h₀ → Top p loose mean mg mb h₀ → cs.kind = .function → (Mine.hd.heap_1 w.params).In base → Top p loose mean mg mb base → dp < 850 → un < 8500 → News h₀ L s.heap (sL w D Dd n2i t1 t2 t3 t4 .none v3 v4 od ns rest) →
    od.IsDictOf (PySem.intKind PySem.Challenge.rw_mg0054_01.row.prog w) (kvsOf ns) → (n2i == sysModules) = false → SW D Dd n2i ns rest → ns.length < 90 → (∀ i ∈ ns, i.sc.length < 90) → (∀ i ∈ ns, ∀ x ∈ i.sc, x ∈ ns.map (·.k) ∧ rank i.k < rank x) →
    (∀ R rv rn h₀' h' tk', KtsTurn (outer.filterMap (·.frame)) h₀ h₀' → Fr h₀' L h' m → News h₀' L h' ((R, listOf rv.toArray rn) :: sL w D Dd n2i t1 t2 t3 t4 (.ref R) v3 v4 od ns rest) → SW D Dd n2i ns ((R, listOf #[] 0) :: rest) → IntsAre rv ((ns.filter (fun i => i.np = 0)).map (·.k)) →
      Below A₀ base outer h₀' → (Mine.hd.heap_1 w.params).In h₀' → Top p loose mean mg mb h₀' → Q .none { s with heap := h', toks := tk' }) →
    wpAny (model PySem.Challenge.rw_mg0054_01.row.prog w) (ktrTop dp un gd cn cs L a ccd cl outer) (call (.ref 127) [.ref D]) Q E s := by
  k_fill
  intro w p loose mean mg mb dp un gd cn cs a ccd cl outer A₀ base h₀ L m s Q E D Dd n2i t1 t2 t3 t4 v3 v4 od ns rank rest B F X T hk XB TB hdp hun N hod hlo hS hlen hsl hac hret
  refine wpAny_call ?_
  k_dflt (refine' code_defT ?k1 ?k2 ?k3 ?k4 ?k5 ?xb ?tb ?kA ?kF ?kK ?k6 ?k7 ?k8 ?k9 ?kB ?_ ?c2 ?c3 ?c4 ?c5; (case kA => exact rfl); (case kF => exact rfl); (case kK => assumption); (case k1 => k_asm); (case k2 => k_asm); (case k3 => k_asm); (case k4 => k_asm); (case k5 => k_asm); (case xb => k_asm); (case tb => k_asm); (case k6 => k_is); (case k7 => k_is); (case k8 => ktr_room); (case k9 => exact BindsTo.of_eq rfl); (case c5 => decide); (case kB => exact locs rfl); (case c2 => exact rfl); (case c3 => exact rfl); (case c4 => exact rfl); k_whole; intro g' L' h' FG' F' N' B' X' T'; (try dsimp only); (try k_fold))
  ((try (with_reducible refine pin_postA ?_; intros)); k_steps)
  (refine stop_out ?_; (try (with_reducible refine pin_postQ ?_; intros)))
  k_dflt (refine ListComp_V (F₀ := by k_asm) (by with_unfolding_all rfl) (by decide) (by rfl) (by decide) (by rfl) ?_)
  ((try (with_reducible refine pin_postA ?_; intros)); k_steps)
  rename Fr _ _ _ _ => F1
  rename News _ _ _ _ => N1
  refine ⟨V', n2i, od, kvsOf ns, _, rfl, rfl, F1, N1, .head _, by k_mem, hod, ?_, ?_⟩
  · rw [sizeLine_eq]; simp only [kvsOf, List.length_map]; omega
  rintro s₂ ⟨hh, rfl⟩
  refine compT_ind (fun i ys => IntsAre ys (((ns.take i).filter (fun i => i.np = 0)).map (·.k))) (by k_mem) (by simp; exact .nil) ?_ ?_
  · intro i ys v I oI C oC E0 m₂ h tk E' hi hJ hv hC hx F2 N2
    obtain ⟨k, hk2⟩ := hv
    simp only [kvsOf, List.getElem?_map, Option.map_eq_some_iff] at hk2
    obtain ⟨j, hj, e⟩ := hk2
    cases e
    have hjm : j ∈ ns := List.mem_of_getElem? hj
    have N3 := news_sub (q := (j.a, niObj j.k j.kt j.d j.l j.np j.nt) :: (j.d, dictOf [] 0) :: (I, oI) :: (C, oC) :: (E0, LCg.lst ys) :: (V', { cls := .type "dict_values", data := .fields #[.ref n2i] }) :: sL w D Dd n2i t1 t2 t3 t4 .none v3 v4 od ns rest) N2 (by
      intro p hp
      rcases List.mem_cons.mp hp with rfl | hp
      · exact .tail _ (.tail _ (.tail _ (.tail _ (.tail _ (.tail _ (.tail _ (List.mem_append_left _ (mem_nled.mpr ⟨j, hjm, by simp [NI.led]⟩))))))))
      rcases List.mem_cons.mp hp with rfl | hp
      · exact .tail _ (.tail _ (.tail _ (.tail _ (.tail _ (.tail _ (.tail _ (List.mem_append_left _ (mem_nled.mpr ⟨j, hjm, by simp [NI.led]⟩))))))))
      · exact hp)
    have etk : ns.take (i + 1) = ns.take i ++ [j] := by rw [List.take_add_one, hj]; rfl
    clear N1 N2 F1
    ((try (with_reducible refine pin_postA ?_; intros)); k_steps)
    · rename Fr _ _ _ _ => F5
      rename News _ _ _ _ => N5
      rename j.np = 0 => hz
      refine turn_end F5 N5 (fun p hp => .tail _ (.tail _ hp)) ?_
      rw [etk, List.filter_append, List.map_append]
      simp only [List.filter_cons, hz, decide_true, if_true, List.filter_nil, List.map_cons, List.map_nil]
      exact ints_snoc hJ
    · rename Fr _ _ _ _ => F5
      rename News _ _ _ _ => N5
      rename j.np ≠ 0 => hz
      refine turn_end F5 N5 (fun p hp => .tail _ (.tail _ hp)) ?_
      rw [etk, List.filter_append, List.map_append]
      simp only [List.filter_cons, hz, decide_false, Bool.false_eq_true, if_false, List.filter_nil, List.map_nil, List.append_nil]
      exact hJ
  · intro ys hJ D2 h2 tk2 F2 N2 o2
    have o3 := off1_of o2
    rw [List.take_of_length_le (by simp [kvsOf])] at hJ
    have hS2 : SW D Dd n2i ns ((D2, LCg.lst ys) :: (V', { cls := .type "dict_values", data := .fields #[.ref n2i] }) :: rest) := by
      refine SW.more2 (o1 := LCg.lst ys) (o2 := LCg.lst ys) (o3 := LCg.lst ys) (hS.more (x := V') ⟨by omega, by omega, by omega, by omega⟩) ?_
      intro p hp
      simp only [List.mem_cons, List.mem_append] at hp
      rcases hp with rfl | rfl | rfl | hp | rfl | hp
      · have := o3 _ (.tail _ (.head _)); exact this
      · have := o3 _ (.tail _ (.tail _ (.head _))); exact this
      · have := o3 _ (.tail _ (.tail _ (.tail _ (.head _)))); exact this
      · exact o3 p (.tail _ (.tail _ (.tail _ (.tail _ (List.mem_append_left _ hp)))))
      · have := o3 _ (.head _); exact this
      · exact o3 p (.tail _ (.tail _ (.tail _ (.tail _ (List.mem_append_right _ hp)))))
    obtain ⟨rest2, hr2⟩ : ∃ r, r = (D2, LCg.lst ys) :: (V', ({ cls := .type "dict_values", data := .fields #[.ref n2i] } : Obj)) :: rest := ⟨_, rfl⟩
    have N3 := news_sub (q := sL w D Dd n2i t1 t2 t3 t4 .none v3 v4 od ns rest2) N2 (by rw [hr2]; walk_at "sub")
    have hmT : (D2, LCg.lst ys) ∈ rest2 := by rw [hr2]; exact .head _
    rw [← hr2] at hS2
    have p1 := hS2.ne1
    have p3 := hS2.ne3
    have p2 := hS2.a2
    clear N1 N2 F1 o2 o3
    ((try (with_reducible refine pin_postA ?_; intros)); k_steps)
    (refine stop_out ?_; (try (with_reducible refine pin_postQ ?_; intros)))
    rename Fr _ _ _ _ => F5
    rename News _ _ _ _ => N5
    refine cycle_c (rank := rank) B' F5 X' T' rfl XB TB ?_ ?_ N5 hod hlo hS2 hlen hsl hac ?_
    · ktr_room
    · ktr_units
    intro h₀' h' tk' Tu F6 N6 B6 X6 T6
    clear F5 N5
    ((try (with_reducible refine pin_postA ?_; intros)); k_steps)
    rename Fr _ _ _ _ => F7
    rename News _ _ _ _ => N7
    subst hr2
    refine ⟨h₀', _, _, _, Tu, F7, news_sub N7 (q := (D2, LCg.lst ys) :: sL w D Dd n2i t1 t2 t3 t4 (.ref D2) v3 v4 od ns rest) (by walk_at "sub"), fun g9 T9 F9 N9 B9 X9 Tp9 => hret _ _ _ _ _ _ T9 F9 N9 ?_ hJ B9 X9 Tp9⟩
    exact (hS2.swap.less).obj
end Priv

theorem anew_J_heap : True := by w_top off; first | (walk1; done) | trivial
/-! heaps: what the mirrors keep -/
noncomputable def HP (k : Nat) (ns : List Int) : Prop := ∀ i, 0 < i → i < ns.length → k ≤ (i - 1) / 2 → ns.getD ((i - 1) / 2) 0 ≤ ns.getD i 0
theorem getD_set {ns : List Int} {i j : Nat} {x : Int} (hi : i < ns.length) : (ns.set i x).getD j 0 = if i = j then x else ns.getD j 0 := by
  simp only [List.getD_eq_getElem?_getD, List.getElem?_set]
  split
  · rename_i h; subst h; simp [hi]
  · rfl
theorem set_swap_perm {l : List Int} {i j : Nat} (hi : i < l.length) (hj : j < l.length) (x : Int) : ((l.set i (l.getD j 0)).set j x).Perm (l.set i x) := by
  by_cases e : i = j
  · subst e; simp
  · have h := List.set_set_perm (as := l.set i x) (i := i) (j := j) (by simpa using hi) (by simpa using hj)
    rw [List.getElem_set_self, List.getElem_set_ne e, List.set_set] at h
    rwa [List.getD_eq_getElem?_getD, List.getElem?_eq_getElem hj]
inductive Desc (k : Nat) : Nat → Prop
  | here : Desc k k
  | down {i : Nat} : k < i → Desc k ((i - 1) / 2) → Desc k i
theorem Desc.le {k i : Nat} (h : Desc k i) : k ≤ i := by cases h <;> (first | lia | omega)
theorem Desc.par {k i : Nat} (h : Desc k i) (hk : k ≠ i) : Desc k ((i - 1) / 2) := by
  cases h with
  | here => exact absurd rfl hk
  | down _ h => exact h
theorem desc_zero : ∀ i, Desc 0 i := by
  intro i
  induction i using Nat.strongRecOn with
  | ind i ih =>
    by_cases h : i = 0
    · subst h; exact .here
    · exact .down (by (first | lia | omega)) (ih _ (by (first | lia | omega)))
theorem sd_perm {x : Int} {st : Nat} : ∀ {ps : Nat} {ns : List Int}, ps < ns.length → (sd x st ns ps).Perm (ns.set ps x) := by
  intro ps
  induction ps using Nat.strongRecOn with
  | ind ps ih =>
    intro ns h
    unfold sd
    split
    · split
      · refine (ih _ (by (first | lia | omega)) (by rw [List.length_set]; (first | lia | omega))).trans ?_
        exact set_swap_perm h (by (first | lia | omega)) x
      · exact .refl _
    · exact .refl _
theorem su_perm {x : Int} : ∀ {k : Nat} {ns : List Int} {ps : Nat}, ns.length - ps ≤ k → ps < ns.length → ((su ns ps).1.set (su ns ps).2 x).Perm (ns.set ps x) ∧ (su ns ps).2 < ns.length := by
  intro k
  induction k with
  | zero => intro ns ps h h'; (first | lia | omega)
  | succ k ih =>
    intro ns ps h h'
    unfold su
    split
    · split
      · have := ih (ns := ns.set ps (ns.getD (2 * ps + 1 + 1) 0)) (ps := 2 * ps + 1 + 1) (by rw [List.length_set]; (first | lia | omega)) (by rw [List.length_set]; (first | lia | omega))
        rw [List.length_set] at this
        exact ⟨this.1.trans (set_swap_perm h' (by (first | lia | omega)) x), this.2⟩
      · have := ih (ns := ns.set ps (ns.getD (2 * ps + 1) 0)) (ps := 2 * ps + 1) (by rw [List.length_set]; (first | lia | omega)) (by rw [List.length_set]; (first | lia | omega))
        rw [List.length_set] at this
        exact ⟨this.1.trans (set_swap_perm h' (by (first | lia | omega)) x), this.2⟩
    · exact ⟨.refl _, h'⟩
theorem set_getD_self {ns : List Int} {ps : Nat} (h : ps < ns.length) : ns.set ps (ns.getD ps 0) = ns := by
  rw [List.getD_eq_getElem?_getD, List.getElem?_eq_getElem h]; simp
theorem sup_perm {ns : List Int} {ps : Nat} (h : ps < ns.length) : (sup ns ps).Perm ns := by
  unfold sup
  have h1 := su_perm (x := ns.getD ps 0) (Nat.le_refl _) h
  have hl := su_length (ns := ns) (ps := ps) (Nat.le_refl _)
  refine (sd_perm (by rw [List.length_set, hl]; exact h1.2)).trans ?_
  rw [List.set_set]
  refine h1.1.trans ?_
  rw [set_getD_self h]
structure SDI (k : Nat) (ns : List Int) (ps : Nat) (x : Int) : Prop where
  de : Desc k ps
  lt : ps < ns.length
  a : ∀ i, 0 < i → i < ns.length → k ≤ (i - 1) / 2 → i ≠ ps → (i - 1) / 2 ≠ ps → ns.getD ((i - 1) / 2) 0 ≤ ns.getD i 0
  b : ∀ i, 0 < i → i < ns.length → (i - 1) / 2 = ps → x ≤ ns.getD i 0
  c : ps ≠ k → ∀ i, 0 < i → i < ns.length → (i - 1) / 2 = ps → ns.getD ((ps - 1) / 2) 0 ≤ ns.getD i 0
theorem sd_HP {x : Int} {k : Nat} : ∀ {ps : Nat} {ns : List Int}, SDI k ns ps x → HP k (sd x k ns ps) := by
  intro ps
  induction ps using Nat.strongRecOn with
  | ind ps ih =>
    intro ns h
    have hlt := h.lt
    have hle := h.de.le
    unfold sd
    split
    · rename_i hk
      have hd := h.de.par (by (first | lia | omega))
      have hdl := hd.le
      split
      · rename_i hx
        refine ih _ (by (first | lia | omega)) ⟨hd, by rw [List.length_set]; (first | lia | omega), ?_, ?_, ?_⟩
        · intro i h0 hi hk' hi1 hi2
          rw [List.length_set] at hi
          rw [getD_set hlt, getD_set hlt]
          have : ps ≠ i := by rintro rfl; exact hi2 rfl
          rw [if_neg this]
          split
          · rename_i e
            exact h.c (by (first | lia | omega)) i h0 hi e.symm
          · exact h.a i h0 hi hk' (Ne.symm this) (by (first | lia | omega))
        · intro i h0 hi hp
          rw [List.length_set] at hi
          rw [getD_set hlt]
          split
          · (first | lia | omega)
          · rename_i e
            have := h.a i h0 hi (by (first | lia | omega)) (by (first | lia | omega)) (by (first | lia | omega))
            rw [hp] at this
            (first | lia | omega)
        · intro hne i h0 hi hp
          rw [List.length_set] at hi
          rw [getD_set hlt, getD_set hlt, if_neg (by (first | lia | omega))]
          have hd2 := (hd.par (Ne.symm hne)).le
          have h1 := h.a ((ps - 1) / 2) (by (first | lia | omega)) (by (first | lia | omega)) hd2 (by (first | lia | omega)) (by (first | lia | omega))
          split
          · exact h1
          · have := h.a i h0 hi (by (first | lia | omega)) (by (first | lia | omega)) (by (first | lia | omega))
            rw [hp] at this
            (first | lia | omega)
      · rename_i hx
        intro i h0 hi hk'
        rw [List.length_set] at hi
        rw [getD_set hlt, getD_set hlt]
        by_cases e : ps = i
        · subst e
          rw [if_pos rfl, if_neg (by (first | lia | omega))]
          (first | lia | omega)
        · rw [if_neg e]
          split
          · rename_i e2; exact h.b i h0 hi e2.symm
          · exact h.a i h0 hi hk' (Ne.symm e) (by (first | lia | omega))
    · intro i h0 hi hk'
      rw [List.length_set] at hi
      rw [getD_set hlt, getD_set hlt, if_neg (show ¬ ps = i by (first | lia | omega))]
      split
      · rename_i e2; exact h.b i h0 hi e2.symm
      · exact h.a i h0 hi hk' (by (first | lia | omega)) (by (first | lia | omega))
structure SUI (k : Nat) (ns : List Int) (ps : Nat) : Prop where
  de : Desc k ps
  lt : ps < ns.length
  a : ∀ i, 0 < i → i < ns.length → k ≤ (i - 1) / 2 → i ≠ ps → (i - 1) / 2 ≠ ps → ns.getD ((i - 1) / 2) 0 ≤ ns.getD i 0
  c : ps ≠ k → ∀ i, 0 < i → i < ns.length → (i - 1) / 2 = ps → ns.getD ((ps - 1) / 2) 0 ≤ ns.getD i 0
theorem SUI.step {k : Nat} {ns : List Int} {ps c : Nat} (h : SUI k ns ps) (hc : c < ns.length) (h0 : 0 < c) (hp : (c - 1) / 2 = ps) (hm : ∀ i, 0 < i → i < ns.length → (i - 1) / 2 = ps → ns.getD c 0 ≤ ns.getD i 0) :
    SUI k (ns.set ps (ns.getD c 0)) c := by
  have hlt := h.lt
  have hle := h.de.le
  refine ⟨.down (by (first | lia | omega)) (by rw [hp]; exact h.de), by rwa [List.length_set], ?_, ?_⟩
  · intro i i0 hi hk' hi1 hi2
    rw [List.length_set] at hi
    rw [getD_set hlt, getD_set hlt]
    by_cases e : ps = i
    · subst e
      rw [if_pos rfl, if_neg (by (first | lia | omega))]
      exact h.c (by (first | lia | omega)) c h0 hc hp
    · rw [if_neg e]
      split
      · rename_i e2; exact hm i i0 hi e2.symm
      · exact h.a i i0 hi hk' (Ne.symm e) (by (first | lia | omega))
  · intro _ i i0 hi hp2
    rw [List.length_set] at hi
    rw [getD_set hlt, getD_set hlt, if_pos (by (first | lia | omega)), if_neg (by (first | lia | omega))]
    have := h.a i i0 hi (by (first | lia | omega)) (by (first | lia | omega)) (by (first | lia | omega))
    rw [hp2] at this
    exact this
theorem su_SUI {k : Nat} : ∀ {n : Nat} {ns : List Int} {ps : Nat}, ns.length - ps ≤ n → SUI k ns ps → SUI k (su ns ps).1 (su ns ps).2 ∧ ns.length ≤ 2 * (su ns ps).2 + 1 := by
  intro n
  induction n with
  | zero => intro ns ps h h'; have := h'.lt; (first | lia | omega)
  | succ n ih =>
    intro ns ps h h'
    unfold su
    split
    · rename_i h1
      split
      · rename_i h2
        have := ih (ns := ns.set ps (ns.getD (2 * ps + 1 + 1) 0)) (ps := 2 * ps + 1 + 1) (by rw [List.length_set]; (first | lia | omega)) (h'.step h2.1 (by (first | lia | omega)) (by (first | lia | omega)) (by
          intro i i0 hi hp
          have : i = 2 * ps + 1 ∨ i = 2 * ps + 1 + 1 := by (first | lia | omega)
          rcases this with rfl | rfl <;> (first | lia | omega)))
        rw [List.length_set] at this
        exact this
      · rename_i h2
        have := ih (ns := ns.set ps (ns.getD (2 * ps + 1) 0)) (ps := 2 * ps + 1) (by rw [List.length_set]; (first | lia | omega)) (h'.step h1 (by (first | lia | omega)) (by (first | lia | omega)) (by
          intro i i0 hi hp
          have : i = 2 * ps + 1 ∨ i = 2 * ps + 1 + 1 := by (first | lia | omega)
          rcases this with rfl | rfl
          · (first | lia | omega)
          · have := h2; (first | lia | omega)))
        rw [List.length_set] at this
        exact this
    · rename_i h1
      exact ⟨h', by (first | lia | omega)⟩
theorem sup_HP {k : Nat} {ns : List Int} (h : HP (k + 1) ns) (hk : k < ns.length) : HP k (sup ns k) := by
  have h1 : SUI k ns k := ⟨.here, hk, fun i i0 hi h2 h3 h4 => h i i0 hi (by (first | lia | omega)), fun h => absurd rfl h⟩
  obtain ⟨h2, h3⟩ := su_SUI (Nat.le_refl _) h1
  have hl := su_length (ns := ns) (ps := k) (Nat.le_refl _)
  unfold sup
  have hlt := h2.lt
  refine sd_HP ⟨h2.de, by rw [List.length_set]; exact hlt, ?_, ?_, ?_⟩
  · intro i i0 hi hk' hi1 hi2
    rw [List.length_set] at hi
    rw [getD_set hlt, getD_set hlt, if_neg (Ne.symm hi1), if_neg (Ne.symm hi2)]
    exact h2.a i i0 hi hk' hi1 hi2
  · intro i i0 hi hp
    rw [List.length_set, hl] at hi
    (first | lia | omega)
  · intro _ i i0 hi hp
    rw [List.length_set, hl] at hi
    (first | lia | omega)
theorem hpf_ok : ∀ {k : Nat} {ns : List Int}, k ≤ ns.length → HP k ns → HP 0 (hpf ns k) ∧ (hpf ns k).Perm ns := by
  intro k
  induction k with
  | zero => intro ns _ h; exact ⟨h, .refl _⟩
  | succ k ih =>
    intro ns hl h
    obtain ⟨a, b⟩ := ih (ns := sup ns k) (by rw [sup_length]; (first | lia | omega)) (sup_HP h (by (first | lia | omega)))
    exact ⟨a, b.trans (sup_perm (by (first | lia | omega)))⟩
theorem heapify_ok {ns : List Int} : HP 0 (hpf ns (ns.length / 2)) ∧ (hpf ns (ns.length / 2)).Perm ns := hpf_ok (by (first | lia | omega)) fun i h0 hi hk => by (first | lia | omega)
theorem HP.root {ns : List Int} (h : HP 0 ns) : ∀ i, i < ns.length → ns.getD 0 0 ≤ ns.getD i 0 := by
  intro i
  induction i using Nat.strongRecOn with
  | ind i ih =>
    intro hi
    by_cases e : i = 0
    · subst e; exact Int.le_refl _
    · exact Int.le_trans (ih _ (by (first | lia | omega)) (by (first | lia | omega))) (h i (by (first | lia | omega)) hi (Nat.zero_le _))
theorem HP.min {ns : List Int} (h : HP 0 ns) : ∀ y ∈ ns, ns.getD 0 0 ≤ y := by
  intro y hy
  obtain ⟨i, hi, rfl⟩ := List.getElem_of_mem hy
  have := h.root i hi
  rwa [List.getD_eq_getElem?_getD (i := i), List.getElem?_eq_getElem hi] at this
theorem push_ok {h : List Int} {x : Int} (hh : HP 0 h) : HP 0 (sd x 0 (h ++ [x]) h.length) ∧ (sd x 0 (h ++ [x]) h.length).Perm (h ++ [x]) := by
  have hl : (h ++ [x]).length = h.length + 1 := by simp
  refine ⟨sd_HP ⟨desc_zero _, by (first | lia | omega), ?_, ?_, ?_⟩, ?_⟩
  · intro i i0 hi _ h1 h2
    have e : ∀ j, j < h.length → (h ++ [x]).getD j 0 = h.getD j 0 := by intro j hj; simp [List.getD_eq_getElem?_getD, List.getElem?_append_left hj]
    rw [e _ (by (first | lia | omega)), e _ (by (first | lia | omega))]
    exact hh i i0 (by (first | lia | omega)) (Nat.zero_le _)
  · intro i i0 hi hp; (first | lia | omega)
  · intro _ i i0 hi hp; (first | lia | omega)
  · refine (sd_perm (by (first | lia | omega))).trans ?_
    have : (h ++ [x]).set h.length x = h ++ [x] := by simp
    rw [this]
theorem hpop_ok {ns : List Int} {x : Int} (h : HP 0 (ns ++ [x])) : (∀ y ∈ ns ++ [x], (hpop ns x).1 ≤ y) ∧ ((hpop ns x).1 :: (hpop ns x).2).Perm (ns ++ [x]) ∧ HP 0 (hpop ns x).2 := by
  unfold hpop
  split
  · rename_i e; subst e
    refine ⟨by simp, .refl _, fun i h0 hi _ => by simp at hi⟩
  · rename_i e
    obtain ⟨a, r, rfl⟩ := List.exists_cons_of_ne_nil e
    have e0 : ((a :: r) ++ [x]).getD 0 0 = a := rfl
    have hm := h.min
    rw [e0] at hm
    refine ⟨by simpa using hm, ?_, ?_⟩
    · show (a :: sup (x :: r) 0).Perm (a :: (r ++ [x]))
      refine .cons _ ((sup_perm (by simp)).trans ?_)
      exact (List.perm_append_singleton x r).symm
    · refine sup_HP ?_ (by simp)
      intro i i0 hi hk
      have hi' : i < r.length + 1 := by simpa using hi
      have e1 : ∀ j, 0 < j → j < r.length + 1 → ((a :: r).set 0 x).getD j 0 = ((a :: r) ++ [x]).getD j 0 := by
        intro j j0 hj
        obtain ⟨j, rfl⟩ := Nat.exists_eq_succ_of_ne_zero (Nat.ne_of_gt j0)
        have hj' : j < r.length := by (first | lia | omega)
        simp [List.getD_eq_getElem?_getD, List.getElem?_append_left hj']
      rw [e1 _ (by (first | lia | omega)) (by (first | lia | omega)), e1 _ i0 hi']
      exact h i i0 (by simp; (first | lia | omega)) (Nat.zero_le _)

theorem anew_J_graph : True := by w_top off; first | (walk1; done) | trivial
/-! the sorter's graph as plain data: what the adds build -/
theorem npOf_gGet {k x : Int} {G : GS} : npOf x (gGet k G) = npOf x G := by
  unfold gGet
  split
  · rfl
  · unfold npOf
    rw [List.find?_append]
    cases h : G.find? (fun e => decide (e.1 = x)) with
    | some e => simp
    | none => by_cases hk : k = x <;> simp [List.find?, hk]
theorem scOf_gGet {k x : Int} {G : GS} : scOf x (gGet k G) = scOf x G := by
  unfold gGet
  split
  · rfl
  · unfold scOf
    rw [List.find?_append]
    cases h : G.find? (fun e => decide (e.1 = x)) with
    | some e => simp
    | none => by_cases hk : k = x <;> simp [List.find?, hk]
theorem npOf_gNp_ne {k x : Int} {f : Int → Int} {G : GS} (h : x ≠ k) : npOf x (gNp k f G) = npOf x G := by
  unfold npOf gNp
  induction G with
  | nil => rfl
  | cons e r ih =>
    by_cases he : e.1 = k
    · have : e.1 ≠ x := fun q => h (q.symm.trans he)
      simpa [he, this, Ne.symm h] using ih
    · by_cases hx : e.1 = x
      · simp [he, hx, h]
      · simpa [he, hx] using ih
theorem scOf_gNp {k x : Int} {f : Int → Int} {G : GS} : scOf x (gNp k f G) = scOf x G := by
  unfold scOf gNp
  induction G with
  | nil => rfl
  | cons e r ih =>
    by_cases he : e.1 = k
    · by_cases hx : e.1 = x
      · have hk : k = x := he.symm.trans hx
        simp [he, hk]
      · have hk : ¬ k = x := fun q => hx (he.trans q)
        simpa [he, hx, hk] using ih
    · by_cases hx : e.1 = x
      · have hk : ¬ x = k := fun q => he (hx.trans q)
        simp [he, hx, hk]
      · simpa [he, hx] using ih
theorem npOf_gSc {k x y : Int} {G : GS} : npOf x (gSc k y G) = npOf x G := by
  unfold npOf gSc
  induction G with
  | nil => rfl
  | cons e r ih =>
    by_cases he : e.1 = k
    · by_cases hx : e.1 = x
      · have hk : k = x := he.symm.trans hx
        simp [he, hk]
      · have hk : ¬ k = x := fun q => hx (he.trans q)
        simpa [he, hx, hk] using ih
    · by_cases hx : e.1 = x
      · have hk : ¬ x = k := fun q => he (hx.trans q)
        simp [he, hx, hk]
      · simpa [he, hx] using ih
theorem scOf_gSc_ne {k x y : Int} {G : GS} (h : x ≠ k) : scOf x (gSc k y G) = scOf x G := by
  unfold scOf gSc
  induction G with
  | nil => rfl
  | cons e r ih =>
    by_cases he : e.1 = k
    · have : e.1 ≠ x := fun q => h (q.symm.trans he)
      simpa [he, this, Ne.symm h] using ih
    · by_cases hx : e.1 = x
      · simp [he, hx, h]
      · simpa [he, hx] using ih
theorem scOf_gSc {k y : Int} {G : GS} (h : k ∈ G.map (·.1)) : scOf k (gSc k y G) = scOf k G ++ [y] := by
  unfold scOf gSc
  induction G with
  | nil => simp at h
  | cons e r ih =>
    by_cases he : e.1 = k
    · simp [he]
    · have h' : k ∈ r.map (·.1) := by
        rcases List.mem_cons.mp h with h | h
        · exact absurd h.symm he
        · exact h
      simpa [he] using ih h'
theorem gSc_keys {k y : Int} {G : GS} : (gSc k y G).map (·.1) = G.map (·.1) := by
  simp only [gSc, List.map_map]
  refine List.map_congr_left fun e _ => ?_
  simp only [Function.comp]
  split <;> rfl
theorem gGet_keys {k x : Int} {G : GS} : x ∈ (gGet k G).map (·.1) ↔ x ∈ G.map (·.1) ∨ x = k := by
  unfold gGet
  split
  · rename_i h
    constructor
    · exact .inl
    · rintro (h' | rfl)
      · exact h'
      · exact h
  · simp
/-- one add: (name, none) or (name, what it waits for) -/
noncomputable def opG (G : GS) (o : Int × Option Int) : GS :=
  match o.2 with
  | none => gGet o.1 G
  | some k2 => gSc k2 o.1 (gGet k2 (gNp o.1 (· + 1) (gGet o.1 G)))
noncomputable def edg (os : List (Int × Option Int)) : List (Int × Int) := os.filterMap fun o => o.2.map fun y => (o.1, y)
structure GOk (G : GS) (os : List (Int × Option Int)) : Prop where
  np : ∀ x, npOf x G = ((edg os).countP (fun e => e.1 == x) : Nat)
  sc : ∀ x, scOf x G = ((edg os).filter (fun e => e.2 == x)).map (·.1)
  ks : ∀ x, x ∈ G.map (·.1) ↔ ∃ o ∈ os, x = o.1 ∨ o.2 = some x
theorem GOk.nil : GOk [] [] := ⟨fun x => by simp [npOf, edg], fun x => by simp [scOf, edg], fun x => by simp⟩
theorem GOk.step {G : GS} {os : List (Int × Option Int)} (h : GOk G os) (o : Int × Option Int) : GOk (opG G o) (os ++ [o]) := by
  obtain ⟨k, o2⟩ := o
  cases o2 with
  | none =>
    have e : edg (os ++ [(k, none)]) = edg os := by simp [edg]
    refine ⟨fun x => ?_, fun x => ?_, fun x => ?_⟩
    · rw [e, ← h.np x]; exact npOf_gGet
    · rw [e, ← h.sc x]; exact scOf_gGet
    · show x ∈ (gGet k G).map (·.1) ↔ _
      rw [gGet_keys, h.ks x]
      constructor
      · rintro (⟨o, ho, h'⟩ | rfl)
        · exact ⟨o, List.mem_append_left _ ho, h'⟩
        · exact ⟨_, List.mem_append_right _ (.head _), .inl rfl⟩
      · rintro ⟨o, ho, h'⟩
        rcases List.mem_append.mp ho with ho | ho
        · exact .inl ⟨o, ho, h'⟩
        · rw [List.mem_singleton.mp ho] at h'
          rcases h' with h' | h'
          · exact .inr h'
          · cases h'
  | some k2 =>
    have e : edg (os ++ [(k, some k2)]) = edg os ++ [(k, k2)] := by simp [edg]
    have hk : k ∈ (gGet k G).map (·.1) := gGet_keys.mpr (.inr rfl)
    have hk2 : k2 ∈ (gGet k2 (gNp k (· + 1) (gGet k G))).map (·.1) := gGet_keys.mpr (.inr rfl)
    refine ⟨fun x => ?_, fun x => ?_, fun x => ?_⟩
    · show npOf x (gSc k2 k (gGet k2 (gNp k (· + 1) (gGet k G)))) = _
      rw [e, npOf_gSc, npOf_gGet]
      by_cases hx : x = k
      · subst hx
        rw [npOf_gNp hk, npOf_gGet, h.np x]
        simp
      · rw [npOf_gNp_ne hx, npOf_gGet, h.np x]
        simp [Ne.symm hx]
    · show scOf x (gSc k2 k (gGet k2 (gNp k (· + 1) (gGet k G)))) = _
      rw [e]
      by_cases hx : x = k2
      · subst hx
        rw [scOf_gSc hk2, scOf_gGet, scOf_gNp, scOf_gGet, h.sc x]
        simp
      · rw [scOf_gSc_ne hx, scOf_gGet, scOf_gNp, scOf_gGet, h.sc x]
        simp [Ne.symm hx]
    · show x ∈ (gSc k2 k (gGet k2 (gNp k (· + 1) (gGet k G)))).map (·.1) ↔ _
      rw [gSc_keys, gGet_keys, gNp_keys, gGet_keys, h.ks x]
      constructor
      · rintro ((⟨o, ho, h'⟩ | rfl) | rfl)
        · exact ⟨o, List.mem_append_left _ ho, h'⟩
        · exact ⟨_, List.mem_append_right _ (.head _), .inl rfl⟩
        · exact ⟨_, List.mem_append_right _ (.head _), .inr rfl⟩
      · rintro ⟨o, ho, h'⟩
        rcases List.mem_append.mp ho with ho | ho
        · exact .inl (.inl ⟨o, ho, h'⟩)
        · rw [List.mem_singleton.mp ho] at h'
          rcases h' with h' | h'
          · exact .inl (.inr h')
          · exact .inr (Option.some.inj h').symm
theorem edg_len {os : List (Int × Option Int)} : (edg os).length ≤ os.length := List.length_filterMap_le _ _
theorem sc_entry {G : GS} (hn : (G.map (·.1)).Nodup) : ∀ e ∈ G, e.2.2 = scOf e.1 G ∧ e.2.1 = npOf e.1 G := by
  induction G with
  | nil => intro e he; cases he
  | cons a r ih =>
    intro e he
    simp only [List.map_cons, List.nodup_cons] at hn
    rcases List.mem_cons.mp he with rfl | he
    · simp [scOf, npOf]
    · have hne : ¬ a.1 = e.1 := fun q => hn.1 (q ▸ List.mem_map_of_mem he)
      have := ih hn.2 e he
      unfold scOf npOf at this ⊢
      simpa [hne] using this
theorem GOk.len {G : GS} {os : List (Int × Option Int)} (h : GOk G os) (hn : (G.map (·.1)).Nodup) : ∀ e ∈ G, e.2.2.length ≤ os.length := by
  intro e he
  rw [(sc_entry hn e he).1, h.sc, List.length_map]
  exact Nat.le_trans (List.length_filter_le _ _) edg_len
/-- what the adds do for one name -/
noncomputable def opsOf (row : List Int) (c : List Int) (x : Int) : List (Int × Option Int) := (x, none) :: c.map fun j => (x, some (row.getD j.toNat 0))
noncomputable def opsTo (row : List Int) (cs : List (List Int)) : Nat → List (Int × Option Int)
  | 0 => []
  | i + 1 => opsTo row cs i ++ opsOf row (cs.getD (5 - i) []) (row.getD (5 - i) 0)
theorem opsTo_len {row : List Int} {cs : List (List Int)} (h : ∀ c ∈ cs, c.length ≤ 6) : ∀ {i : Nat}, (opsTo row cs i).length ≤ 7 * i := by
  intro i
  induction i with
  | zero => exact Nat.le_refl _
  | succ i ih =>
    have hc : (cs.getD (5 - i) []).length ≤ 6 := by
      rw [List.getD_eq_getElem?_getD]
      cases hq : cs[5 - i]? with
      | none => simp
      | some c => exact h c (List.mem_of_getElem? hq)
    simp only [opsTo, opsOf, List.length_append, List.length_cons, List.length_map]
    omega
theorem mem_opsTo {row : List Int} {cs : List (List Int)} {o : Int × Option Int} : ∀ {i : Nat}, o ∈ opsTo row cs i ↔ ∃ t, t < i ∧ o ∈ opsOf row (cs.getD (5 - t) []) (row.getD (5 - t) 0) := by
  intro i
  induction i with
  | zero => simp [opsTo]
  | succ i ih =>
    rw [opsTo, List.mem_append, ih]
    constructor
    · rintro (⟨t, ht, h⟩ | h)
      · exact ⟨t, by omega, h⟩
      · exact ⟨i, by omega, h⟩
    · rintro ⟨t, ht, h⟩
      rcases Nat.lt_succ_iff_lt_or_eq.mp ht with ht | rfl
      · exact .inl ⟨t, ht, h⟩
      · exact .inr h

theorem anew_J_wi : True := by w_top off; first | (walk1; done) | trivial
/-! told's while as plain data -/
noncomputable def edgs (row : List Int) (cs : List (List Int)) : List (Int × Int) := edg (opsTo row cs 6)
theorem mem_edgs {row : List Int} {cs : List (List Int)} {x y : Int} : (x, y) ∈ edgs row cs ↔ ∃ p, p < 6 ∧ ∃ j ∈ cs.getD p [], x = row.getD p 0 ∧ y = row.getD j.toNat 0 := by
  constructor
  · intro h
    obtain ⟨o, ho, e⟩ := List.mem_filterMap.mp h
    obtain ⟨t, ht, ho⟩ := mem_opsTo.mp ho
    rcases List.mem_cons.mp ho with rfl | ho
    · simp at e
    · obtain ⟨j, hj, rfl⟩ := List.mem_map.mp ho
      simp only [Option.map_some, Option.some.injEq, Prod.mk.injEq] at e
      exact ⟨5 - t, by omega, j, hj, e.1.symm, e.2.symm⟩
  · rintro ⟨p, hp, j, hj, rfl, rfl⟩
    refine List.mem_filterMap.mpr ⟨(row.getD p 0, some (row.getD j.toNat 0)), mem_opsTo.mpr ⟨5 - p, by omega, ?_⟩, rfl⟩
    rw [show 5 - (5 - p) = p by omega]
    exact List.mem_cons_of_mem _ (List.mem_map.mpr ⟨j, hj, rfl⟩)
noncomputable def COk (cs : List (List Int)) : Prop := ∀ p, ∀ j ∈ cs.getD p [], 0 ≤ j ∧ j < (p : Int)
theorem getD_mem {row : List Int} {p : Nat} (h : p < row.length) : row.getD p 0 ∈ row := by
  rw [List.getD_eq_getElem?_getD, List.getElem?_eq_getElem h]; exact List.getElem_mem h
theorem idxOf_getD {row : List Int} {p : Nat} (hn : row.Nodup) (h : p < row.length) : row.idxOf (row.getD p 0) = p := by
  rw [List.getD_eq_getElem?_getD, List.getElem?_eq_getElem h]; exact hn.idxOf_getElem p h
noncomputable def EOk (E : List (Int × Int)) (row : List Int) : Prop := ∀ e ∈ E, e.1 ∈ row ∧ e.2 ∈ row ∧ row.idxOf e.2 < row.idxOf e.1
theorem edgs_ok {row : List Int} {cs : List (List Int)} (hl : row.length = 6) (hn : row.Nodup) (hc : COk cs) : EOk (edgs row cs) row := by
  rintro ⟨x, y⟩ he
  obtain ⟨p, hp, j, hj, rfl, rfl⟩ := mem_edgs.mp he
  have := hc p j hj
  dsimp only
  rw [idxOf_getD hn (by omega), idxOf_getD hn (by omega)]
  exact ⟨getD_mem (by omega), getD_mem (by omega), by omega⟩
theorem GOk.keys {G : GS} {row : List Int} {cs : List (List Int)} (h : GOk G (opsTo row cs 6)) (hl : row.length = 6) (hc : COk cs) : ∀ x, x ∈ G.map (·.1) ↔ x ∈ row := by
  intro x
  rw [h.ks]
  constructor
  · rintro ⟨o, ho, hx⟩
    obtain ⟨t, ht, ho⟩ := mem_opsTo.mp ho
    rcases List.mem_cons.mp ho with rfl | ho
    · rcases hx with rfl | hx
      · exact getD_mem (by omega)
      · cases hx
    · obtain ⟨j, hj, rfl⟩ := List.mem_map.mp ho
      have := hc _ j hj
      rcases hx with rfl | hx
      · exact getD_mem (by omega)
      · cases hx; exact getD_mem (by omega)
  · intro hx
    obtain ⟨p, hp, rfl⟩ := List.getElem_of_mem hx
    refine ⟨(row[p], none), mem_opsTo.mpr ⟨5 - p, by omega, ?_⟩, .inl rfl⟩
    rw [show 5 - (5 - p) = p by omega, show row.getD p 0 = row[p] by rw [List.getD_eq_getElem?_getD, List.getElem?_eq_getElem hp]; rfl]
    exact .head _
theorem edgs_len {row : List Int} {cs : List (List Int)} (h : ∀ c ∈ cs, c.length ≤ 6) : (edgs row cs).length ≤ 42 := Nat.le_trans edg_len (opsTo_len h)
noncomputable def cnd (E : List (Int × Int)) (d : List Int) (x : Int) : Prop := ∀ e ∈ E, e.1 = x → e.2 ∈ d
noncomputable def lft (E : List (Int × Int)) (d : List Int) (x : Int) : Nat := E.countP (fun e => e.1 == x && !d.contains e.2)
noncomputable def scE (E : List (Int × Int)) (m : Int) : List Int := (E.filter (fun e => e.2 == m)).map (·.1)
theorem lft_zero {E : List (Int × Int)} {d : List Int} {x : Int} : lft E d x = 0 ↔ cnd E d x := by
  unfold lft cnd
  rw [List.countP_eq_zero]
  refine ⟨fun h e he hx => ?_, fun h e he hx => ?_⟩
  · have := h e he
    simpa [hx] using this
  · simp only [Bool.and_eq_true, beq_iff_eq, Bool.not_eq_true', List.contains_eq_mem, decide_eq_false_iff_not] at hx
    exact hx.2 (h e he hx.1)
theorem lft_step {E : List (Int × Int)} {d : List Int} {m x : Int} (hm : m ∉ d) : lft E d x = lft E (d ++ [m]) x + (scE E m).count x := by
  induction E with
  | nil => rfl
  | cons e r ih =>
    unfold lft scE at *
    simp only [List.countP_cons, List.filter_cons]
    by_cases h1 : e.1 = x <;> by_cases h2 : e.2 = m
    · simp [h1, h2, hm] at ih ⊢; omega
    · by_cases h3 : e.2 ∈ d <;> simp [h1, h2, h3] at ih ⊢ <;> omega
    · simp [h1, h2] at ih ⊢; omega
    · simp [h1, h2] at ih ⊢; omega
inductive Gr (E : List (Int × Int)) (row : List Int) : List Int → List Int → Prop
  | nil {d : List Int} : (∀ x ∈ row, x ∉ d → ¬ cnd E d x) → Gr E row d []
  | cons {d : List Int} {x : Int} {t : List Int} : x ∈ row → x ∉ d → cnd E d x → (∀ y ∈ row, y ∉ d → cnd E d y → x ≤ y) → Gr E row (d ++ [x]) t → Gr E row d (x :: t)
theorem dsucc_fold : ∀ {xs : List Int} {G : GS} {rk : List Int}, (∀ x ∈ xs, x ∈ G.map (·.1) ∧ (xs.count x : Int) ≤ npOf x G) → (∀ x ∈ rk, x ∉ xs) → rk.Nodup →
    (∀ x ∈ G.map (·.1), npOf x (xs.foldl dsucc (G, rk)).1 = npOf x G - xs.count x) ∧ (∀ x, scOf x (xs.foldl dsucc (G, rk)).1 = scOf x G) ∧ (xs.foldl dsucc (G, rk)).2.Nodup ∧ (∀ x, x ∈ (xs.foldl dsucc (G, rk)).2 ↔ x ∈ rk ∨ (x ∈ xs ∧ npOf x G = xs.count x)) := by
  intro xs
  induction xs with
  | nil => intro G rk h1 h2 h3; exact ⟨fun x _ => by simp, fun x => rfl, h3, fun x => by simp⟩
  | cons a r ih =>
    intro G rk h1 h2 h3
    rw [List.foldl_cons]
    obtain ⟨ha, hc⟩ := h1 a (.head _)
    have hnp : npOf a (gNp a (· - 1) G) = npOf a G - 1 := npOf_gNp ha
    have hark : a ∉ rk := fun h => h2 a h (.head _)
    have hcr : a ∈ r → (r.count a : Int) + 1 ≤ npOf a G := fun _ => by rw [List.count_cons_self] at hc; omega
    have ih' := ih (G := gNp a (· - 1) G) (rk := if npOf a (gNp a (· - 1) G) = 0 then rk ++ [a] else rk) (by
      intro x hx
      rw [gNp_keys]
      obtain ⟨g1, g2⟩ := h1 x (.tail _ hx)
      refine ⟨g1, ?_⟩
      by_cases e : x = a
      · subst e; rw [hnp]; have := hcr hx; omega
      · rw [npOf_gNp_ne e]; rwa [List.count_cons_of_ne (Ne.symm e)] at g2) (by
      intro x hx hxr
      split at hx
      · rename_i h0
        rcases List.mem_append.mp hx with hx | hx
        · exact h2 x hx (.tail _ hxr)
        · rw [List.mem_singleton.mp hx] at hxr
          have := hcr hxr
          have := List.count_pos_iff.mpr hxr
          omega
      · exact h2 x hx (.tail _ hxr)) (by
      split
      · exact List.nodup_append.mpr ⟨h3, by simp, by intro b hb c hc e; rw [List.mem_singleton.mp hc] at e; exact hark (e ▸ hb)⟩
      · exact h3)
    obtain ⟨i1, i2, i3, i4⟩ := ih'
    refine ⟨fun x hx => ?_, fun x => ?_, i3, fun x => ?_⟩
    · show npOf x (r.foldl dsucc (gNp a (· - 1) G, _)).1 = _
      rw [i1 x (by rwa [gNp_keys])]
      by_cases e : x = a
      · subst e; rw [hnp, List.count_cons_self]; omega
      · rw [npOf_gNp_ne e, List.count_cons_of_ne (Ne.symm e)]
    · show scOf x (r.foldl dsucc (gNp a (· - 1) G, _)).1 = _
      rw [i2 x, scOf_gNp]
    · show x ∈ (r.foldl dsucc (gNp a (· - 1) G, _)).2 ↔ _
      rw [i4 x]
      by_cases e : x = a
      · subst e
        rw [hnp, List.count_cons_self]
        constructor
        · rintro (h | ⟨hx, he⟩)
          · split at h
            · refine .inr ⟨.head _, ?_⟩
              by_cases hxr : x ∈ r
              · have := hcr hxr; omega
              · rw [List.count_eq_zero.mpr hxr]; omega
            · exact .inl h
          · exact .inr ⟨.head _, by omega⟩
        · rintro (h | ⟨_, he⟩)
          · exact absurd h hark
          · by_cases hxr : x ∈ r
            · exact .inr ⟨hxr, by omega⟩
            · rw [List.count_eq_zero.mpr hxr] at he
              rw [if_pos (by omega)]
              exact .inl (List.mem_append_right _ (.head _))
      · rw [npOf_gNp_ne e, List.count_cons_of_ne (Ne.symm e)]
        have : (x ∈ if npOf a (gNp a (· - 1) G) = 0 then rk ++ [a] else rk) ↔ x ∈ rk := by
          split
          · simp [e]
          · exact Iff.rfl
        rw [this]
        simp [e]
noncomputable def outs (rk : List Int) (G : GS) : GS := rk.foldl (fun G k => gNp k (fun _ => -1) G) G
theorem outs_np {x : Int} : ∀ {rk : List Int} {G : GS}, x ∈ G.map (·.1) → npOf x (outs rk G) = if x ∈ rk then -1 else npOf x G := by
  intro rk
  induction rk with
  | nil => intro G _; simp [outs]
  | cons k r ih =>
    intro G hx
    show npOf x (outs r (gNp k (fun _ => -1) G)) = _
    rw [ih (by rwa [gNp_keys])]
    by_cases e : x = k
    · subst e
      rw [npOf_gNp hx]; simp
    · rw [npOf_gNp_ne e]; simp [e]
theorem outs_sc {x : Int} : ∀ {rk : List Int} {G : GS}, scOf x (outs rk G) = scOf x G := by
  intro rk
  induction rk with
  | nil => intro G; rfl
  | cons k r ih => intro G; show scOf x (outs r (gNp k (fun _ => -1) G)) = _; rw [ih, scOf_gNp]
noncomputable def pushes (h rk : List Int) : List Int := rk.foldl (fun h x => sd x 0 (h ++ [x]) h.length) h
theorem pushes_ok : ∀ {rk h : List Int}, HP 0 h → HP 0 (pushes h rk) ∧ (pushes h rk).Perm (h ++ rk) := by
  intro rk
  induction rk with
  | nil => intro h hh; exact ⟨hh, by simp [pushes]⟩
  | cons k r ih =>
    intro h hh
    obtain ⟨a, b⟩ := push_ok (x := k) hh
    obtain ⟨c, d⟩ := ih a
    refine ⟨c, d.trans ?_⟩
    refine (List.Perm.append_right r b).trans ?_
    simp
structure WI (E : List (Int × Int)) (row o : List Int) (G : GS) (H d : List Int) : Prop where
  ks : ∀ x, x ∈ G.map (·.1) ↔ x ∈ row
  sc : ∀ x, scOf x G = scE E x
  np : ∀ x ∈ row, npOf x G = if x ∈ d then -2 else if lft E d x = 0 then -1 else (lft E d x : Int)
  hp : ∀ x, x ∈ H ↔ x ∈ row ∧ x ∉ d ∧ cnd E d x
  hn : H.Nodup
  dn : d.Nodup
  dr : ∀ x ∈ d, x ∈ row
  dc : ∀ e ∈ E, e.1 ∈ d → e.2 ∈ d
  he : HP 0 H
  gr : ∃ t, o = d ++ t ∧ Gr E row d t
theorem nodup_len : ∀ {l r : List Int}, l.Nodup → (∀ x ∈ l, x ∈ r) → l.length ≤ r.length := by
  intro l
  induction l with
  | nil => intro r _ _; exact Nat.zero_le _
  | cons a l ih =>
    intro r hn hs
    rw [List.nodup_cons] at hn
    have ha := hs a (.head _)
    have := ih (r := r.erase a) hn.2 (fun x hx => by
      refine (List.mem_erase_of_ne ?_).mpr (hs x (.tail _ hx))
      rintro rfl; exact hn.1 hx)
    rw [List.length_erase_of_mem ha] at this
    have := List.length_pos_of_mem ha
    simp only [List.length_cons]; omega
theorem WI.init {G : GS} {row o rk : List Int} {cs : List (List Int)} (h : GOk G (opsTo row cs 6)) (hl : row.length = 6) (hc : COk cs) (hkn : (G.map (·.1)).Nodup) (hgr : Gr (edgs row cs) row [] o)
    (hrk : rk = (G.filter (fun e => e.2.1 = 0)).map (·.1)) : WI (edgs row cs) row o (outs rk G) (hpf rk (rk.length / 2)) [] ∧ ∀ k ∈ rk, k ∈ G.map (·.1) := by
  have hks := h.keys hl hc
  have hnp : ∀ x, npOf x G = (lft (edgs row cs) [] x : Int) := by intro x; rw [h.np x]; simp [lft, edgs]
  have hm : ∀ x, x ∈ rk ↔ x ∈ row ∧ cnd (edgs row cs) [] x := by
    intro x
    rw [← lft_zero, ← hks, hrk]
    constructor
    · intro hx
      obtain ⟨e, he, rfl⟩ := List.mem_map.mp hx
      obtain ⟨he, h0⟩ := List.mem_filter.mp he
      have h1 := (sc_entry hkn e he).2
      have h2 := hnp e.1
      simp only [decide_eq_true_eq] at h0
      exact ⟨List.mem_map_of_mem he, by omega⟩
    · rintro ⟨hx, h0⟩
      obtain ⟨e, he, rfl⟩ := List.mem_map.mp hx
      have h1 := (sc_entry hkn e he).2
      have h2 := hnp e.1
      refine List.mem_map.mpr ⟨e, List.mem_filter.mpr ⟨he, ?_⟩, rfl⟩
      simp only [decide_eq_true_eq]; omega
  have hp := heapify_ok (ns := rk)
  refine ⟨⟨fun x => ?_, fun x => ?_, fun x hx => ?_, fun x => ?_, ?_, by simp, by simp, by simp, hp.1, ⟨o, rfl, hgr⟩⟩, fun k hk => ?_⟩
  · rw [show (outs rk G).map (·.1) = G.map (·.1) from outs_keys]; exact hks x
  · rw [outs_sc, h.sc]; rfl
  · rw [outs_np ((hks x).mpr hx), hnp, if_neg (List.not_mem_nil)]
    by_cases h0 : lft (edgs row cs) [] x = 0
    · rw [if_pos ((hm x).mpr ⟨hx, lft_zero.mp h0⟩), if_pos h0]
    · rw [if_neg (fun q => h0 (lft_zero.mpr ((hm x).mp q).2)), if_neg h0]
  · rw [hp.2.mem_iff, hm]; simp
  · refine hp.2.nodup_iff.mpr ?_
    rw [hrk]
    exact List.Nodup.sublist (List.Sublist.map _ List.filter_sublist) hkn
  · exact (hks k).mpr ((hm k).mp hk).1
theorem mem_scE {E : List (Int × Int)} {m x : Int} : x ∈ scE E m ↔ (x, m) ∈ E := by
  unfold scE
  constructor
  · intro h
    obtain ⟨⟨a, b⟩, he, rfl⟩ := List.mem_map.mp h
    obtain ⟨hf, hb⟩ := List.mem_filter.mp he
    simp only [beq_iff_eq] at hb
    subst hb; exact hf
  · intro h; exact List.mem_map.mpr ⟨(x, m), List.mem_filter.mpr ⟨h, by simp⟩, rfl⟩
theorem WI.step {E : List (Int × Int)} {row o d ns : List Int} {G : GS} {x : Int} (h : WI E row o G (ns ++ [x]) d) (hE : EOk E row) :
    (hpop ns x).1 ∈ G.map (·.1) ∧ npOf (hpop ns x).1 G = -1 ∧ (∀ y ∈ scOf (hpop ns x).1 G, y ∈ G.map (·.1)) ∧ (scOf (hpop ns x).1 G).length ≤ E.length ∧ (∀ y ∈ (doneG (hpop ns x).1 G []).2, y ∈ (doneG (hpop ns x).1 G []).1.map (·.1)) ∧
    WI E row o (outs (doneG (hpop ns x).1 G []).2 (doneG (hpop ns x).1 G []).1) (pushes (hpop ns x).2 (doneG (hpop ns x).1 G []).2) (d ++ [(hpop ns x).1]) := by
  obtain ⟨p1, p2, p3⟩ := hpop_ok h.he
  generalize (hpop ns x).1 = m at *
  generalize (hpop ns x).2 = h1 at *
  have hmh : m ∈ ns ++ [x] := p2.mem_iff.mp (.head _)
  obtain ⟨m1, m2, m3⟩ := (h.hp m).mp hmh
  have m0 := lft_zero.mpr m3
  have hmk : m ∈ G.map (·.1) := (h.ks m).mpr m1
  have hsc : scOf m G = scE E m := h.sc m
  have hmx : m ∉ scE E m := fun hq => by have := (hE _ (mem_scE.mp hq)).2.2; dsimp only at this; omega
  have hdx : ∀ y ∈ scE E m, y ∉ d := fun y hy hd => m2 (h.dc _ (mem_scE.mp hy) hd)
  have hrx : ∀ y ∈ scE E m, y ∈ row := fun y hy => (hE _ (mem_scE.mp hy)).1
  have hnx : ∀ y ∈ scE E m, npOf y (gNp m (fun _ => -2) G) = (lft E d y : Int) ∧ lft E d y = lft E (d ++ [m]) y + (scE E m).count y ∧ 0 < (scE E m).count y := by
    intro y hy
    have hc := List.count_pos_iff.mpr hy
    have hs := lft_step (E := E) (x := y) m2
    have e : y ≠ m := fun e => hmx (e ▸ hy)
    refine ⟨?_, hs, hc⟩
    rw [npOf_gNp_ne e, h.np y (hrx y hy), if_neg (hdx y hy), if_neg (by omega)]
  obtain ⟨f1, f2, f3, f4⟩ := dsucc_fold (xs := scE E m) (G := gNp m (fun _ => -2) G) (rk := []) (by
    intro y hy
    obtain ⟨a, b, c⟩ := hnx y hy
    exact ⟨by rw [gNp_keys]; exact (h.ks y).mpr (hrx y hy), by omega⟩) (by simp) (by simp)
  have eD : doneG m G [] = (scE E m).foldl dsucc (gNp m (fun _ => -2) G, []) := by unfold doneG; rw [hsc]
  have hk1 : (doneG m G []).1.map (·.1) = G.map (·.1) := by rw [eD, dsucc_keys, gNp_keys]
  rw [← eD] at f1 f2 f3 f4
  generalize doneG m G [] = dg at *
  have f4' : ∀ y, y ∈ dg.2 ↔ y ∈ scE E m ∧ lft E (d ++ [m]) y = 0 := by
    intro y
    rw [f4]
    constructor
    · rintro (hq | ⟨hy, he⟩)
      · cases hq
      · obtain ⟨a, b, c⟩ := hnx y hy; exact ⟨hy, by omega⟩
    · rintro ⟨hy, he⟩
      obtain ⟨a, b, c⟩ := hnx y hy; exact .inr ⟨hy, by omega⟩
  have hq := pushes_ok (rk := dg.2) p3
  have hnd1 := p2.nodup_iff.mpr h.hn
  rw [List.nodup_cons] at hnd1
  refine ⟨hmk, ?_, ?_, ?_, ?_, ⟨fun y => ?_, fun y => ?_, fun y hy => ?_, fun y => ?_, ?_, ?_, ?_, ?_, hq.1, ?_⟩⟩
  · rw [h.np m m1, if_neg m2, if_pos m0]
  · rw [hsc]; exact fun y hy => (h.ks y).mpr (hrx y hy)
  · rw [hsc]; unfold scE; rw [List.length_map]; exact List.length_filter_le _ _
  · intro y hy; rw [hk1]; exact (h.ks y).mpr (hrx y ((f4' y).mp hy).1)
  · rw [show (outs dg.2 dg.1).map (·.1) = dg.1.map (·.1) from outs_keys, hk1]; exact h.ks y
  · rw [outs_sc, f2, scOf_gNp]; exact h.sc y
  · have hyk := (h.ks y).mpr hy
    rw [outs_np (by rw [hk1]; exact hyk), f1 y (by rw [gNp_keys]; exact hyk)]
    have hs := lft_step (E := E) (x := y) m2
    by_cases e : y = m
    · subst e
      rw [npOf_gNp hmk, if_neg (fun q => hmx ((f4' y).mp q).1), List.count_eq_zero.mpr hmx, if_pos (List.mem_append_right _ (.head _))]
      omega
    · rw [npOf_gNp_ne e, h.np y hy]
      by_cases hx : y ∈ scE E m
      · obtain ⟨a, b, c⟩ := hnx y hx
        have hd := hdx y hx
        rw [if_neg hd, if_neg (show ¬ y ∈ d ++ [m] by simp [hd, e]), if_neg (show ¬ lft E d y = 0 by omega)]
        by_cases h0 : lft E (d ++ [m]) y = 0
        · rw [if_pos ((f4' y).mpr ⟨hx, h0⟩), if_pos h0]
        · rw [if_neg (fun q => h0 ((f4' y).mp q).2), if_neg h0]; omega
      · rw [List.count_eq_zero.mpr hx] at hs ⊢
        rw [if_neg (fun q => hx ((f4' y).mp q).1)]
        by_cases hd : y ∈ d
        · rw [if_pos hd, if_pos (List.mem_append_left _ hd)]; omega
        · rw [if_neg hd, if_neg (show ¬ y ∈ d ++ [m] by simp [hd, e]), hs]
          simp
  · rw [hq.2.mem_iff, List.mem_append, f4']
    have hs := lft_step (E := E) (x := y) m2
    constructor
    · rintro (hy | ⟨hy, h0⟩)
      · obtain ⟨a, b, c⟩ := (h.hp y).mp (p2.mem_iff.mp (.tail _ hy))
        have e : y ≠ m := fun e => hnd1.1 (e ▸ hy)
        exact ⟨a, by simp [b, e], fun e he hx => List.mem_append_left _ (c e he hx)⟩
      · exact ⟨hrx y hy, by have := hdx y hy; have e : y ≠ m := fun e => hmx (e ▸ hy); simp [this, e], lft_zero.mp h0⟩
    · rintro ⟨a, b, c⟩
      simp only [List.mem_append, List.mem_singleton, not_or] at b
      have c0 := lft_zero.mpr c
      by_cases hx : y ∈ scE E m
      · exact .inr ⟨hx, c0⟩
      · rw [List.count_eq_zero.mpr hx] at hs
        have := p2.mem_iff.mpr ((h.hp y).mpr ⟨a, b.1, lft_zero.mp (by omega)⟩)
        rcases List.mem_cons.mp this with e | this
        · exact absurd e b.2
        · exact .inl this
  · refine hq.2.nodup_iff.mpr (List.nodup_append.mpr ⟨hnd1.2, f3, ?_⟩)
    rintro a ha b hb rfl
    obtain ⟨_, _, c⟩ := (h.hp a).mp (p2.mem_iff.mp (.tail _ ha))
    exact m2 (c _ (mem_scE.mp ((f4' a).mp hb).1) rfl)
  · exact List.nodup_append.mpr ⟨h.dn, by simp, by rintro a ha b hb rfl; rw [List.mem_singleton.mp hb] at ha; exact m2 ha⟩
  · intro y hy
    rcases List.mem_append.mp hy with hy | hy
    · exact h.dr y hy
    · rw [List.mem_singleton.mp hy]; exact m1
  · intro e he hd
    rcases List.mem_append.mp hd with hd | hd
    · exact List.mem_append_left _ (h.dc e he hd)
    · exact List.mem_append_left _ (m3 e he (List.mem_singleton.mp hd))
  · obtain ⟨t, rfl, hg⟩ := h.gr
    cases hg with
    | nil hno => exact absurd m3 (hno m m1 m2)
    | cons g1 g2 g3 g4 g5 =>
      rename_i y t
      have e1 := g4 m m1 m2 m3
      have e2 := p1 y ((h.hp y).mpr ⟨g1, g2, g3⟩)
      have e : y = m := by omega
      subst e
      exact ⟨t, by simp, g5⟩
theorem WI.fin {E : List (Int × Int)} {row o d : List Int} {G : GS} (h : WI E row o G [] d) : o = d := by
  obtain ⟨t, rfl, hg⟩ := h.gr
  cases hg with
  | nil => simp
  | cons g1 g2 g3 g4 g5 => rename_i y t; exact absurd ((h.hp y).mpr ⟨g1, g2, g3⟩) (by simp)
theorem WI.len {E : List (Int × Int)} {row o hp d : List Int} {G : GS} (h : WI E row o G hp d) : hp.length ≤ row.length ∧ d.length ≤ row.length :=
  ⟨nodup_len h.hn fun x hx => ((h.hp x).mp hx).1, nodup_len h.dn h.dr⟩

theorem anew_J_told : True := by w_top off; first | (walk1; done) | trivial
/-! a list of lists of ints in the ledger -/
structure WL where
  a : Nat
  v : List Value
  c : List Int
  n : Nat
structure LL (news : List (Addr × Obj)) (l : Nat) (n : Nat) (ws : List WL) : Prop where
  m : (l, listOf (ws.map fun x => Value.ref x.a).toArray n) ∈ news
  e : ∀ x ∈ ws, (x.a, listOf x.v.toArray x.n) ∈ news ∧ IntsAre x.v x.c
theorem LL.sub {news news' : List (Addr × Obj)} {l n : Nat} {ws : List WL} (h : LL news l n ws) (s : ∀ p ∈ news, p ∈ news') : LL news' l n ws := ⟨s _ h.m, fun x hx => ⟨s _ (h.e x hx).1, (h.e x hx).2⟩⟩
section
variable {prog : Program} {w : World} {A : Around} {E : Value → Shared → Prop} {s : Shared} {h₀ : Heap} {L : Addr} {news : List (Addr × Obj)}
theorem item_at {value slice : PySem.Expr} {l : Nat} {vs : List Value} {n : Nat} {k : Int} {u : Tok} {v : Value} {Q : Value → Shared → Prop}
    (N : News h₀ L s.heap news) (hm : (l, listOf vs.toArray n) ∈ news) (h0 : 0 ≤ k) (h1 : k < 100) (hx : vs[k.toNat]? = some v) (h : Q v s)
    (hs : subscripted slice false (.ref l) (.int k u) = operate [.ref l, .int k u] (getItem (.ref l) (.int k u)) := by with_unfolding_all rfl) :
    wpAny (model prog w) A (subscriptTail value slice (.ref l) (.int k u)) Q E s := by
  have hl : s.heap.IsList l vs.toArray := ⟨_, (N _ hm).1, rfl, _, rfl⟩
  exact tail_any hl.typeIs slot_list_getitem.lookup (wpAny_getItem_list hl h0 (by (first | lia | omega)) (by simpa using hx) h) hs
theorem item_ints {value slice : PySem.Expr} {l : Nat} {vs : List Value} {ns : List Int} {n : Nat} {k : Int} {u : Tok} {Q : Value → Shared → Prop}
    (N : News h₀ L s.heap news) (hm : (l, listOf vs.toArray n) ∈ news) (hi : IntsAre vs ns) (h0 : 0 ≤ k) (h1 : k < 100) (h2 : k < ns.length) (h : ∀ t, Q (.int (ns.getD k.toNat 0) t) s)
    (hs : subscripted slice false (.ref l) (.int k u) = operate [.ref l, .int k u] (getItem (.ref l) (.int k u)) := by with_unfolding_all rfl) :
    wpAny (model prog w) A (subscriptTail value slice (.ref l) (.int k u)) Q E s := by
  have hlt : k.toNat < vs.length := by rw [hi.length]; (first | lia | omega)
  obtain ⟨t, e⟩ := hi.int_at k.toNat _ (List.getElem?_eq_getElem hlt)
  exact item_at N hm h0 h1 (by rw [List.getElem?_eq_getElem hlt, e]) (h t) hs
end
section
variable {prog : Program} {w : World} {A : Around} {E : Value → Shared → Prop} {Q : Flow → Shared → Prop} {s : Shared} {env : Env} {h₀ : Heap} {x : Str} {body : List Stmt}
/-- over a range (whatever its step) -/
theorem iter_rng {σ : Type} {r : Addr} {n : Nat} {a b c₁ : Int} {t u₁ v₁ : Tok} {m₀ : Str → Option Value} (hr : IsRange s.heap r a b c₁ t u₁ v₁) (hsm : Builtin.Range.small a b c₁ = true) (hn : Builtin.Range.rangeSize a b c₁ = n) (hh : A.handled = none)
    (Led : σ → List (Addr × Obj)) (ps : σ → List (Str × Value)) (stored : List Str) (J : Nat → σ → Prop) (c₀ : σ)
    (F : Fr h₀ env.locals s.heap m₀) (N : News h₀ env.locals s.heap (Led c₀)) (hk : ∀ p ∈ ps c₀, m₀ p.1 = some p.2) (hJ : J 0 c₀)
    (turn : ∀ (i : Nat) t (c : σ) (u : Str → Option Value) h tk (I : Nat) oI, i < n → J i c → (∀ p ∈ Led c, p.1 ≠ I) →
      Fr h₀ env.locals h (fun y => if y = x then some (.int (a + i * c₁) t) else kstB (fun z => if stored.contains z then u z else m₀ z) (ps c) y) → News h₀ env.locals h ((I, oI) :: Led c) →
      wpAny (model prog w) A (execs body env) (ForPost h₀ env.locals I oI s Led ps x stored m₀ (J (i + 1)) Q) E { s with heap := h, toks := tk })
    (done : ∀ (c : σ) (u : Str → Option Value) h tk, J n c → Fr h₀ env.locals h (fun y => if y = x then u y else kstB (fun z => if stored.contains z then u z else m₀ z) (ps c) y) → News h₀ env.locals h (Led c) → Q .next { s with heap := h, toks := tk }) :
    wpAny (model prog w) A (pyIter (.ref r)) (fun it s₂ => LoopAtV prog w A h₀ env x body Q E it s₂) E s := by
  refine wpAny_pyIter_range hr hsm ?_
  rw [hn]
  exact for_rangeIter (s := { s with heap := s.heap.push _ }) hh (Heap.get?_push_size _ rfl) Led ps stored J c₀ (Mine.Fr.fresh F) (Nat.ne_of_lt (Mine.Fr.lt F)) N.apart (F.push _) (N.pushKeep _) hk hJ (fun i t c u h tk oI => turn i t c u h tk _ oI) done
end
theorem news_abc {h₀ h : Heap} {L : Addr} {p q r : Addr × Obj} {l : List (Addr × Obj)} (N : News h₀ L h (p :: q :: r :: l)) : News h₀ L h (q :: r :: p :: l) := news_sub N (by intro x hx; simp only [List.mem_cons] at hx ⊢; rcases hx with h | h | h | h <;> simp [h])
theorem news_nodup {h₀ h : Heap} {L : Addr} : ∀ {r : List (Addr × Obj)}, News h₀ L h r → ∃ q : List (Addr × Obj), (q.map (·.1)).Nodup ∧ ∀ p, p ∈ q ↔ p ∈ r
  | [], _ => ⟨[], by simp, fun _ => Iff.rfl⟩
  | (a, o) :: r, N => by
    obtain ⟨q, h1, h2⟩ := news_nodup (r := r) (fun p hp => N p (.tail _ hp))
    by_cases hm : a ∈ q.map (·.1)
    · refine ⟨q, h1, fun p => ⟨fun h => .tail _ ((h2 p).mp h), fun h => ?_⟩⟩
      rcases List.mem_cons.mp h with rfl | h
      · obtain ⟨⟨a', o'⟩, hp, rfl⟩ := List.mem_map.mp hm
        have e1 := (N _ (.tail _ ((h2 _).mp hp))).1
        have e2 := (N _ (.head _)).1
        dsimp only at e1 e2
        rw [e1] at e2
        cases e2
        exact hp
      · exact (h2 p).mpr h
    · refine ⟨(a, o) :: q, List.nodup_cons.mpr ⟨hm, h1⟩, fun p => ?_⟩
      rw [List.mem_cons, List.mem_cons, h2]
theorem SW.nil {D Dd n2i : Nat} {rest : List (Addr × Obj)} (hn : (rest.map (·.1)).Nodup) (h1 : bd rest ≤ Dd) (h2 : Dd < D) (h3 : D < n2i) : SW D Dd n2i [] rest := by
  refine ⟨?_, by simp, by intro i hi; cases hi⟩
  show List.Nodup (D :: Dd :: n2i :: rest.map (·.1))
  have hb : ∀ x ∈ rest.map (·.1), x < Dd := by
    intro x hx
    obtain ⟨p, hp, rfl⟩ := List.mem_map.mp hx
    exact bd_lt h1 p hp
  simp only [List.nodup_cons, List.mem_cons, not_or]
  exact ⟨⟨by (first | lia | omega), by (first | lia | omega), fun h => by have := hb _ h; (first | lia | omega)⟩, ⟨by (first | lia | omega), fun h => by have := hb _ h; (first | lia | omega)⟩, fun h => by have := hb _ h; (first | lia | omega), hn⟩
theorem SW.keys {D Dd n2i : Nat} {ns : List NI} {r r' : List (Addr × Obj)} (h : SW D Dd n2i ns r) (e : (r.map (·.1)).Perm (r'.map (·.1))) : SW D Dd n2i ns r' := by
  refine ⟨?_, h.kd, h.it⟩
  refine List.Perm.nodup_iff ?_ |>.mp h.nd
  refine .cons _ (.cons _ (.cons _ ?_))
  rw [List.map_append, List.map_append]
  exact List.Perm.append_left _ e
theorem cok_of {ws : List WL} (h : ∀ (p : Nat) x, ws[p]? = some x → ∀ j ∈ x.c, 0 ≤ j ∧ j < (p : Int)) : COk (ws.map (·.c)) := by
  intro p j hj
  rw [List.getD_eq_getElem?_getD, List.getElem?_map] at hj
  cases hx : ws[p]? with
  | none => rw [hx] at hj; simp at hj
  | some x => rw [hx] at hj; exact h p x hx j hj
theorem sc_view {ns : List NI} {i : NI} (h : (ns.map (·.k)).Nodup) (hi : i ∈ ns) : i.sc = scOf i.k (view ns) := (scOf_view h hi).symm
theorem acyc_of {ns : List NI} {row : List Int} {cs : List (List Int)} (hG : GOk (view ns) (opsTo row cs 6)) (hn : (ns.map (·.k)).Nodup) (hl : row.length = 6) (hrn : row.Nodup) (hc : COk cs) :
    ∀ i ∈ ns, ∀ x ∈ i.sc, x ∈ ns.map (·.k) ∧ row.idxOf i.k < row.idxOf x := by
  intro i hi x hx
  rw [sc_view hn hi, hG.sc] at hx
  have := edgs_ok hl hrn hc (x, i.k) (mem_scE.mp hx)
  exact ⟨by rw [← view_keys]; exact (hG.keys hl hc x).mpr this.1, this.2.2⟩
theorem rk_view {ns : List NI} : (ns.filter (fun i => i.np = 0)).map (·.k) = ((view ns).filter (fun e => e.2.1 = 0)).map (·.1) := by
  induction ns with
  | nil => rfl
  | cons i r ih =>
    by_cases h : i.np = 0
    · simpa [view, h] using ih
    · simpa [view, h] using ih
/-- the state of told's while -/
structure TS where
  hv : List Value
  hh : List Int
  hn : Nat
  ov : List Value
  on : Nat
  d : List Int
  rn : Nat
  t3 : Tok
  t5 : Tok
  t6 : Tok
  pa : Int
  fi : Int
  ns : List NI
noncomputable abbrev e0 : Obj := listOf #[] 0
noncomputable abbrev tL (w : World) (Hp O R D Dd n2i : Nat) (t1 t2 t4 : Tok) (od : Obj) (rest : List (Addr × Obj)) (c : TS) : List (Addr × Obj) :=
  (Hp, listOf c.hv.toArray c.hn) :: (O, listOf c.ov.toArray c.on) :: (R, listOf #[] c.rn) :: sL w D Dd n2i t1 t2 c.t3 t4 (.ref R) (.int c.pa c.t5) (.int c.fi c.t6) od c.ns rest
theorem SW.off3 {D Dd n2i x y z : Nat} {ns : List NI} {e1 e2 e3 o1 o2 o3 o4 o5 : Obj} {rest : List (Addr × Obj)} (h : SW D Dd n2i ns ((x, e1) :: (y, e2) :: (z, e3) :: rest)) : ∀ p ∈ (y, o1) :: (z, o2) :: (D, o3) :: (Dd, o4) :: (n2i, o5) :: (nled ns ++ rest), p.1 ≠ x := by
  obtain ⟨⟨a, b, c⟩, d⟩ := h.offs
  intro p hp
  simp only [List.mem_cons, List.mem_append] at hp
  rcases hp with rfl | rfl | rfl | rfl | rfl | hp | hp
  · exact d (y, e2) (List.mem_append_right _ (.head _))
  · exact d (z, e3) (List.mem_append_right _ (.tail _ (.head _)))
  · exact a
  · exact b
  · exact c
  · exact d p (List.mem_append_left _ hp)
  · exact d p (List.mem_append_right _ (.tail _ (.tail _ hp)))
theorem news_oht {h₀ h : Heap} {L : Addr} {a b t : Addr × Obj} {r : List (Addr × Obj)} (N : News h₀ L h (a :: b :: t :: r)) : News h₀ L h (b :: a :: r) := news_sub N (by intro x hx; simp only [List.mem_cons] at hx ⊢; rcases hx with h | h | h <;> simp [h])
theorem news_ne {h₀ h : Heap} {L a b : Addr} {o o' : Obj} {r : List (Addr × Obj)} (N : News h₀ L h r) (h1 : (a, o) ∈ r) (h2 : (b, o') ∈ r) (ho : o.cls ≠ o'.cls) : a ≠ b := by
  rintro rfl
  have e1 := (N _ h1).1
  have e2 := (N _ h2).1
  dsimp only at e1 e2
  rw [e1] at e2
  cases e2
  exact ho rfl
theorem pushes_len : ∀ {rk h : List Int}, (pushes h rk).length = h.length + rk.length := by
  intro rk
  induction rk with
  | nil => intro h; rfl
  | cons k r ih =>
    intro h
    show (pushes (sd k 0 (h ++ [k]) h.length) r).length = _
    rw [ih, sd_length]; simp; (first | lia | omega)
theorem pushes_snoc {rk h : List Int} {i : Nat} {x : Int} (hx : rk[i]? = some x) : pushes h (rk.take (i + 1)) = sd x 0 (pushes h (rk.take i) ++ [x]) (pushes h (rk.take i)).length := by
  unfold pushes; rw [take_succ_fold hx]
section Priv
set_option hygiene false in
local macro_rules | `(tactic| walk_at "i:list") => `(tactic| (intro D' c' h' F' N' l1; (try k_lt l1); (try k_sweep)))
local macro_rules | `(tactic| walk_at "call type:list") => `(tactic| (k_here; (with_reducible show wpAny _ _ (call (Value.type _) [Value.ref _]) _ _ _); k_dflt (refine' kup_listOfT (by k_asm) (by k_asm) (by k_mem) (by exact rfl) ?_ (by (show List.length _ ≤ _; rw [sizeLine_eq]; omega))); walk_at "i:list"))
local macro_rules | `(tactic| walk_at "subscriptTail") => `(tactic| (k_here; (with_reducible show wpAny _ _ (subscriptTail _ _ (Value.ref _) (Value.int _ _)) _ _ _); k_dflt (refine' item_at (by k_asm) (by k_mem) (by omega) (by omega) (by with_reducible assumption) ?_)))
local macro_rules | `(tactic| walk_at "subscriptTail") => `(tactic| (k_here; (with_reducible show wpAny _ _ (subscriptTail _ _ (Value.ref _) (Value.int _ _)) _ _ _); k_dflt (refine' item_ints (by k_asm) (by k_mem) (by with_reducible assumption) (by omega) (by omega) (by omega) ?_); intro t'))
set_option hygiene false in
local macro_rules | `(tactic| walk_at "i:add") => `(tactic| (intro ns' od' h' tk' F' N' ho' hS' hv' hl'))
local macro_rules | `(tactic| walk_at "call ref") => `(tactic| (k_here; (with_reducible show wpAny _ _ (call (Value.ref 122) [_, _]) _ _ _); k_dflt (refine' add0_c ?b ?f ?x ?t ?k ?d ?u (by k_asm) (by k_asm) (by k_asm) (by k_asm) (by omega) ?_; (case b => k_asm); (case f => k_asm); (case x => k_asm); (case t => k_asm); (case k => exact rfl); (case d => ktr_room); (case u => ktr_units)); walk_at "i:add"))
local macro_rules | `(tactic| walk_at "call ref") => `(tactic| (k_here; (with_reducible show wpAny _ _ (call (Value.ref 122) [_, _, _]) _ _ _); k_dflt (refine' add1_c ?b ?f ?x ?t ?k ?d ?u (by k_asm) (by k_asm) (by k_asm) (by k_asm) (by omega) (by k_asm) ?_; (case b => k_asm); (case f => k_asm); (case x => k_asm); (case t => k_asm); (case k => exact rfl); (case d => ktr_room); (case u => ktr_units)); walk_at "i:add"))
set_option maxRecDepth 100000 in
set_option maxHeartbeats 4000000 in
theorem told_0 : ∀ {w : World} {p : Program} {loose : List Str} {mean : ExcName → Option Value} {mg mb : Str → Option Value} {dp un : Nat} {gd : Option (List Code)} {cn : Str} {cs : Scope} {a : Addr} {ccd : Value} {cl : List (Str × Addr)} {outer : List Env} {A₀ : Around} {base h₀ : Heap} {L : Addr} {m : Str → Option Value} {s : Shared} {Q E : Value → Shared → Prop} {Rw rn Wl wn : Nat} {rv : List Value} {row o : List Int} {ws : List WL} {rest : List (Addr × Obj)},
    Below A₀ base outer h₀ → Fr h₀ L s.heap m → (Mine.hd.heap_1 w.params).In h₀ → Top p loose mean mg mb h₀ → cs.kind = .function → (Mine.hd.heap_1 w.params).In base → Top p loose mean mg mb base → dp < 840 → un < 8400 → News h₀ L s.heap rest → (rest.map (·.1)).Nodup → (Rw, listOf rv.toArray rn) ∈ rest → IntsAre rv row → row.length = 6 → row.Nodup → Gr (edgs row (ws.map (·.c))) row [] o → LL rest Wl wn ws → ws.length = 6 → (∀ x ∈ ws, x.c.length ≤ 6) → (∀ (p : Nat) x, ws[p]? = some x → ∀ j ∈ x.c, 0 ≤ j ∧ j < (p : Int)) →
    (∀ O ov on h₀' h' tk', KtsTurn (outer.filterMap (·.frame)) h₀ h₀' → Fr h₀' L h' m → News h₀' L h' ((O, listOf ov.toArray on) :: rest) → IntsAre ov o →
      Below A₀ base outer h₀' → (Mine.hd.heap_1 w.params).In h₀' → Top p loose mean mg mb h₀' → Q (.ref O) { s with heap := h', toks := tk' }) →
    wpAny (model PySem.Challenge.rw_mg0054_01.row.prog w) (ktrTop dp un gd cn cs L a ccd cl outer) (call (.ref 207) [.ref Rw, .ref Wl]) Q E s := by
  k_fill
  intro w p loose mean mg mb dp un gd cn cs a ccd cl outer A₀ base h₀ L m s Q E Rw rn Wl wn rv row o ws rest B F X T hk XB TB hdp hun N hnd hrm hri hrl hrn hgr hw hwl hwc hwj hret
  refine wpAny_call ?_
  k_dflt (refine' code_defT ?k1 ?k2 ?k3 ?k4 ?k5 ?xb ?tb ?kA ?kF ?kK ?k6 ?k7 ?k8 ?k9 ?kB ?_ ?c2 ?c3 ?c4 ?c5; (case kA => exact rfl); (case kF => exact rfl); (case kK => assumption); (case k1 => k_asm); (case k2 => k_asm); (case k3 => k_asm); (case k4 => k_asm); (case k5 => k_asm); (case xb => k_asm); (case tb => k_asm); (case k6 => k_is); (case k7 => k_is); (case k8 => ktr_room); (case k9 => exact BindsTo.of_eq rfl); (case c5 => decide); (case kB => exact locs rfl); (case c2 => exact rfl); (case c3 => exact rfl); (case c4 => exact rfl); k_whole; intro g' L' h' FG' F' N' B' X' T'; (try dsimp only); (try k_fold))
  ((try (with_reducible refine pin_postQ ?_; intros)); k_steps)
  (refine stop_out ?_; (try (with_reducible refine pin_postQ ?_; intros)))
  rename Fr _ _ _ _ => F1
  rename News _ _ _ _ => N1
  rename IsRange _ _ _ _ _ _ _ _ => R1
  rename Obj.IsDictOf (intKind _ _) _ _ => hod
  obtain ⟨D, Dd, n2i, od, t1, t2, t3, t4, t5, t6, N2, hS, hod0, hlo, eD⟩ : ∃ (D Dd n2i : Nat) (od : Obj) (t1 t2 t3 t4 t5 t6 : Tok), News g' L' _ (sL w D Dd n2i t1 t2 t3 t4 .none (.int 0 t5) (.int 0 t6) od [] rest) ∧ SW D Dd n2i [] rest ∧ od.IsDictOf (PySem.intKind PySem.Challenge.rw_mg0054_01.row.prog w) (kvsOf []) ∧ (n2i == sysModules) = false ∧ D = _ := ⟨_, _, _, _, _, _, _, _, _, _, news_abc N1, SW.nil hnd (by (first | lia | omega)) (by (first | lia | omega)) (by (first | lia | omega)), hod, by assumption, rfl⟩
  subst eD
  clear N1 hod
  have hcl : ∀ c ∈ ws.map (·.c), c.length ≤ 6 := by intro c hc; obtain ⟨x, hx, rfl⟩ := List.mem_map.mp hc; exact hwc x hx
  refine iter_rng (n := 6) (σ := List NI × Obj) R1 (by decide) (by decide) rfl (fun c => sL w D Dd n2i t1 t2 t3 t4 .none (.int 0 t5) (.int 0 t6) c.2 c.1 rest) (fun _ => []) [Str.ofString "j"]
    (fun i c => c.2.IsDictOf (PySem.intKind PySem.Challenge.rw_mg0054_01.row.prog w) (kvsOf c.1) ∧ SW D Dd n2i c.1 rest ∧ GOk (view c.1) (opsTo row (ws.map (·.c)) i) ∧ c.1.length ≤ 2 * (opsTo row (ws.map (·.c)) i).length) ([], od) F1 N2 (by simp) ⟨hod0, hS, GOk.nil, Nat.zero_le _⟩ ?_ ?_
  · rintro i tp ⟨ns, od⟩ u h tk I oI hi ⟨hod, hS, hG, hl⟩ hoff F3 N3
    dsimp only at *
    have hS4 := hS.more2 (o := oI) hoff
    have N4 := news_more N3
    obtain ⟨restI, hrI⟩ : ∃ r, r = (I, oI) :: rest := ⟨_, rfl⟩
    rw [← hrI] at hS4 N4
    have hmI : ∀ p ∈ rest, p ∈ restI := by intro p hp; rw [hrI]; exact .tail _ hp
    have hrmI := hmI _ hrm
    have hwI := hw.sub hmI
    have hwm := hwI.m
    obtain ⟨W, hW⟩ : ∃ W, ws[5 - i]? = some W := ⟨_, List.getElem?_eq_getElem (by (first | lia | omega))⟩
    have hWm := List.mem_of_getElem? hW
    obtain ⟨hWa, hWi⟩ := hwI.e W hWm
    have hwx : (ws.map fun x => Value.ref x.a)[(5 + (i : Int) * -1).toNat]? = some (.ref W.a) := by
      rw [show (5 + (i : Int) * -1).toNat = 5 - i by (first | lia | omega), List.getElem?_map, hW]; rfl
    have hz : ns.length ≤ 84 := by have := opsTo_len (row := row) hcl (i := i); (first | lia | omega)
    clear N3 N2 hS F1 R1 FG'
    ((try (with_reducible refine pin_postQ ?_; intros)); k_steps)
    (refine stop_out ?_; (try (with_reducible refine pin_postQ ?_; intros)))
    rename Fr _ _ _ _ => F5
    rename News _ _ _ _ => N5
    have ex : (5 + (i : Int) * -1).toNat = 5 - i := by (first | lia | omega)
    rw [ex] at hv'
    have hG1 : GOk (view ns') (opsTo row (ws.map (·.c)) i ++ opsOf row (W.c.take 0) (row.getD (5 - i) 0)) := by rw [hv']; exact hG.step (row.getD (5 - i) 0, none)
    have hol : ∀ j, (opsTo row (ws.map (·.c)) i ++ opsOf row (W.c.take j) (row.getD (5 - i) 0)).length ≤ 42 := by
      intro j
      have h1 := opsTo_len (row := row) hcl (i := i)
      have h2 := hwc W hWm
      have h3 : (W.c.take j).length ≤ 6 := by rw [List.length_take]; (first | lia | omega)
      simp only [opsOf, List.length_append, List.length_cons, List.length_map]
      (first | lia | omega)
    clear N4 hS4 hod hG F3
    refine iter_list (σ := List NI × Obj) (vs := W.v) (fun c => sL w D Dd n2i t1 t2 t3 t4 .none (.int 0 t5) (.int 0 t6) c.2 c.1 restI) (fun _ => []) []
      (fun j c => c.2.IsDictOf (PySem.intKind PySem.Challenge.rw_mg0054_01.row.prog w) (kvsOf c.1) ∧ SW D Dd n2i c.1 restI ∧ GOk (view c.1) (opsTo row (ws.map (·.c)) i ++ opsOf row (W.c.take j) (row.getD (5 - i) 0)) ∧ c.1.length ≤ 2 * (opsTo row (ws.map (·.c)) i ++ opsOf row (W.c.take j) (row.getD (5 - i) 0)).length) (ns', od') rfl (fun _ _ _ => by k_mem) F5 N5 (by simp)
      ⟨ho', hS', hG1, by simp only [opsOf, List.length_append, List.length_cons]; (first | lia | omega)⟩ ?_ ?_
    · rintro j vj ⟨ns1, od1⟩ u1 h1 tk1 I1 oI1 hvj ⟨hod1, hS1, hG2, hl2⟩ hoff1 F6 N6
      dsimp only at *
      obtain ⟨kj, tj, hkj, rfl⟩ := ints_at hWi hvj
      have hkj2 := hwj (5 - i) W hW kj (List.mem_of_getElem? hkj)
      have hS7 := hS1.more2 (o := oI1) hoff1
      have N7 := news_more N6
      obtain ⟨restJ, hrJ⟩ : ∃ r, r = (I1, oI1) :: restI := ⟨_, rfl⟩
      rw [← hrJ] at hS7 N7
      have hrmJ : (Rw, listOf rv.toArray rn) ∈ restJ := by rw [hrJ]; exact .tail _ hrmI
      have hz1 : ns1.length ≤ 84 := by have := hol j; (first | lia | omega)
      have hy : ∀ e ∈ view ns1, e.2.2.length < 90 := by
        intro e he
        have h1 := hG2.len (by rw [view_keys]; exact hS1.kd) e he
        have h2 := hol j
        (first | lia | omega)
      clear N6 N5 F5 hS'
      ((try (with_reducible refine pin_postQ ?_; intros)); k_steps)
      rename Fr _ _ _ _ => F8
      rename News _ _ _ _ => N8
      rw [ex] at hv'
      rw [hrJ] at N8 hS'
      refine for_end (ns', od') F8 N8 ?_ ?_ hS'.off (by simp) ?_ ⟨ho', hS'.less, ?_, ?_⟩
      · exact .tail _ (.tail _ (.tail _ (List.mem_append_right _ (.head _))))
      · walk_at "sub"
      · walk_at "same3"
      · dsimp only
        rw [List.take_add_one, hkj]
        have := hG2.step (row.getD (5 - i) 0, some (row.getD kj.toNat 0))
        simp only [opsOf, List.map_append, Option.toList, List.map_cons, List.map_nil]
        rw [hv']
        simpa [opsOf, opG] using this
      · dsimp only
        rw [List.take_add_one, hkj]
        simp only [opsOf, List.map_append, Option.toList, List.map_cons, List.map_nil, List.length_append, List.length_cons, List.length_map, List.length_nil] at hl2 ⊢
        (first | lia | omega)
    · rintro ⟨ns1, od1⟩ u1 h1 tk1 ⟨hod1, hS1, hG2, hl2⟩ F6 N6
      dsimp only at *
      clear F5 N5
      ((try (with_reducible refine pin_postQ ?_; intros)); k_steps)
      rw [hrI] at N6 hS1
      have hwv : W.c.take W.v.length = W.c := List.take_of_length_le (by rw [hWi.length]; exact Nat.le_refl _)
      have hcd : (ws.map (·.c)).getD (5 - i) [] = W.c := by rw [List.getD_eq_getElem?_getD, List.getElem?_map, hW]; rfl
      rw [hwv] at hG2 hl2
      refine for_end (ns1, od1) F6 N6 ?_ ?_ hS1.off (by simp) ?_ ⟨hod1, hS1.less, ?_, ?_⟩
      · exact .tail _ (.tail _ (.tail _ (List.mem_append_right _ (.head _))))
      · walk_at "sub"
      · walk_at "same3"
      · dsimp only; unfold opsTo; rw [hcd]; exact hG2
      · dsimp only; unfold opsTo; rw [hcd]; exact hl2
  · rintro ⟨ns, od⟩ u h tk ⟨hod, hS, hG, hl⟩ F3 N3
    dsimp only at *
    have hc := cok_of hwj
    have hz : ns.length ≤ 84 := by have := opsTo_len (row := row) hcl (i := 6); (first | lia | omega)
    have hks := hG.keys hrl hc
    have hac := acyc_of hG hS.kd hrl hrn hc
    have hsl : ∀ i ∈ ns, i.sc.length < 90 := by
      intro i hi
      have h1 := hG.len (by rw [view_keys]; exact hS.kd) (i.k, i.np, i.sc) (List.mem_map.mpr ⟨i, hi, rfl⟩)
      have h2 := opsTo_len (row := row) hcl (i := 6)
      dsimp only at h1
      (first | lia | omega)
    clear F1 N2 R1
    ((try (with_reducible refine pin_postQ ?_; intros)); k_steps)
    (refine stop_out ?_; (try (with_reducible refine pin_postQ ?_; intros)))
    rename Fr _ _ _ _ => F5
    rename News _ _ _ _ => N5
    refine prep_c (rank := fun x => row.idxOf x) B' F5 X' T' rfl XB TB ?_ ?_ N5 hod hlo hS (by (first | lia | omega)) hsl hac ?_
    · ktr_room
    · ktr_units
    intro R rv' rn' h₀' h' tk' Tu F6 N6 hS6 hi6 B6 X6 T6
    rw [rk_view] at hi6
    clear F5 N5
    have hkv : ((view ns).map (·.1)).Nodup := by rw [view_keys]; exact hS.kd
    obtain ⟨rk, hrk⟩ : ∃ rk, rk = ((view ns).filter (fun e => e.2.1 = 0)).map (·.1) := ⟨_, rfl⟩
    rw [← hrk] at hi6
    obtain ⟨hW0, hrkk⟩ := WI.init hG hrl hc hkv hgr hrk
    have hrl2 : rk.length ≤ 6 := by
      have := hW0.len.1
      rw [heapify_ok.2.length_eq] at this
      (first | lia | omega)
    ((try (with_reducible refine pin_postQ ?_; intros)); k_steps)
    (refine stop_out ?_; (try (with_reducible refine pin_postQ ?_; intros)))
    rename Fr _ _ _ _ => F7
    rename News _ _ _ _ => N7
    refine ready_c B6 F7 X6 T6 rfl ?_ ?_ N7 hod hlo hS6 hi6 (by (first | lia | omega)) (by rw [← view_keys]; exact hrkk) ?_
    · ktr_room
    · ktr_units
    intro T ns1 t3' t5' rn1 pa h8 tk8 F8 N8 hod8 hS8 hv8
    clear F7 N7
    ((try (with_reducible refine pin_postQ ?_; intros)); k_steps)
    (refine stop_out ?_; (try (with_reducible refine pin_postQ ?_; intros)))
    rename Fr _ _ _ _ => F9
    rename News _ _ _ _ => N9
    refine heapify_c B6 F9 X6 N9 T6 rfl ?_ ?_ hi6 (bd_ne (by simp only [bd]; (first | lia | omega))) (by (first | lia | omega)) ?_
    · ktr_room
    · ktr_units
    intro hv9 h9 tk9 F10 N10 hi9
    clear F9 N9 hi6
    ((try (with_reducible refine pin_postQ ?_; intros)); k_steps)
    (refine stop_out ?_; (try (with_reducible refine pin_postQ ?_; intros)))
    rename Fr _ _ _ _ => F11
    rename News _ _ _ _ => N11
    obtain ⟨Hp, O, cH, N12, eH, eO⟩ : ∃ (Hp O cH : Nat), News h₀' L' _ (tL w Hp O R D Dd n2i t1 t2 t4 od rest ⟨hv9, hpf rk (rk.length / 2), cH, [], 0, [], rn1, t3', t5', t6, pa, 0, ns1⟩) ∧ Hp = _ ∧ O = _ :=
      ⟨_, _, _, news_oht N11, rfl, rfl⟩
    subst eH eO
    have hS12 : SW D Dd n2i ns1 ((Hp, e0) :: (O, e0) :: (R, e0) :: rest) := by
      refine SW.swap (SW.more (SW.more hS8 ⟨by (first | lia | omega), by (first | lia | omega), by (first | lia | omega), ?_⟩) ⟨by (first | lia | omega), by (first | lia | omega), by (first | lia | omega), ?_⟩)
      · rw [bd_append] at *; simp only [bd]; (first | lia | omega)
      · rw [bd_append] at *; simp only [bd]; (first | lia | omega)
    clear N11
    have hE := edgs_ok hrl hrn hc
    have hel := edgs_len (row := row) hcl
    refine ksw_while (σ := TS) (tL w Hp O R D Dd n2i t1 t2 t4 od rest) (fun _ => []) (fun c => IntsAre c.hv c.hh ∧ IntsAre c.ov c.d ∧ od.IsDictOf (PySem.intKind PySem.Challenge.rw_mg0054_01.row.prog w) (kvsOf c.ns) ∧ SW D Dd n2i c.ns ((Hp, e0) :: (O, e0) :: (R, e0) :: rest) ∧ WI (edgs row (ws.map (·.c))) row o (view c.ns) c.hh c.d) [Str.ofString "name"] (fun _ => True) (fun c => 7 - c.d.length)
      ⟨hv9, hpf rk (rk.length / 2), cH, [], 0, [], rn1, t3', t5', t6, pa, 0, ns1⟩ F11 N12 ⟨hi9, .nil, hod8, hS12, by rw [hv8]; exact hW0⟩ (by simp) trivial ?_ ?_
    · rintro ⟨hv, hh, hn, ov, on, d, rn, t3, t5, t6, pa, fi, ns⟩ u h tk ⟨hiv, hio, hod, hS, hW⟩ _ F12 N12
      dsimp only at *
      have hlen := hW.len
      have nHp := hS.off3 (o1 := listOf ov.toArray on) (o2 := listOf #[] rn) (o3 := instObj 172 Dd) (o4 := dictOf (sEs w t1 t2 t3 t4 (.ref n2i) (.ref R) (.int pa t5) (.int fi t6)) 4) (o5 := od)
      ((try (with_reducible refine pin_postQ ?_; intros)); k_steps)
      · (refine stop_out ?_; (try (with_reducible refine pin_postQ ?_; intros)))
        rename Fr _ _ _ _ => F13
        rename News _ _ _ _ => N13
        rename 0 < hh.length => hpos
        obtain ⟨hs, x, rfl⟩ : ∃ hs x, hh = hs ++ [x] := ⟨_, _, (List.dropLast_concat_getLast (List.ne_nil_of_length_pos hpos)).symm⟩
        have hln : (hs ++ [x]).length = hs.length + 1 := by simp
        obtain ⟨q1, q2, q3, q4, q5, hW2⟩ := hW.step hE
        refine heappop_c B6 F13 X6 N13 T6 rfl ?_ ?_ hiv nHp (by (first | lia | omega)) ?_
        · ktr_room
        · ktr_units
        intro hv2 hn2 h13 tk13 tx F14 N14 hi14
        clear F13 N13 N12
        have hS14 := hS.swap
        obtain ⟨⟨nO1, nO2, nO3⟩, nO⟩ := hS14.offs
        have nO4 : Hp ≠ O := nO (Hp, e0) (List.mem_append_right _ (.head _))
        have nO5 : R ≠ O := nO (R, e0) (List.mem_append_right _ (.tail _ (.head _)))
        have nO6 : ∀ p ∈ nled ns ++ rest, p.1 ≠ O := by
          intro p hp
          refine nO p ?_
          rcases List.mem_append.mp hp with hp | hp
          · exact List.mem_append_left _ hp
          · exact List.mem_append_right _ (.tail _ (.tail _ hp))
        have hil := hio.length
        have nlt : ov.length < 90 := by (first | lia | omega)
        clear hiv
        ((try (with_reducible refine pin_postQ ?_; intros)); k_steps)
        (refine stop_out ?_; (try (with_reducible refine pin_postQ ?_; intros)))
        rename Fr _ _ _ _ => F15
        rename News _ _ _ _ => N15
        have hS15 : SW D Dd n2i ns ((R, listOf #[] 0) :: (Hp, listOf hv2.toArray hn2) :: (O, listOf (ov ++ [Value.int (hpop hs x).fst tx]).toArray (on + 1)) :: rest) := hS.keys (by
          simp only [List.map_cons]
          exact ((List.Perm.swap _ _ _).trans ((List.Perm.cons _ (List.Perm.swap _ _ _)))).trans (List.Perm.swap _ _ _) |>.trans (.cons _ (List.Perm.swap _ _ _)) )
        refine done_c B6 F15 X6 T6 rfl ?_ ?_ (news_sub N15 (q := (R, listOf #[] rn) :: sL w D Dd n2i t1 t2 t3 t4 (.ref R) (.int pa t5) (.int fi t6) od ns ((Hp, listOf hv2.toArray hn2) :: (O, listOf (ov ++ [Value.int (hpop hs x).fst tx]).toArray (on + 1)) :: rest)) (by walk_at "sub")) hod hlo hS15 .nil (by simp only [List.length_nil]; (first | lia | omega)) (by rw [← view_keys]; exact q1) q2 (by rw [← view_keys]; exact q3) ?_
        · ktr_room
        · ktr_units
        intro ns2 rv2 t62 rn2 fi2 h16 tk16 F16 N16 hod2 hS16 hi16 hv16
        clear F15 N15 nHp
        ((try (with_reducible refine pin_postQ ?_; intros)); k_steps)
        (refine stop_out ?_; (try (with_reducible refine pin_postQ ?_; intros)))
        rename Fr _ _ _ _ => F17
        rename News _ _ _ _ => N17
        have hdl : (doneG (hpop hs x).fst (view ns) []).2.length ≤ 42 := by
          have h1 := dsucc_len (xs := scOf (hpop hs x).fst (view ns)) (st := (gNp (hpop hs x).fst (fun _ => -2) (view ns), []))
          have h2 : (doneG (hpop hs x).fst (view ns) []).2.length ≤ ([] : List Int).length + (scOf (hpop hs x).fst (view ns)).length := h1
          simp only [List.length_nil] at h2
          (first | lia | omega)
        refine ready_c B6 F17 X6 T6 rfl ?_ ?_ N17 hod2 hlo hS16 hi16 (by (first | lia | omega)) (by rw [← view_keys, hv16]; exact q5) ?_
        · ktr_room
        · ktr_units
        intro T3 ns3 t33 t53 rn3 pa3 h18 tk18 F18 N18 hod3 hS18 hv18
        clear F17 N17
        ((try (with_reducible refine pin_postQ ?_; intros)); k_steps)
        (refine stop_out ?_; (try (with_reducible refine pin_postQ ?_; intros)))
        rename Fr _ _ _ _ => F19
        rename News _ _ _ _ => N19
        have hp2 := hpop_ok hW.he
        have hl2 : (hpop hs x).2.length ≤ 5 := by have h1 := hp2.2.1.length_eq; simp only [List.length_cons] at h1; (first | lia | omega)
        have hS19 : SW D Dd n2i ns3 ((Hp, e0) :: (O, e0) :: (R, e0) :: rest) := hS18.keys (by
          simp only [List.map_cons]
          exact (List.Perm.swap _ _ _).trans (List.Perm.cons _ (List.Perm.swap _ _ _)))
        obtain ⟨restZ, hrZ⟩ : ∃ r, r = (T3, ({ cls := .type "tuple", data := .seq rv2.toArray } : Obj)) :: (O, listOf (ov ++ [Value.int (hpop hs x).fst tx]).toArray (on + 1)) :: (R, listOf #[] rn3) :: sL w D Dd n2i t1 t2 t33 t4 (.ref R) (.int pa3 t53) (.int fi2 t62) od ns3 rest := ⟨_, rfl⟩
        have N20 := news_sub N19 (q := (Hp, listOf hv2.toArray hn2) :: restZ) (by rw [hrZ]; walk_at "sub")
        have hmT : (T3, ({ cls := .type "tuple", data := .seq rv2.toArray } : Obj)) ∈ restZ := by rw [hrZ]; exact .head _
        generalize hdk : (doneG (hpop hs x).fst (view ns) []).2 = dk at *
        have hTH : T3 ≠ Hp := news_ne N20 (.tail _ hmT) (.head _) (by show Value.type "tuple" ≠ Value.type "list"; decide)
        have nHZ : ∀ p ∈ restZ, p.1 ≠ Hp := by
          intro p hp
          rw [hrZ] at hp
          rcases List.mem_cons.mp hp with rfl | hp
          · exact hTH
          · exact hS19.off3 p hp
        clear N19
        refine iter_tuple (σ := List Value × Nat) (vs := rv2) (fun c => (Hp, listOf c.1.toArray c.2) :: restZ) (fun _ => []) [] (fun i c => IntsAre c.1 (pushes (hpop hs x).2 (dk.take i))) (hv2, hn2) rfl (fun _ _ _ => .tail _ hmT) F19 N20 (by simp) hi14 ?_ ?_
        · rintro i v ⟨hv3, hn3⟩ u1 h1 tk1 I oI hv hJ hoff F21 N21
          dsimp only at *
          obtain ⟨k1, tv1, hk2, rfl⟩ := ints_at hi16 hv
          have hid : i < dk.length := (List.getElem?_eq_some_iff.mp hk2).1
          ((try (with_reducible refine pin_postQ ?_; intros)); k_steps)
          (refine stop_out ?_; (try (with_reducible refine pin_postQ ?_; intros)))
          rename Fr _ _ _ _ => F23
          rename News _ _ _ _ => N23
          refine heappush_c B6 F23 X6 (news_swap N23) T6 rfl ?_ ?_ hJ ?_ ?_ ?_
          · ktr_room
          · ktr_units
          · exact List.forall_mem_cons.mpr ⟨fun e => hoff _ (.head _) e.symm, nHZ⟩
          · rw [pushes_len, List.length_take]; (first | lia | omega)
          intro hv4 hn4 h24 tk24 F24 N24 hi24
          clear F23 N23
          ((try (with_reducible refine pin_postQ ?_; intros)); k_steps)
          refine for_end (hv4, hn4) F24 N24 (.tail _ (.head _)) ?_ ?_ (by simp) ?_ ?_
          · intro p hp
            rcases List.mem_cons.mp hp with rfl | hp
            · exact .head _
            · exact .tail _ (.tail _ hp)
          · exact List.forall_mem_cons.mpr ⟨hoff (Hp, listOf hv3.toArray hn3) (.head _), (List.forall_mem_cons.mp hoff).2⟩
          · walk_at "same3"
          · dsimp only; rw [pushes_snoc hk2]; exact hi24
        · rintro ⟨hv3, hn3⟩ u1 h1 tk1 hJ F21 N21
          dsimp only at *
          ((try (with_reducible refine pin_postQ ?_; intros)); k_steps)
          subst hrZ
          rw [List.take_of_length_le (by rw [hi16.length]; exact Nat.le_refl _)] at hJ
          refine ksw_end ⟨hv3, pushes (hpop hs x).2 dk, hn3, ov ++ [.int (hpop hs x).1 tx], on + 1, d ++ [(hpop hs x).1], rn3, t33, t53, t62, pa3, fi2, ns3⟩ F21 N21 ?_ ⟨hJ, ints_snoc hio, hod3, hS19, ?_⟩ (by simp) ?_ trivial ?_
          · simp only [tL]; walk_at "sub"
          · dsimp only; rw [hv18, hv16]; exact hW2
          · intro z h2 h3
            have h4 := h3
            simp only [List.contains_cons, List.contains_nil, Bool.or_false, beq_eq_false_iff_ne, ne_eq] at h4
            simp only [kstB, h3, h4, List.contains_nil, if_false, Bool.false_eq_true]
          · have := hW2.len.2
            simp only [List.length_append, List.length_cons, List.length_nil] at this ⊢
            (first | lia | omega)
      · rename ¬ 0 < hh.length => hz
        have : hh = [] := List.length_eq_zero_iff.mp (by (first | lia | omega))
        subst this
        have e := hW.fin
        subst e
        rename Fr _ _ _ _ => F13
        rename News _ _ _ _ => N13
        exact ⟨h₀', _, _, _, Tu, F13, news_sub N13 (q := (O, listOf ov.toArray on) :: rest) (by simp only [tL]; walk_at "sub"), fun g9 T9 F9 N9 B9 X9 Tp9 => hret _ _ _ _ _ _ T9 F9 N9 hio B9 X9 Tp9⟩
    · passes_own
theorem told_c : ∀ {w : World} {p : Program} {loose : List Str} {mean : ExcName → Option Value} {mg mb : Str → Option Value} {dp un : Nat} {gd : Option (List Code)} {cn : Str} {cs : Scope} {a : Addr} {ccd : Value} {cl : List (Str × Addr)} {outer : List Env} {A₀ : Around} {base h₀ : Heap} {L : Addr} {m : Str → Option Value} {s : Shared} {Q E : Value → Shared → Prop} {Rw rn Wl wn : Nat} {rv : List Value} {row o : List Int} {ws : List WL} {rest : List (Addr × Obj)},
    Below A₀ base outer h₀ → Fr h₀ L s.heap m → (Mine.hd.heap_1 w.params).In h₀ → Top p loose mean mg mb h₀ → cs.kind = .function → (Mine.hd.heap_1 w.params).In base → Top p loose mean mg mb base → dp < 840 → un < 8400 → News h₀ L s.heap rest → (Rw, listOf rv.toArray rn) ∈ rest → IntsAre rv row → row.length = 6 → row.Nodup → Gr (edgs row (ws.map (·.c))) row [] o → LL rest Wl wn ws → ws.length = 6 → (∀ x ∈ ws, x.c.length ≤ 6) → (∀ (p : Nat) x, ws[p]? = some x → ∀ j ∈ x.c, 0 ≤ j ∧ j < (p : Int)) →
    (∀ O ov on h₀' h' tk', KtsTurn (outer.filterMap (·.frame)) h₀ h₀' → Fr h₀' L h' m → News h₀' L h' ((O, listOf ov.toArray on) :: rest) → IntsAre ov o →
      Below A₀ base outer h₀' → (Mine.hd.heap_1 w.params).In h₀' → Top p loose mean mg mb h₀' → Q (.ref O) { s with heap := h', toks := tk' }) →
    wpAny (model PySem.Challenge.rw_mg0054_01.row.prog w) (ktrTop dp un gd cn cs L a ccd cl outer) (call (.ref 207) [.ref Rw, .ref Wl]) Q E s := by
  intro w p loose mean mg mb dp un gd cn cs a ccd cl outer A₀ base h₀ L m s Q E Rw rn Wl wn rv row o ws rest B F X T hk XB TB hdp hun N hrm hri hrl hrn hgr hw hwl hwc hwj hret
  obtain ⟨q, h1, h2⟩ := news_nodup N
  refine told_0 B F X T hk XB TB hdp hun (news_sub N fun p hp => (h2 p).mp hp) h1 ((h2 _).mpr hrm) hri hrl hrn hgr (hw.sub fun p hp => (h2 p).mpr hp) hwl hwc hwj fun O ov on h₀' h' tk' Tu F' N' => hret O ov on h₀' h' tk' Tu F' (news_sub N' fun p hp => ?_)
  rcases List.mem_cons.mp hp with rfl | hp
  · exact .head _
  · exact .tail _ ((h2 p).mpr hp)
end Priv

theorem anew_K_base : True := by w_top off; first | (walk1; done) | trivial
/-! rules for the law's helpers -/
section
variable {prog : Program} {w : World} {A : Around} {E : Value → Shared → Prop} {s : Shared} {h₀ : Heap} {L l : Addr} {news : List (Addr × Obj)} {vs : List Value} {ns : List Int} {n : Nat} {k : Int} {t : Tok} {Q : Value → Shared → Prop}
theorem notin_m (N : News h₀ L s.heap news) (hm : (l, listOf vs.toArray n) ∈ news) (hi : IntsAre vs ns) (h1 : k ∉ ns → Q (.bool true) s) (h2 : k ∈ ns → Q (.bool false) s) :
    wpAny (model prog w) A (compareOp .NotIn (.int k t) (.ref l)) Q E s := by
  refine notin_list_ints (N.isList hm) hi ?_
  by_cases h : k ∈ ns
  · rw [show ns.any (· == k) = true by simpa using h]; exact h2 h
  · rw [show ns.any (· == k) = false by simp; intro x hx e; exact h (e ▸ hx)]; exact h1 h
theorem index_m (N : News h₀ L s.heap news) (hm : (l, listOf vs.toArray n) ∈ news) (hi : IntsAre vs ns) (hz : ns.length < 1000) (hk : k ∈ ns) (h : ∀ t' tk', Q (.int (ns.idxOf k : Nat) t') { s with toks := tk' }) :
    wpAny (model prog w) A (call (.builtin "list.index") [.ref l, .int k t]) Q E s := by
  have hlen := hi.length
  have hj : ns.idxOf k < ns.length := List.idxOf_lt_length_iff.mpr hk
  refine call_meets PySem.F.slot_list_index ⟨_, (N _ hm).1, rfl⟩ PySem.F.entry_list_index (PySem.F.args_list_index_2 _ _)
    (PySem.SeqAt.list_indexAt l vs.toArray n none #[] (.int k t) (isInt k) (ns.idxOf k) (by simpa [hlen] using hj) (by omega) ?_ ?_) ⟨(N _ hm).1, fun y hy => (eq_isInt k t hi y (by simpa using hy)).at _ _, h _ _⟩
  · show isInt k vs[ns.idxOf k] = true
    rw [isInt_at k hi _ (by omega) hj]
    simpa using List.getElem_idxOf hj
  · intro j hjs hlt
    show isInt k vs[j] = false
    rw [isInt_at k hi j (by simpa using hjs) (by omega)]
    exact ne_of_lt_idxOf hlt _
end
section
variable {prog : Program} {w : World} {A : Around} {E : Value → Shared → Prop} {Q : Flow → Shared → Prop} {s : Shared} {env : Env} {h₀ : Heap}
/-- a for whose target is a cell: the turn stores it -/
theorem for_C {σ : Type} {I : Addr} {fs : List Addr} {n : Nat} {P : Nat → Value → Prop} {St : Nat → Heap → Prop} {m₀ : Str → Option Value} {x : Str} {px : Pos} {body : List Stmt} (W : Walks prog w A I (I :: fs) [I] n P St)
    (Bs : σ → Heap) (Led : σ → List (Addr × Obj)) (ps : σ → List (Str × Value)) (stored : List Str) (J : Nat → σ → Prop) (c₀ : σ)
    (hlive : ∀ i h, St i h → ∃ o, h.get? I = some o) (hfs : ∀ b ∈ fs, ∃ o, ∀ i c, J i c → (b, o) ∈ Led c)
    (hI : ∀ i c, J i c → (Bs c).get? I = none) (hL : env.locals ≠ I) (hoff : ∀ p ∈ Led c₀, p.1 ≠ I) (hst : St 0 s.heap) (F : Fr (Bs c₀) env.locals s.heap m₀) (N : News (Bs c₀) env.locals s.heap (Led c₀)) (hk : ∀ p ∈ ps c₀, m₀ p.1 = some p.2) (hJ : J 0 c₀)
    (turn : ∀ i v (c : σ) (u : Str → Option Value) h tk oI, i < n → P i v → J i c → (∀ p ∈ Led c, p.1 ≠ I) →
      Fr (Bs c) env.locals h (kstB (fun z => if stored.contains z then u z else m₀ z) (ps c)) → News (Bs c) env.locals h ((I, oI) :: Led c) →
      wpAny (model prog w) A (storeName env x v) (fun _ s₂ => wpAny (model prog w) A (execs body env) (PostT Bs env.locals s (fun c => (I, oI) :: Led c) ps stored m₀ (fun c' => J (i + 1) c' ∧ ∀ p ∈ Led c', p.1 ≠ I) Q) E s₂) E { s with heap := h, toks := tk })
    (done : ∀ (c : σ) (u : Str → Option Value) h tk, J n c → Fr (Bs c) env.locals h (kstB (fun z => if stored.contains z then u z else m₀ z) (ps c)) → News (Bs c) env.locals h (Led c) → Q .next { s with heap := h, toks := tk })
    (hE : PassesOwn (model prog w) A env E := by passes_own) :
    codeAny (model prog w) A (.forLoop (.Name x px) (.ref I) body [] env) (fun r s' => match r with | .ok f => Q f s' | .error e => cameBackBy (model prog w) A env E e s') s := by
  refine codeAny_forLoop (fun k s' => ∃ (i : Nat) (c : σ) (h : Heap) (tk : Nat) (m : Str → Option Value), s' = { s with heap := h, toks := tk } ∧ i ≤ n ∧ k = n + 1 - i ∧ St i h ∧ Fr (Bs c) env.locals h m ∧ News (Bs c) env.locals h (Led c) ∧ (∀ p ∈ Led c, p.1 ≠ I) ∧ (∀ p ∈ ps c, m p.1 = some p.2) ∧ (∀ z, (∀ p ∈ ps c, z ≠ p.1) → stored.contains z = false → m z = m₀ z) ∧ J i c) ?_ (n + 1)
    ⟨0, c₀, s.heap, s.toks, m₀, rfl, Nat.zero_le _, rfl, hst, F, N, hoff, hk, fun _ _ _ => rfl, hJ⟩
  rintro k s' ⟨i, c, h, tk, m, rfl, hi, rfl, hst₁, F₁, N₁, hoff₁, h1, h2, hJ₁⟩
  by_cases hlt : i < n
  · refine W.item i _ _ _ hlt hst₁ fun v h₂ tk₂ hP hst₂ hk₂ => ?_
    have F₂ := LCg.fr_but F₁ hk₂ hL (hI _ _ hJ₁)
    have N₂ := LCg.news_but N₁ hk₂ hoff₁
    obtain ⟨oI, hoI⟩ := hlive _ _ hst₂
    have N₄ : News (Bs c) env.locals h₂ ((I, oI) :: Led c) := fun p hp => by
      rcases List.mem_cons.mp hp with rfl | hp
      · exact ⟨hoI, Ne.symm hL, hI _ _ hJ₁⟩
      · exact N₂ p hp
    refine wpAny_assign_Name ?_
    refine wpAny_passesOwn hE (wpAny_mono (turn i v c m h₂ _ oI hlt hP hJ₁ hoff₁ (ksw_fr h1 h2 F₂) N₄) (fun _ s₃ h₃ => ?_) fun _ _ x => x)
    refine wpAny_passesOwn hE (wpAny_mono h₃ (fun f s₄ h₃' => ?_) fun _ _ x => x)
    have fin : EndT Bs env.locals s (fun c => (I, oI) :: Led c) ps stored m₀ (fun c' => J (i + 1) c' ∧ ∀ p ∈ Led c', p.1 ≠ I) s₄ → ∃ m_1, m_1 < n + 1 - i ∧ ∃ i c h tk m, s₄ = { s with heap := h, toks := tk } ∧ i ≤ n ∧ m_1 = n + 1 - i ∧ St i h ∧ Fr (Bs c) env.locals h m ∧ News (Bs c) env.locals h (Led c) ∧ (∀ p ∈ Led c, p.1 ≠ I) ∧ (∀ p ∈ ps c, m p.1 = some p.2) ∧ (∀ z, (∀ p ∈ ps c, z ≠ p.1) → stored.contains z = false → m z = m₀ z) ∧ J i c := by
      rintro ⟨c', h', tk', m', news', rfl, F', N', hn, hk', hr', hp', ho'⟩
      refine ⟨n + 1 - (i + 1), by omega, i + 1, c', h', tk', m', rfl, hlt, rfl, ?_, F', fun p hp => N' p (hn p (.tail _ hp)), ho', hk', hr', hp'⟩
      refine W.frame _ _ _ hst₂ fun b hb o e => ?_
      rcases List.mem_cons.mp hb with rfl | hb
      · rw [hoI] at e
        cases e
        exact (N' _ (hn _ (.head _))).1
      · obtain ⟨o', ho'⟩ := hfs b hb
        have e1 := (N₂ _ (ho' i c hJ₁)).1
        rw [e] at e1
        cases e1
        exact (N' _ (hn _ (.tail _ (ho' (i + 1) c' hp')))).1
    cases f with
    | ret v => exact h₃'
    | brk => exact h₃'
    | next => exact fin h₃'
    | cont => exact fin h₃'
  · obtain rfl : i = n := Nat.le_antisymm hi (Nat.not_lt.mp hlt)
    refine W.done _ _ _ hst₁ fun h₂ tk₂ hk₂ => ?_
    have F₂ := LCg.fr_but F₁ hk₂ hL (hI _ _ hJ₁)
    have N₂ := LCg.news_but N₁ hk₂ hoff₁
    exact wpAny_execs_nil (done c m h₂ tk₂ hJ₁ (ksw_fr h1 h2 F₂) N₂)
/-- over a range, the target a cell -/
theorem iterC_rng {σ : Type} {r : Addr} {n : Nat} {a b c₁ : Int} {t u₁ v₁ : Tok} {m₀ : Str → Option Value} {x : Str} {px : Pos} {body : List Stmt} (hr : IsRange s.heap r a b c₁ t u₁ v₁) (hsm : Builtin.Range.small a b c₁ = true) (hn : Builtin.Range.rangeSize a b c₁ = n) (hh : A.handled = none)
    (Led : σ → List (Addr × Obj)) (ps : σ → List (Str × Value)) (stored : List Str) (J : Nat → σ → Prop) (c₀ : σ)
    (F : Fr h₀ env.locals s.heap m₀) (N : News h₀ env.locals s.heap (Led c₀)) (hk : ∀ p ∈ ps c₀, m₀ p.1 = some p.2) (hJ : J 0 c₀)
    (turn : ∀ (i : Nat) t (c : σ) (u : Str → Option Value) h tk (I : Nat) oI, i < n → J i c → (∀ p ∈ Led c, p.1 ≠ I) →
      Fr h₀ env.locals h (kstB (fun z => if stored.contains z then u z else m₀ z) (ps c)) → News h₀ env.locals h ((I, oI) :: Led c) →
      wpAny (model prog w) A (storeName env x (.int (a + i * c₁) t)) (fun _ s₂ => wpAny (model prog w) A (execs body env) (PostT (fun _ => h₀) env.locals s (fun c => (I, oI) :: Led c) ps stored m₀ (fun c' => J (i + 1) c' ∧ ∀ p ∈ Led c', p.1 ≠ I) Q) E s₂) E { s with heap := h, toks := tk })
    (done : ∀ (c : σ) (u : Str → Option Value) h tk, J n c → Fr h₀ env.locals h (kstB (fun z => if stored.contains z then u z else m₀ z) (ps c)) → News h₀ env.locals h (Led c) → Q .next { s with heap := h, toks := tk })
    (hE : PassesOwn (model prog w) A env E := by passes_own) :
    wpAny (model prog w) A (pyIter (.ref r)) (fun it s₂ => LoopT prog w A env x px body Q E it s₂) E s := by
  refine wpAny_pyIter_range hr hsm ?_
  rw [hn]
  refine for_C (s := { s with heap := s.heap.push _ }) (fs := []) (Walks.range hh _ a c₁ n) (fun _ => h₀) Led ps stored J c₀ (fun i h st => ⟨_, st⟩) (fun b hb => (nomatch hb)) (fun _ _ _ => Mine.Fr.fresh F) (Nat.ne_of_lt (Mine.Fr.lt F)) N.apart ?_ (F.push _) (N.pushKeep _) hk hJ ?_ ?_ hE
  · simpa using Heap.get?_push_size (o := { cls := .type "range_iterator", data := .fields #[rawInt a, rawInt (n : Int), rawInt c₁] }) (h := s.heap) rfl
  · rintro i v c u h tk oI hi ⟨t, rfl⟩ hJ' ho F' N'
    exact turn i t c u h tk _ oI hi hJ' ho F' N'
  · intro c u h tk hJ' F' N'
    exact done c u h tk hJ' F' N'
/-- over a list of the ledger that no turn changes, the target a cell; the base may turn -/
theorem iterC_list {σ : Type} {l : Addr} {vs : List Value} {n : Nat} {m₀ : Str → Option Value} {x : Str} {px : Pos} {body : List Stmt} (Bs : σ → Heap) (Led : σ → List (Addr × Obj)) (ps : σ → List (Str × Value)) (stored : List Str) (J : Nat → σ → Prop) (c₀ : σ) (hh : A.handled = none)
    (hB : ∀ i c, J i c → ∀ b, (Bs c₀).get? b = none → (Bs c).get? b = none)
    (hmem : ∀ i c, J i c → (l, listOf vs.toArray n) ∈ Led c) (F : Fr (Bs c₀) env.locals s.heap m₀) (N : News (Bs c₀) env.locals s.heap (Led c₀)) (hk : ∀ p ∈ ps c₀, m₀ p.1 = some p.2) (hJ : J 0 c₀)
    (turn : ∀ (i : Nat) v (c : σ) (u : Str → Option Value) h tk (I : Nat) oI, vs[i]? = some v → J i c → (∀ p ∈ Led c, p.1 ≠ I) →
      Fr (Bs c) env.locals h (kstB (fun z => if stored.contains z then u z else m₀ z) (ps c)) → News (Bs c) env.locals h ((I, oI) :: Led c) →
      wpAny (model prog w) A (storeName env x v) (fun _ s₂ => wpAny (model prog w) A (execs body env) (PostT Bs env.locals s (fun c => (I, oI) :: Led c) ps stored m₀ (fun c' => J (i + 1) c' ∧ ∀ p ∈ Led c', p.1 ≠ I) Q) E s₂) E { s with heap := h, toks := tk })
    (done : ∀ (c : σ) (u : Str → Option Value) h tk, J vs.length c → Fr (Bs c) env.locals h (kstB (fun z => if stored.contains z then u z else m₀ z) (ps c)) → News (Bs c) env.locals h (Led c) → Q .next { s with heap := h, toks := tk })
    (hE : PassesOwn (model prog w) A env E := by passes_own) :
    wpAny (model prog w) A (pyIter (.ref l)) (fun it s₂ => LoopT prog w A env x px body Q E it s₂) E s := by
  have hg := (N _ (hmem 0 _ hJ)).1
  have hlI : l ≠ s.heap.objs.size := Nat.ne_of_lt (Heap.lt_size hg)
  refine wpAny_pyIter_list (items := vs.toArray) ⟨_, hg, rfl, _, rfl⟩ ?_
  refine for_C (s := { s with heap := s.heap.push _ }) (fs := [l]) (Walks.list hh _ l hlI vs.toArray) Bs Led ps stored J c₀ (fun i h st => ?_) (fun b hb => ?_) (fun i c hc => hB i c hc _ (Mine.Fr.fresh F)) (Nat.ne_of_lt (Mine.Fr.lt F)) N.apart ?_ (F.push _) (N.pushKeep _) hk hJ ?_ ?_ hE
  · obtain ⟨o, ho, _⟩ := st.1; exact ⟨o, ho⟩
  · rw [List.mem_singleton.mp hb]; exact ⟨_, hmem⟩
  · exact ⟨⟨_, Heap.get?_push_size _ rfl, rfl, rfl⟩, ⟨_, Heap.get?_push_of_some _ hg, rfl, _, rfl⟩⟩
  · rintro i v c u h tk oI hi hv hJ' ho F' N'
    exact turn i v c u h tk _ oI (by simpa using hv) hJ' ho F' N'
  · intro c u h tk hJ' F' N'
    exact done c u h tk (by simpa using hJ') F' N'
end
local macro_rules | `(tactic| walk_at "subscriptTail") => `(tactic| (k_here; (with_reducible show wpAny _ _ (subscriptTail _ _ (Value.ref _) (Value.int _ _)) _ _ _); k_dflt (refine' item_at (by k_asm) (by k_mem) (by omega) (by omega) (by with_reducible assumption) ?_)))
local macro_rules | `(tactic| walk_at "subscriptTail") => `(tactic| (k_here; (with_reducible show wpAny _ _ (subscriptTail _ _ (Value.ref _) (Value.int _ _)) _ _ _); k_dflt (refine' item_ints (by k_asm) (by k_mem) (by with_reducible assumption) (by omega) (by omega) (by omega) ?_); intro t'))
local macro_rules | `(tactic| walk_at "call builtin:list.index") => `(tactic| (k_here; (with_reducible show wpAny _ _ (call (Value.builtin _) [Value.ref _, Value.int _ _]) _ _ _); k_dflt (refine' index_m (by k_asm) (by k_mem) (by with_reducible assumption) (by omega) (by with_reducible assumption) ?_); intro t' tk'))
local macro_rules | `(tactic| walk_at "compareOp NotIn int ref") => `(tactic| (k_here; (with_reducible show wpAny _ _ (compareOp _ (Value.int _ _) (Value.ref _)) _ _ _); k_dflt (refine' notin_m (by k_asm) (by k_mem) (by with_reducible assumption) ?_ ?_) <;> intro hin'))
local macro_rules | `(tactic| walk_at "eval ListComp") => `(tactic| (k_here; with_reducible refine stop_in ?_))
local macro_rules | `(tactic| walk_at "exec Assign cons ListComp") => `(tactic| (k_here; with_reducible refine stop_in ?_))
theorem rng_small : ∀ n : Fin 65, Builtin.Range.small 0 (n : Int) 1 = true ∧ Builtin.Range.rangeSize 0 (n : Int) 1 = ((n : Nat) : Int) := by decide +kernel
theorem rng_s {n : Nat} (h : n < 65) : Builtin.Range.small 0 (n : Int) 1 = true := (rng_small ⟨n, h⟩).1
theorem rng_n {n : Nat} (h : n < 65) : Builtin.Range.rangeSize 0 (n : Int) 1 = ((n : Nat) : Int) := (rng_small ⟨n, h⟩).2
noncomputable def wled (ws : List WL) : List (Addr × Obj) := ws.map fun x => (x.a, listOf x.v.toArray x.n)
theorem wled_append {ws vs : List WL} : wled (ws ++ vs) = wled ws ++ wled vs := by simp [wled]
theorem mem_wled {ws : List WL} {x : WL} (h : x ∈ ws) : (x.a, listOf x.v.toArray x.n) ∈ wled ws := List.mem_map.mpr ⟨x, h, rfl⟩
theorem news_13 {h₀ h : Heap} {L : Addr} {a b c : Addr × Obj} {r : List (Addr × Obj)} (N : News h₀ L h (a :: b :: c :: r)) : News h₀ L h (a :: r) := news_sub N (by intro x hx; simp only [List.mem_cons] at hx ⊢; rcases hx with h | h <;> simp [h])
theorem news_12 {h₀ h : Heap} {L : Addr} {a b : Addr × Obj} {r : List (Addr × Obj)} (N : News h₀ L h (a :: b :: r)) : News h₀ L h (a :: r) := news_sub N (by intro x hx; simp only [List.mem_cons] at hx ⊢; rcases hx with h | h <;> simp [h])
local macro_rules | `(tactic| walk_at "CompSrcT") => `(tactic| with_reducible refine stop_in ?_)
local macro_rules | `(tactic| walk_at "CompSrc") => `(tactic| with_reducible refine stop_in ?_)
theorem flt_t {p : Nat → Bool} {j : Nat} (h : p j = true) : ((List.range (j + 1)).filter p).map Int.ofNat = ((List.range j).filter p).map Int.ofNat ++ [(j : Int)] := by
  rw [List.range_succ, List.filter_append, List.map_append]; simp [h]
theorem flt_f {p : Nat → Bool} {j : Nat} (h : p j = false) : ((List.range (j + 1)).filter p).map Int.ofNat = ((List.range j).filter p).map Int.ofNat := by
  rw [List.range_succ, List.filter_append, List.map_append]; simp [h]
theorem ref_at {ms : List WL} {j : Nat} {v : Value} (h : (ms.map fun x => Value.ref x.a).toArray[j]? = some v) : ∃ x, ms[j]? = some x ∧ v = .ref x.a := by
  rw [List.getElem?_toArray, List.getElem?_map] at h
  obtain ⟨x, h1, h2⟩ := Option.map_eq_some_iff.mp h
  exact ⟨x, h1, h2.symm⟩
theorem take_snoc {α : Type} {l : List α} {j : Nat} {x : α} (h : l[j]? = some x) : l.take (j + 1) = l.take j ++ [x] := by rw [List.take_add_one, h]; rfl
theorem add_m {prog : Program} {w : World} {A : Around} {E : Value → Shared → Prop} {s : Shared} {h₀ : Heap} {L a b : Addr} {m : Str → Option Value} {news : List (Addr × Obj)} {vs ws : List Value} {ns ms : List Int} {na nb : Nat} {Q : Value → Shared → Prop}
    (F : Fr h₀ L s.heap m) (N : News h₀ L s.heap news) (ha : (a, listOf vs.toArray na) ∈ news) (hb : (b, listOf ws.toArray nb) ∈ news) (hi : IntsAre vs ns) (hj : IntsAre ws ms) (hz : vs.length + ws.length < 1000)
    (h : ∀ D us h', Fr h₀ L h' m → News h₀ L h' ((D, listOf (List.toArray us) 0) :: news) → (∀ p ∈ news, p.1 < D) → IntsAre us (ns ++ ms) → Q (.ref D) { s with heap := h' }) : wpAny (model prog w) A (binaryOp .Add (.ref a) (.ref b)) Q E s :=
  kmk_add_ints F N (N.isList ha) (N.isList hb) hi hj h (by rw [sizeLine_eq, ← hi.length, ← hj.length]; omega)
theorem add_n {prog : Program} {w : World} {A : Around} {E : Value → Shared → Prop} {s : Shared} {h₀ : Heap} {L a b : Addr} {m : Str → Option Value} {news : List (Addr × Obj)} {vs ws : List Value} {ns ms : List Int} {na nb : Nat} {Q : Value → Shared → Prop}
    (F : Fr h₀ L s.heap m) (N : News h₀ L s.heap news) (ha : (a, listOf vs.toArray na) ∈ news) (hb : (b, listOf ws.toArray nb) ∈ news) (hi : IntsAre vs ns) (hj : IntsAre ws ms) (hz : ns.length + ms.length < 1000)
    (h : ∀ D us h', Fr h₀ L h' m → News h₀ L h' ((D, listOf (List.toArray us) 0) :: news) → (∀ p ∈ news, p.1 < D) → IntsAre us (ns ++ ms) → Q (.ref D) { s with heap := h' }) : wpAny (model prog w) A (binaryOp .Add (.ref a) (.ref b)) Q E s :=
  kmk_add_ints F N (N.isList ha) (N.isList hb) hi hj h (by rw [sizeLine_eq]; omega)
set_option hygiene false in
local macro_rules | `(tactic| walk_at "i:add2") => `(tactic| (intro D' ws' h' F' N' lA' hA'; (try k_lt lA'); (try k_sweep)))
local macro_rules | `(tactic| walk_at "binaryOp Add ref ref") => `(tactic| (k_here; (with_reducible show wpAny _ _ (binaryOp _ (Value.ref _) (Value.ref _)) _ _ _); k_dflt (refine' add_m (by k_asm) (by k_asm) (by k_mem) (by k_mem) (by with_reducible assumption) (by with_reducible assumption) (by omega) ?_); walk_at "i:add2"))
theorem rng2_small : ∀ a b : Fin 7, Builtin.Range.small (a : Nat) (b : Nat) 1 = true ∧ Builtin.Range.rangeSize (a : Nat) (b : Nat) 1 = ((b - a : Nat) : Int) := by decide +kernel
theorem rng2_s {a b : Nat} (h : a < 7) (h' : b < 7) : Builtin.Range.small (a : Int) (b : Int) 1 = true := (rng2_small ⟨a, h⟩ ⟨b, h'⟩).1
theorem rng2_n {a b : Nat} (h : a < 7) (h' : b < 7) : Builtin.Range.rangeSize (a : Int) (b : Int) 1 = ((b - a : Nat) : Int) := (rng2_small ⟨a, h⟩ ⟨b, h'⟩).2
theorem fltq_t {p : Nat → Bool} {q j : Nat} (h : p (q + j) = true) : ((List.range (j + 1)).filter (fun t => p (q + t))).map (fun t => ((q + t : Nat) : Int)) = ((List.range j).filter (fun t => p (q + t))).map (fun t => ((q + t : Nat) : Int)) ++ [((q + j : Nat) : Int)] := by
  rw [List.range_succ, List.filter_append, List.map_append]; simp [h]
theorem fltq_f {p : Nat → Bool} {q j : Nat} (h : p (q + j) = false) : ((List.range (j + 1)).filter (fun t => p (q + t))).map (fun t => ((q + t : Nat) : Int)) = ((List.range j).filter (fun t => p (q + t))).map (fun t => ((q + t : Nat) : Int)) := by
  rw [List.range_succ, List.filter_append, List.map_append]; simp [h]
/-- a while whose ways out meet -/
noncomputable def WEnd {σ : Type} (h₀ : Heap) (L : Addr) (s : Shared) (Led : σ → List (Addr × Obj)) (ps : σ → List (Str × Value)) (stored : List Str) (m₀ : Str → Option Value) (Facts X : σ → Prop) (s₂ : Shared) : Prop :=
  ∃ (c : σ) (u : Str → Option Value) (h' : Heap) (tk' : Nat), s₂ = { s with heap := h', toks := tk' } ∧ Fr h₀ L h' (kstB (fun z => if stored.contains z then u z else m₀ z) (ps c)) ∧ News h₀ L h' (Led c) ∧ Facts c ∧ X c
theorem ksw_cut {prog : Program} {w : World} {A : Around} {E : Value → Shared → Prop} {Q : Flow → Shared → Prop} {s : Shared} {env : Env} {h₀ : Heap} {L : Addr} {σ : Type} {test : Expr} {body : List Stmt} {pos : Pos} {m₀ : Str → Option Value} (Led : σ → List (Addr × Obj)) (ps : σ → List (Str × Value)) (Facts : σ → Prop) (stored : List Str) (X : σ → Prop) (μ : σ → Nat) (c₀ : σ)
    (F : Fr h₀ L s.heap m₀) (N : News h₀ L s.heap (Led c₀)) (hf : Facts c₀) (hk : ∀ p ∈ ps c₀, m₀ p.1 = some p.2)
    (turn : ∀ (c : σ) (u : Str → Option Value) h tk, Facts c → Fr h₀ L h (kstB (fun z => if stored.contains z then u z else m₀ z) (ps c)) → News h₀ L h (Led c) →
      wpAny (model prog w) A (isTrue test env (eval test env)) (fun b s₂ =>
        if b = true then wpAny (model prog w) A (execs body env) (KswPost h₀ L s Led ps Facts stored m₀ (fun _ => True) μ Q c) E s₂ else WEnd h₀ L s Led ps stored m₀ Facts X s₂) E { s with heap := h, toks := tk })
    (done : ∀ (c : σ) (u : Str → Option Value) h tk, Facts c → X c → Fr h₀ L h (kstB (fun z => if stored.contains z then u z else m₀ z) (ps c)) → News h₀ L h (Led c) → Q .next { s with heap := h, toks := tk })
    (hE : PassesOwn (model prog w) A env E := by passes_own) :
    wpAny (model prog w) A (exec (.While test body [] pos) env) Q E s := by
  refine ksw_while Led ps Facts stored (fun _ => True) μ c₀ F N hf hk trivial (fun c u h tk hc _ F' N' => ?_) hE
  refine wpAny_mono (turn c u h tk hc F' N') (fun b s₂ q => ?_) fun _ _ x => x
  cases b with
  | true => exact q
  | false =>
    simp only [Bool.false_eq_true, if_false] at q ⊢
    obtain ⟨c', u', h', tk', rfl, F'', N'', h1, h2⟩ := q
    exact done c' u' h' tk' h1 h2 F'' N''

theorem anew_K_row : True := by w_top off; first | (walk1; done) | trivial
section Priv
noncomputable def addU (r : List Int) (x : Int) : List Int := if x ∈ r then r else r ++ [x]
noncomputable def rowF (script : List Int) : List Int := ((script.take 6 ++ [4, 9, 1, 7, 3, 8]).foldl addU []).take 6
theorem addU_len : ∀ {xs r : List Int}, (xs.foldl addU r).length ≤ r.length + xs.length := by
  intro xs
  induction xs with
  | nil => intro r; simp
  | cons x xs ih =>
    intro r
    rw [List.foldl_cons]
    have h1 : (addU r x).length ≤ r.length + 1 := by unfold addU; split <;> simp
    have h2 := ih (r := addU r x)
    simp only [List.length_cons]; omega
theorem row_ord {h₀ h : Heap} {L : Addr} {a b c d : Addr × Obj} {r : List (Addr × Obj)} (N : News h₀ L h (a :: b :: c :: d :: r)) : News h₀ L h (d :: a :: r) := news_sub N (by intro x hx; simp only [List.mem_cons] at hx ⊢; rcases hx with h | h | h <;> simp [h])
set_option maxRecDepth 100000 in
set_option maxHeartbeats 4000000 in
theorem row_c : ∀ {w : World} {p : Program} {loose : List Str} {mean : ExcName → Option Value} {mg mb : Str → Option Value} {dp un : Nat} {gd : Option (List Code)} {cn : Str} {cs : Scope} {a : Addr} {ccd : Value} {cl : List (Str × Addr)} {outer : List Env} {A₀ : Around} {base h₀ : Heap} {L : Addr} {m : Str → Option Value} {s : Shared} {Q E : Value → Shared → Prop} {Sc : Nat} {sv : List Value} {script : List Int} {rest : List (Addr × Obj)},
    Below A₀ base outer h₀ → Fr h₀ L s.heap m → (Mine.hd.heap_1 w.params).In h₀ → Top p loose mean mg mb h₀ → cs.kind = .function → dp < 840 → un < 8400 → News h₀ L s.heap rest → h₀.IsList Sc sv.toArray → IntsAre sv script → script.length ≤ 63 →
    (∀ O ov on h' tk', Fr h₀ L h' m → News h₀ L h' ((O, listOf ov.toArray on) :: rest) → IntsAre ov (rowF script) → Q (.ref O) { s with heap := h', toks := tk' }) →
    wpAny (model PySem.Challenge.rw_mg0054_01.row.prog w) (ktrTop dp un gd cn cs L a ccd cl outer) (call (.ref 183) [.ref Sc]) Q E s := by
  k_fill
  intro w p loose mean mg mb dp un gd cn cs a ccd cl outer A₀ base h₀ L m s Q E Sc sv script rest B F X T hk hdp hun N hsm hsi hsl hret
  refine wpAny_call ?_
  k_dflt ktr_enter
  rename Fr h₀ L _ m => FGx
  have hsL := Fr.lst FGx hsm
  ((try (with_reducible refine pin_postA ?_; intros)); k_steps)
  (refine stop_out ?_; (try (with_reducible refine pin_postQ ?_; intros)))
  rename Fr _ _ _ _ => F1
  rename News _ _ _ _ => N1
  rename IntsAre _ (_ ++ _) => hi1
  generalize hsrc : List.take 6 script ++ [4, 9, 1, 7, 3, 8] = src at *
  have hsl2 : src.length ≤ 12 := by rw [← hsrc]; simp; omega
  obtain ⟨S, Rl, sv2, sm, N2, hi2, eS, eR⟩ : ∃ (S Rl : Nat) (sv2 : List Value) (sm : Nat), News _ _ _ ((Rl, listOf ([] : List Value).toArray 0) :: (S, listOf sv2.toArray sm) :: rest) ∧ IntsAre sv2 src ∧ S = _ ∧ Rl = _ := ⟨_, _, _, _, row_ord N1, hi1, rfl, rfl⟩
  subst eS eR
  clear N1 hi1
  have hn1 : S ≠ Rl := by omega
  have hn2 : ∀ p ∈ rest, p.1 ≠ Rl := bd_ne (by omega)
  have hll : ∀ i, ((src.take i).foldl addU []).length ≤ 12 := by
    intro i
    have h1 := addU_len (xs := src.take i) (r := [])
    rw [List.length_take] at h1
    simp only [List.length_nil] at h1
    omega
  refine iter_list (σ := List Value × List Int × Nat) (vs := sv2) (fun c => (Rl, listOf c.1.toArray c.2.2) :: (S, listOf sv2.toArray sm) :: rest) (fun _ => []) [] (fun i c => IntsAre c.1 c.2.1 ∧ c.2.1 = (src.take i).foldl addU []) ([], [], 0) rfl (fun _ _ _ => .tail _ (.head _)) F1 N2 (by simp) ⟨.nil, rfl⟩ ?_ ?_
  · rintro i v ⟨rv, r, rn⟩ u h tk I oI hv ⟨hri, hre⟩ hoff F3 N3
    dsimp only at *
    obtain ⟨k, tv, hk2, rfl⟩ := ints_at hi2 hv
    have hlr := hri.length
    have hlr2 : r.length ≤ 12 := by rw [hre]; exact hll i
    have hn3 : Rl ≠ I := hoff _ (.head _)
    have hrs : (src.take (i + 1)).foldl addU [] = addU r k := by rw [take_succ_fold hk2, ← hre]
    clear F1 N2 N
    ((try (with_reducible refine pin_postA ?_; intros)); k_steps)
    · rename Fr _ _ _ _ => F5
      rename News _ _ _ _ => N5
      rename k ∉ r => hin
      refine for_end (rv ++ [.int k tv], r ++ [k], rn + 1) F5 N5 ?_ ?_ (List.forall_mem_cons.mpr ⟨hn3, (List.forall_mem_cons.mp hoff).2⟩) (by simp) ?_ ⟨ints_snoc hri, ?_⟩
      · exact .head _
      · walk_at "sub"
      · walk_at "same3"
      · rw [hrs]; unfold addU; rw [if_neg hin]
    · rename Fr _ _ _ _ => F5
      rename News _ _ _ _ => N5
      rename k ∈ r => hin
      refine for_end (rv, r, rn) F5 N5 ?_ ?_ hoff (by simp) ?_ ⟨hri, ?_⟩
      · exact .head _
      · walk_at "sub"
      · walk_at "same3"
      · dsimp only; rw [hrs]; unfold addU; rw [if_pos hin]
  · rintro ⟨rv, r, rn⟩ u h tk ⟨hri, hre⟩ F3 N3
    dsimp only at *
    have hlr := hri.length
    have hlr2 : r.length ≤ 12 := by rw [hre]; exact hll _
    rw [List.take_of_length_le (by rw [hi2.length]; exact Nat.le_refl _)] at hre
    clear F1 N2
    ((try (with_reducible refine pin_postA ?_; intros)); k_steps)
    rename Fr _ _ _ _ => F5
    rename News _ _ _ _ => N5
    rename IntsAre _ (List.take 6 r) => hi5
    refine hret _ _ _ _ _ F5 (news_13 N5) ?_
    unfold rowF
    rw [hsrc, ← hre]
    exact hi5
end Priv

theorem anew_L_draws : True := by w_top off; first | (walk1; done) | trivial
theorem len_b {prog : Program} {w : World} {A : Around} {E : Value → Shared → Prop} {s : Shared} {h₀ : Heap} {L l : Addr} {m : Str → Option Value} {vs : List Value} {Q : Value → Shared → Prop} (F : Fr h₀ L s.heap m) (hl : h₀.IsList l vs.toArray) (hz : vs.length < 1000) (h : ∀ t' tk', Q (.int (vs.length : Int) t') { s with toks := tk' }) : wpAny (model prog w) A (call (.builtin "len") [.ref l]) Q E s :=
  PyProof.Rows.len_list (items := vs.toArray) (Fr.lst F hl) (by rw [List.size_toArray]; omega) (by rw [List.size_toArray]; exact h _ _)
section Priv
local macro_rules | `(tactic| walk_at "call builtin:len") => `(tactic| (k_here; (with_reducible show wpAny _ _ (call (Value.builtin "len") [Value.ref _]) _ _ _); k_dflt (refine' len_b (by k_asm) (by with_reducible assumption) (by omega) ?_); intro t' tk'))
noncomputable def drawT (script : List Int) (d : List Int) (i : Nat) : List Int := d.set (i % 5 + 1) (d.getD (i % 5 + 1) 0 + script.getD i 0)
noncomputable def drawsF (script : List Int) : List Int := (List.range script.length).foldl (drawT script) [0, 1, 1, 2, 4, 65]
theorem drawsF_len {script : List Int} : ∀ {is d : List Nat} {e : List Int}, (is.foldl (drawT script) e).length = e.length := by
  intro is
  induction is with
  | nil => intro _ e; rfl
  | cons i is ih => intro d e; rw [List.foldl_cons, ih (d := d)]; simp [drawT]
set_option maxRecDepth 100000 in
set_option maxHeartbeats 4000000 in
theorem draws_c : ∀ {w : World} {p : Program} {loose : List Str} {mean : ExcName → Option Value} {mg mb : Str → Option Value} {dp un : Nat} {gd : Option (List Code)} {cn : Str} {cs : Scope} {a : Addr} {ccd : Value} {cl : List (Str × Addr)} {outer : List Env} {A₀ : Around} {base h₀ : Heap} {L : Addr} {m : Str → Option Value} {s : Shared} {Q E : Value → Shared → Prop} {Sc : Nat} {sv : List Value} {script : List Int} {rest : List (Addr × Obj)},
    Below A₀ base outer h₀ → Fr h₀ L s.heap m → (Mine.hd.heap_1 w.params).In h₀ → Top p loose mean mg mb h₀ → cs.kind = .function → dp < 840 → un < 8400 → News h₀ L s.heap rest → h₀.IsList Sc sv.toArray → IntsAre sv script → script.length ≤ 63 →
    (∀ O ov on h' tk', Fr h₀ L h' m → News h₀ L h' ((O, listOf ov.toArray on) :: rest) → IntsAre ov (drawsF script) → Q (.ref O) { s with heap := h', toks := tk' }) →
    wpAny (model PySem.Challenge.rw_mg0054_01.row.prog w) (ktrTop dp un gd cn cs L a ccd cl outer) (call (.ref 190) [.ref Sc]) Q E s := by
  k_fill
  intro w p loose mean mg mb dp un gd cn cs a ccd cl outer A₀ base h₀ L m s Q E Sc sv script rest B F X T hk hdp hun N hsm hsi hsl hret
  have hsvl := hsi.length
  refine wpAny_call ?_
  k_dflt ktr_enter
  rename Fr h₀ L _ m => FGx
  have hsL := Fr.lst FGx hsm
  ((try (with_reducible refine pin_postA ?_; intros)); k_steps)
  (refine stop_out ?_; (try (with_reducible refine pin_postQ ?_; intros)))
  rename Fr _ _ _ _ => F1
  rename News _ _ _ _ => N1
  rename IsRange _ _ _ _ _ _ _ _ => R1
  obtain ⟨Dl, dv0, N2, hi0, eD⟩ : ∃ (Dl : Nat) (dv0 : List Value), News _ _ _ ((Dl, listOf dv0.toArray 0) :: rest) ∧ IntsAre dv0 [0, 1, 1, 2, 4, 65] ∧ Dl = _ :=
    ⟨_, _, N1, .cons _ _ (.cons _ _ (.cons _ _ (.cons _ _ (.cons _ _ (.cons _ _ .nil))))), rfl⟩
  subst eD
  clear N1
  have hn2 : ∀ p ∈ rest, p.1 ≠ Dl := bd_ne (by omega)
  refine iter_rng (n := script.length) (σ := List Value × List Int × Nat) R1 (rng_s (by omega)) (rng_n (by omega)) rfl (fun c => (Dl, listOf c.1.toArray c.2.2) :: rest) (fun _ => []) [] (fun i c => IntsAre c.1 c.2.1 ∧ c.2.1 = (List.range i).foldl (drawT script) [0, 1, 1, 2, 4, 65]) (dv0, [0, 1, 1, 2, 4, 65], 0) F1 N2 (by simp) ⟨hi0, rfl⟩ ?_ ?_
  · rintro i ti ⟨dv, d, dn⟩ u h tk I oI hi ⟨hdi, hde⟩ hoff F3 N3
    dsimp only at *
    have hld : d.length = 6 := by rw [hde, drawsF_len (d := [])]; rfl
    have hn3 : Dl ≠ I := hoff _ (.head _)
    have hlr := hdi.length
    clear F1 N2 N R1
    ((try (with_reducible refine pin_postA ?_; intros)); k_steps)
    rename Fr _ _ _ _ => F5
    rename News _ _ _ _ => N5
    rename IntsAre (List.set _ _ _) _ => hi5
    have e1 : ((0 + (i : Int) * 1).fmod 5 + 1).toNat = i % 5 + 1 := by rw [Int.fmod_eq_emod_of_nonneg _ (by decide)]; omega
    have e2 : (0 + (i : Int) * 1).toNat = i := by omega
    rw [e1, e2] at hi5
    rw [e1, e2] at N5
    refine for_end (_, d.set (i % 5 + 1) (d.getD (i % 5 + 1) 0 + script.getD i 0), _) F5 N5 ?_ (fun p hp => .tail _ hp) (List.forall_mem_cons.mpr ⟨hn3, (List.forall_mem_cons.mp hoff).2⟩) (by simp) ?_ ⟨hi5, ?_⟩
    · exact .head _
    · walk_at "same3"
    · dsimp only; rw [List.range_succ, List.foldl_append, ← hde]; rfl
  · rintro ⟨dv, d, dn⟩ u h tk ⟨hdi, hde⟩ F3 N3
    dsimp only at *
    clear F1 N2 R1
    ((try (with_reducible refine pin_postA ?_; intros)); k_steps)
    rename Fr _ _ _ _ => F5
    rename News _ _ _ _ => N5
    exact hret _ _ _ _ _ F5 N5 (by unfold drawsF; rw [← hde]; exact hdi)
end Priv

theorem anew_N_waits : True := by w_top off; first | (walk1; done) | trivial
/-- what p waits for, as drawn and mended -/
noncomputable def bit (x : Int) (j : Nat) : Bool := decide (Builtin.bitAnd (x.fdiv (2 ^ j)) 1 ≠ 0)
noncomputable def waitsP (draws : List Int) (mc : List (List Int)) (p : Nat) : List Int := ((List.range p).filter (fun j => bit (draws.getD p 0) j)).map Int.ofNat ++ (mc.filter (fun c => c.getD 0 0 = (p : Int))).map (fun c => c.getD 1 0)
noncomputable def waitsF (draws : List Int) (mc : List (List Int)) : List (List Int) := (List.range 6).map (waitsP draws mc)
structure WS where
  wv : Nat
  ws : List WL
  op : Obj
theorem waits_reord {h₀ h : Heap} {L : Addr} {a b c i w p q : Addr × Obj} {l r : List (Addr × Obj)} (N : News h₀ L h (a :: b :: c :: i :: w :: p :: q :: (l ++ r))) : News h₀ L h (i :: w :: p :: q :: (l ++ [a] ++ r)) :=
  news_sub N (by intro x hx; simp only [List.mem_cons, List.mem_append, List.not_mem_nil, or_false] at hx ⊢; rcases hx with h | h | h | h | (h | h) | h <;> simp [h])
theorem news_waits {h₀ h : Heap} {L : Addr} {w p q : Addr × Obj} {r : List (Addr × Obj)} (N : News h₀ L h (w :: p :: q :: r)) : News h₀ L h (w :: r) := news_13 N
section Priv
local macro_rules | `(tactic| walk_at "exec For") => `(tactic| (k_here; (with_reducible show wpAny _ _ (exec (Stmt.For (Expr.Name _ _) _ _ [] _) _) _ _ _); (with_unfolding_all refine For_T ?_)))
local macro_rules | `(tactic| walk_at "pyIter ref") => `(tactic| ((with_reducible show wpAny _ _ (pyIter (Value.ref _)) (fun it s₂ => LoopT _ _ _ _ _ _ _ _ _ it s₂) _ _); with_reducible refine stop_in ?_))
set_option maxRecDepth 100000 in
set_option maxHeartbeats 4000000 in
theorem waits_c : ∀ {w : World} {p : Program} {loose : List Str} {mean : ExcName → Option Value} {mg mb : Str → Option Value} {dp un : Nat} {gd : Option (List Code)} {cn : Str} {cs : Scope} {a : Addr} {ccd : Value} {cl : List (Str × Addr)} {outer : List Env} {A₀ : Around} {base h₀ : Heap} {L : Addr} {m : Str → Option Value} {s : Shared} {Q E : Value → Shared → Prop} {Dr dn Me mn : Nat} {dv : List Value} {draws : List Int} {ms : List WL} {rest : List (Addr × Obj)},
    Below A₀ base outer h₀ → Fr h₀ L s.heap m → (Mine.hd.heap_1 w.params).In h₀ → Top p loose mean mg mb h₀ → cs.kind = .function → dp < 840 → un < 8400 → News h₀ L s.heap rest → (Dr, listOf dv.toArray dn) ∈ rest → IntsAre dv draws → draws.length = 6 → LL rest Me mn ms → ms.length ≤ 5 → (∀ x ∈ ms, x.c.length = 2) → 
    (∀ O on ws h' tk', Fr h₀ L h' m → News h₀ L h' ((O, listOf (ws.map fun x => Value.ref x.a).toArray on) :: (wled ws ++ rest)) → (∀ x ∈ ws, IntsAre x.v x.c) → ws.map (·.c) = waitsF draws (ms.map (·.c)) → Q (.ref O) { s with heap := h', toks := tk' }) →
    wpAny (model PySem.Challenge.rw_mg0054_01.row.prog w) (ktrTop dp un gd cn cs L a ccd cl outer) (call (.ref 200) [.ref Dr, .ref Me]) Q E s := by
  k_fill
  intro w p loose mean mg mb dp un gd cn cs a ccd cl outer A₀ base h₀ L m s Q E Dr dn Me mn dv draws ms rest B F X T hk hdp hun N hdm hdi hdl hm hml hmc hret
  refine wpAny_call ?_
  k_dflt (refine' code_defC ?k1 ?k2 ?k3 ?k4 ?k5 ?kA ?kF ?kK ?k6 ?k7 ?k8 ?k9 ?kB ?kD ?_ ?c2 ?c3 ?c4; (case kA => exact rfl); (case kF => exact rfl); (case kK => assumption); (case k1 => k_asm); (case k2 => k_asm); (case k3 => k_asm); (case k4 => k_asm); (case k5 => k_asm); (case k6 => k_is); (case k7 => k_is); (case k8 => ktr_room); (case k9 => exact BindsTo.of_eq rfl); (case kB => exact rfl); (case kD => decide +kernel); (case c2 => exact rfl); (case c3 => exact rfl); (case c4 => exact rfl); k_whole; intro g' L' h' tk' cells' FG' F' N' Y' B' X' T' l1; (try k_lt l1); k_cells Y'; (try simp only [List.cons_append, List.nil_append] at N'); (try dsimp only); (try k_fold))
  ((try (with_reducible refine pin_postA ?_; intros)); k_steps)
  (refine stop_out ?_; (try (with_reducible refine pin_postQ ?_; intros)))
  rename Fr _ _ _ _ => F1
  rename News _ _ _ _ => N1
  rename IsRange _ _ _ _ _ _ _ _ => R1
  obtain ⟨Wl, cp, cd, op, od, N2, hcd, eW, ep, ec, vp, hvp⟩ : ∃ (Wl cp cd : Nat) (op od : Obj), News _ _ _ ((Wl, listOf ([] : List Value).toArray 0) :: (cp, op) :: (cd, od) :: (wled [] ++ rest)) ∧ od.data = .cell (some (.ref Dr)) ∧ Wl = _ ∧ cp = L' + 1 + 1 ∧ cd = L' + 1 ∧ ∃ v₀, op.data = .cell v₀ :=
    ⟨_, _, _, _, _, N1, by assumption, rfl, rfl, rfl, _, by assumption⟩
  subst eW ep ec
  clear N1
  have hW0 : ∀ p ∈ rest, p.1 ≠ Wl ∧ p.1 ≠ L' + 1 + 1 ∧ p.1 ≠ L' + 1 := fun p hp => ⟨bd_ne (x := Wl) (by omega) p hp, bd_ne (x := L' + 1 + 1) (by omega) p hp, bd_ne (x := L' + 1) (by omega) p hp⟩
  have hn1 : Wl ≠ L' + 1 + 1 := by omega
  have hn2 : Wl ≠ L' + 1 := by omega
  have hn3 : L' + 1 + 1 ≠ L' + 1 := Nat.succ_ne_self (L' + 1)
  refine iterC_rng (n := 6) (σ := WS) R1 (by decide) (by decide) rfl (fun c => (Wl, listOf (c.ws.map fun x => Value.ref x.a).toArray c.wv) :: (L' + 1 + 1, c.op) :: (L' + 1, od) :: (wled c.ws ++ rest)) (fun _ => []) []
    (fun i c => (∃ v₀, c.op.data = .cell v₀) ∧ (∀ p ∈ wled c.ws ++ rest, p.1 ≠ Wl ∧ p.1 ≠ L' + 1 + 1 ∧ p.1 ≠ L' + 1) ∧ (∀ x ∈ c.ws, IntsAre x.v x.c) ∧ c.ws.map (·.c) = (List.range i).map (waitsP draws (ms.map (·.c)))) ⟨0, [], op⟩ F1 N2 (by simp) ⟨⟨vp, hvp⟩, hW0, by simp, rfl⟩ ?_ ?_
  · rintro i ti ⟨wv, ws, op⟩ u h tk I oI hi ⟨⟨v₀, hop⟩, hoff1, hwi, hwc⟩ hoff F3 N3
    dsimp only at *
    have hI1 : Wl ≠ I := hoff _ (.head _)
    have hI2 : L' + 1 + 1 ≠ I := hoff _ (.tail _ (.head _))
    have hI3 : L' + 1 ≠ I := hoff _ (.tail _ (.tail _ (.head _)))
    have hf1 : ∀ p ∈ wled ws ++ rest, p.1 ≠ Wl := fun p hp => (hoff1 p hp).1
    have hf2 : ∀ p ∈ wled ws ++ rest, p.1 ≠ L' + 1 + 1 := fun p hp => (hoff1 p hp).2.1
    clear F1 N2 R1 N
    have ei : 0 + (i : Int) * 1 = (i : Int) := by omega
    rw [ei]
    have hwl : (ws.map fun x => Value.ref x.a).length < 90 := by rw [List.length_map, ← List.length_map (·.c), hwc]; simp; omega
    ((try (with_reducible refine pin_postA ?_; intros)); k_steps)
    (refine stop_out ?_; (try (with_reducible refine pin_postQ ?_; intros)))
    k_dflt (refine LCt.ListComp_T (F₀ := by k_asm) (by with_unfolding_all rfl) (by decide) (by rfl) (by decide) (by rfl) ?_)
    ((try (with_reducible refine pin_postA ?_; intros)); k_steps)
    (refine stop_out ?_; (try (with_reducible refine pin_postQ ?_; intros)))
    rename Fr _ _ _ _ => F5
    rename News _ _ _ _ => N5
    rename IsRange _ _ _ _ _ _ _ _ => R5
    refine LCt.CompSrcT.range rfl F5 N5 R5 (rng_s (by omega)) (rng_n (by omega)) (by rw [sizeLine_eq]; omega) fun g5 => ?_
    clear F3 N3
    refine compT_ind (fun j ys => IntsAre ys (((List.range j).filter (fun j => bit (draws.getD i 0) j)).map Int.ofNat)) trivial .nil ?_ ?_
    · intro j ys v I1 oI1 C oC D0 m₂ h1 tk1 E' hj hJ hv hC hx F7 N7
      obtain ⟨t7, rfl⟩ := hv
      have ej : 0 + (j : Int) = (j : Int) := by omega
      rw [ej] at hx
      clear F5 N5 R5
      ((try (with_reducible refine pin_postA ?_; intros)); k_steps)
      · rename Fr _ _ _ _ => F8
        rename News _ _ _ _ => N8
        rename Builtin.bitAnd _ _ ≠ 0 => hb
        refine turn_end F8 N8 (fun p hp => hp) ?_
        rw [flt_t (show bit (draws.getD i 0) j = true by unfold bit; exact decide_eq_true hb)]
        exact ints_snoc hJ
      · rename Fr _ _ _ _ => F8
        rename News _ _ _ _ => N8
        rename Builtin.bitAnd _ _ = 0 => hb
        refine turn_end F8 N8 (fun p hp => hp) ?_
        rw [flt_f (show bit (draws.getD i 0) j = false by unfold bit; exact decide_eq_false (fun q => q hb))]
        exact hJ
    · intro ys hJ D2 h2 tk2 F6 N6 o2
      have o3 := off1_of o2
      have N7 : News _ _ _ ((D2, listOf ys.toArray ys.length) :: _) := N6
      have hD2 : Wl ≠ D2 := o3 _ (.tail _ (.head _))
      have hmm := hm.m
      clear N6 F5 N5 R5 o2
      ((try (with_reducible refine pin_postA ?_; intros)); k_steps)
      (refine stop_out ?_; (try (with_reducible refine pin_postQ ?_; intros)))
      k_dflt (refine LCt.ListComp_T (F₀ := by k_asm) (by with_unfolding_all rfl) (by decide) (by rfl) (by decide) (by rfl) ?_)
      ((try (with_reducible refine pin_postA ?_; intros)); k_steps)
      (refine stop_out ?_; (try (with_reducible refine pin_postQ ?_; intros)))
      rename Fr _ _ _ _ => F8
      rename News _ _ _ _ => N8
      refine LCt.CompSrcT.ledger rfl F8 N8 (by k_mem) (by rw [sizeLine_eq, List.size_toArray, List.length_map]; omega) fun g8 => ?_
      refine compT_ind (fun j ys => IntsAre ys ((((ms.take j).map (·.c)).filter (fun c => c.getD 0 0 = (i : Int))).map (fun c => c.getD 1 0))) (.inr ⟨_, by k_mem, rfl, _, rfl⟩) .nil ?_ ?_
      · intro j ys2 v I1 oI1 C oC D0 m₂ h1 tk1 E' hj hJ2 hv hC hx F9 N9
        obtain ⟨x, hx2, rfl⟩ := ref_at hv
        have hxm := List.mem_of_getElem? hx2
        obtain ⟨hxa, hxi⟩ := hm.e x hxm
        have hxl := hmc x hxm
        clear F8 N8
        have htk : (ms.take (j + 1)).map (·.c) = (ms.take j).map (·.c) ++ [x.c] := by rw [take_snoc hx2, List.map_append]; rfl
        ((try (with_reducible refine pin_postA ?_; intros)); k_steps)
        · rename Fr _ _ _ _ => F10
          rename News _ _ _ _ => N10
          rename List.getD x.c _ _ = (i : Int) => hb
          replace hb : x.c.getD 0 0 = (i : Int) := hb
          refine turn_end F10 N10 (fun p hp => hp) ?_
          rw [htk, List.filter_append, List.map_append, List.filter_cons, if_pos (decide_eq_true hb)]
          exact ints_snoc hJ2
        · rename Fr _ _ _ _ => F10
          rename News _ _ _ _ => N10
          rename List.getD x.c _ _ ≠ (i : Int) => hb
          replace hb : x.c.getD 0 0 ≠ (i : Int) := hb
          refine turn_end F10 N10 (fun p hp => hp) ?_
          rw [htk, List.filter_append, List.map_append, List.filter_cons, if_neg (by simpa using hb)]
          simpa using hJ2
      · intro ys2 hJ2 D3 h3 tk3 F9 N9 o4
        have o5 := off1_of o4
        have N10 : News _ _ _ ((D3, listOf ys2.toArray ys2.length) :: _) := N9
        have hD3 : Wl ≠ D3 := o5 _ (.tail _ (.tail _ (.head _)))
        clear N9 F8 N8 o4
        rw [List.size_toArray, List.length_map, List.take_of_length_le (Nat.le_refl _)] at hJ2
        have hyl : ys.length ≤ 6 := by rw [hJ.length, List.length_map]; have := List.length_filter_le (fun j => bit (draws.getD i 0) j) (List.range i); rw [List.length_range] at this; omega
        have hyl2 : ys2.length ≤ 5 := by rw [hJ2.length, List.length_map]; have := List.length_filter_le (fun c => decide (c.getD 0 0 = (i : Int))) (ms.map (·.c)); rw [List.length_map] at this; omega
        ((try (with_reducible refine pin_postA ?_; intros)); k_steps)
        rename Fr _ _ _ _ => F10
        rename News _ _ _ _ => N10
        rename Obj.data _ = Data.cell (some (Value.int _ _)) => ho
        have N11 := waits_reord N10
        have hB : ∀ p ∈ wled ws ++ rest, p.1 < D' := bd_lt (by omega)
        refine endT (⟨wv + 1, ws ++ [⟨D', ws', waitsP draws (ms.map (·.c)) i, 0⟩], _⟩ : WS) F10 N11 ?_ (by simp) ?_ ⟨⟨⟨_, ho⟩, ?_, ?_, ?_⟩, ?_⟩
        · dsimp only
          rw [List.map_append, wled_append]
          exact fun p hp => hp
        · intro z h1 h2; simp [kstB]
        · intro p hp
          dsimp only at hp
          rw [wled_append, List.mem_append, List.mem_append] at hp
          rcases hp with (hp | hp) | hp
          · exact hoff1 p (List.mem_append_left _ hp)
          · rw [List.mem_singleton.mp hp]; exact ⟨by dsimp only; exact Nat.ne_of_gt (by omega), by dsimp only; exact Nat.ne_of_gt (by omega), by dsimp only; exact Nat.ne_of_gt (by omega)⟩
          · exact hoff1 p (List.mem_append_right _ hp)
        · intro x hx
          dsimp only at hx
          rcases List.mem_append.mp hx with hx | hx
          · exact hwi x hx
          · rw [List.mem_singleton.mp hx]; exact hA'
        · dsimp only
          rw [List.map_append, hwc, List.range_succ, List.map_append]
          rfl
        · intro p hp
          dsimp only at hp
          simp only [List.mem_cons, wled_append, List.mem_append] at hp
          have hoff2 := hoff
          simp only [List.mem_cons, List.mem_append] at hoff2
          rcases hp with rfl | rfl | rfl | (hp | hp) | hp
          · exact hI1
          · exact hI2
          · exact hI3
          · exact hoff2 p (.inr (.inr (.inr (.inl hp))))
          · rw [List.mem_singleton.mp hp]; dsimp only; exact Nat.ne_of_gt (by omega)
          · exact hoff2 p (.inr (.inr (.inr (.inr hp))))
  · rintro ⟨wv, ws, op⟩ u h tk ⟨⟨v₀, hop⟩, hoff1, hwi, hwc⟩ F3 N3
    dsimp only at *
    clear F1 N2 R1
    ((try (with_reducible refine pin_postA ?_; intros)); k_steps)
    rename Fr _ _ _ _ => F5
    rename News _ _ _ _ => N5
    refine hret Wl wv ws _ _ F5 (news_waits N5) hwi hwc
end Priv

theorem anew_N_mends : True := by w_top off; first | (walk1; done) | trivial
/-- the mends of the place p -/
noncomputable def grF (row : List Int) (p : Nat) : List Int := ((List.range p).filter (fun j => decide (row.getD p 0 < row.getD j 0))).map Int.ofNat
noncomputable def mendsP (row draws : List Int) (P : Nat) : List (List Int) :=
  match (grF row P).getLast? with
  | none => []
  | some gl => if ((List.range (P - gl.toNat)).filter (fun t => bit (draws.getD P 0) (gl.toNat + t))) = [] then [[(P : Int), gl + ((draws.getD P 0).fdiv (2 ^ P)).fmod ((P : Int) - gl)]] else []
theorem mendsP_len {row draws : List Int} {P : Nat} : (mendsP row draws P).length ≤ 1 := by
  unfold mendsP
  split
  · simp
  · split <;> simp
theorem mendsP_nil {row draws : List Int} {P : Nat} (h : grF row P = []) : mendsP row draws P = [] := by unfold mendsP; rw [h]; rfl
theorem mendsP_snoc {row draws : List Int} {P q : Nat} {gs : List Int} (h : grF row P = gs ++ [(q : Int)]) : mendsP row draws P = if ((List.range (P - q)).filter (fun t => bit (draws.getD P 0) (q + t))) = [] then [[(P : Int), (q : Int) + ((draws.getD P 0).fdiv (2 ^ P)).fmod ((P : Int) - q)]] else [] := by
  unfold mendsP; rw [h, List.getLast?_concat]; rfl
noncomputable def mendsT (row draws : List Int) (i : Nat) : List (List Int) := (List.range i).flatMap fun t => mendsP row draws (t + 1)
theorem mendsT_succ {row draws : List Int} {i : Nat} : mendsT row draws (i + 1) = mendsT row draws i ++ mendsP row draws (i + 1) := by unfold mendsT; rw [List.range_succ, List.flatMap_append]; simp
theorem mendsT_len {row draws : List Int} : ∀ {i : Nat}, (mendsT row draws i).length ≤ i := by
  intro i
  induction i with
  | zero => exact Nat.le_refl _
  | succ i ih => rw [mendsT_succ, List.length_append]; have := mendsP_len (row := row) (draws := draws) (P := i + 1); omega
structure MS where
  mv : Nat
  ws : List WL
  op : Obj
theorem mends_reord {h₀ h : Heap} {L : Addr} {a b c d e i w p q u : Addr × Obj} {l r : List (Addr × Obj)} (N : News h₀ L h (a :: b :: c :: d :: e :: i :: w :: p :: q :: u :: (l ++ r))) : News h₀ L h (i :: w :: p :: q :: u :: (l ++ [a] ++ r)) :=
  news_sub N (by intro x hx; simp only [List.mem_cons, List.mem_append, List.not_mem_nil, or_false] at hx ⊢; rcases hx with h | h | h | h | h | (h | h) | h <;> simp [h])
theorem news_14 {h₀ h : Heap} {L : Addr} {a b c d : Addr × Obj} {r : List (Addr × Obj)} (N : News h₀ L h (a :: b :: c :: d :: r)) : News h₀ L h (a :: r) := news_12 (news_13 N)
section Priv
local macro_rules | `(tactic| walk_at "exec For") => `(tactic| (k_here; (with_reducible show wpAny _ _ (exec (Stmt.For (Expr.Name _ _) _ _ [] _) _) _ _ _); (with_unfolding_all refine For_T ?_)))
local macro_rules | `(tactic| walk_at "pyIter ref") => `(tactic| ((with_reducible show wpAny _ _ (pyIter (Value.ref _)) (fun it s₂ => LoopT _ _ _ _ _ _ _ _ _ it s₂) _ _); with_reducible refine stop_in ?_))
set_option maxRecDepth 100000 in
set_option maxHeartbeats 4000000 in
theorem mends_c : ∀ {w : World} {p : Program} {loose : List Str} {mean : ExcName → Option Value} {mg mb : Str → Option Value} {dp un : Nat} {gd : Option (List Code)} {cn : Str} {cs : Scope} {a : Addr} {ccd : Value} {cl : List (Str × Addr)} {outer : List Env} {A₀ : Around} {base h₀ : Heap} {L : Addr} {m : Str → Option Value} {s : Shared} {Q E : Value → Shared → Prop} {Rw rn Dr dn : Nat} {rv dv : List Value} {row draws : List Int} {rest : List (Addr × Obj)},
    Below A₀ base outer h₀ → Fr h₀ L s.heap m → (Mine.hd.heap_1 w.params).In h₀ → Top p loose mean mg mb h₀ → cs.kind = .function → dp < 840 → un < 8400 → News h₀ L s.heap rest → (Dr, listOf dv.toArray dn) ∈ rest → IntsAre dv draws → draws.length = 6 → (Rw, listOf rv.toArray rn) ∈ rest → IntsAre rv row → row.length = 6 →
    (∀ O on ws h' tk', Fr h₀ L h' m → News h₀ L h' ((O, listOf (ws.map fun x => Value.ref x.a).toArray on) :: (wled ws ++ rest)) → (∀ x ∈ ws, IntsAre x.v x.c) → ws.map (·.c) = mendsT row draws 5 → Q (.ref O) { s with heap := h', toks := tk' }) →
    wpAny (model PySem.Challenge.rw_mg0054_01.row.prog w) (ktrTop dp un gd cn cs L a ccd cl outer) (call (.ref 195) [.ref Rw, .ref Dr]) Q E s := by
  k_fill
  intro w p loose mean mg mb dp un gd cn cs a ccd cl outer A₀ base h₀ L m s Q E Rw rn Dr dn rv dv row draws rest B F X T hk hdp hun N hdm hdi hdl hrm hri hrl hret
  refine wpAny_call ?_
  k_dflt (refine' code_defC ?k1 ?k2 ?k3 ?k4 ?k5 ?kA ?kF ?kK ?k6 ?k7 ?k8 ?k9 ?kB ?kD ?_ ?c2 ?c3 ?c4; (case kA => exact rfl); (case kF => exact rfl); (case kK => assumption); (case k1 => k_asm); (case k2 => k_asm); (case k3 => k_asm); (case k4 => k_asm); (case k5 => k_asm); (case k6 => k_is); (case k7 => k_is); (case k8 => ktr_room); (case k9 => exact BindsTo.of_eq rfl); (case kB => exact rfl); (case kD => decide +kernel); (case c2 => exact rfl); (case c3 => exact rfl); (case c4 => exact rfl); k_whole; intro g' L' h' tk' cells' FG' F' N' Y' B' X' T' l1; (try k_lt l1); k_cells Y'; (try simp only [List.cons_append, List.nil_append] at N'); (try dsimp only); (try k_fold))
  ((try (with_reducible refine pin_postQ ?_; intros)); k_steps)
  (refine stop_out ?_; (try (with_reducible refine pin_postQ ?_; intros)))
  rename Fr _ _ _ _ => F1
  rename News _ _ _ _ => N1
  rename IsRange _ _ _ _ _ _ _ _ => R1
  obtain ⟨Wl, cp, cd, cr, op, od, or, N2, hcd, hcr, eW, ep, ec, er, vp, hvp⟩ : ∃ (Wl cp cd cr : Nat) (op od or : Obj), News _ _ _ ((Wl, listOf ([] : List Value).toArray 0) :: (cp, op) :: (cd, od) :: (cr, or) :: (wled [] ++ rest)) ∧ od.data = .cell (some (.ref Dr)) ∧ or.data = .cell (some (.ref Rw)) ∧ Wl = _ ∧ cp = L' + 1 + 1 + 1 ∧ cd = L' + 1 + 1 ∧ cr = L' + 1 ∧ ∃ v₀, op.data = .cell v₀ :=
    ⟨_, _, _, _, _, _, _, N1, by assumption, by assumption, rfl, rfl, rfl, rfl, _, by assumption⟩
  subst eW ep ec er
  clear N1
  have hW0 : ∀ p ∈ rest, p.1 ≠ Wl ∧ p.1 ≠ L' + 1 + 1 + 1 := fun p hp => ⟨bd_ne (x := Wl) (by omega) p hp, bd_ne (x := L' + 1 + 1 + 1) (by omega) p hp⟩
  have hn1 : Wl ≠ L' + 1 + 1 + 1 := by omega
  have hn2 : Wl ≠ L' + 1 + 1 := by omega
  have hn3 : Wl ≠ L' + 1 := by omega
  have hn4 : L' + 1 + 1 + 1 ≠ L' + 1 + 1 := Nat.succ_ne_self (L' + 1 + 1)
  have hn5 : L' + 1 + 1 + 1 ≠ L' + 1 := Nat.ne_of_gt (Nat.lt_succ_of_lt (Nat.lt_succ_self (L' + 1)))
  refine iterC_rng (n := 5) (σ := MS) R1 (by decide) (by decide) rfl (fun c => (Wl, listOf (c.ws.map fun x => Value.ref x.a).toArray c.mv) :: (L' + 1 + 1 + 1, c.op) :: (L' + 1 + 1, od) :: (L' + 1, or) :: (wled c.ws ++ rest)) (fun _ => []) [Str.ofString "greater"]
    (fun i c => (∃ v₀, c.op.data = .cell v₀) ∧ (∀ p ∈ wled c.ws ++ rest, p.1 ≠ Wl ∧ p.1 ≠ L' + 1 + 1 + 1) ∧ (∀ x ∈ c.ws, IntsAre x.v x.c) ∧ c.ws.map (·.c) = mendsT row draws i) ⟨0, [], op⟩ F1 N2 (by simp) ⟨⟨vp, hvp⟩, hW0, by simp, rfl⟩ ?_ ?_
  · rintro i ti ⟨wv, ws, op⟩ u h tk I oI hi ⟨⟨v₀, hop⟩, hoff1, hwi, hwc⟩ hoff F3 N3
    dsimp only at *
    have hwl : ws.length ≤ i := by rw [← List.length_map (·.c), hwc]; exact mendsT_len
    have hI1 : Wl ≠ I := hoff _ (.head _)
    have hI2 : L' + 1 + 1 + 1 ≠ I := hoff _ (.tail _ (.head _))
    have hf1 : ∀ p ∈ wled ws ++ rest, p.1 ≠ Wl := fun p hp => (hoff1 p hp).1
    have hf2 : ∀ p ∈ wled ws ++ rest, p.1 ≠ L' + 1 + 1 + 1 := fun p hp => (hoff1 p hp).2
    obtain ⟨P, hP⟩ : ∃ P, P = i + 1 := ⟨_, rfl⟩
    have ei : 1 + (i : Int) * 1 = (P : Int) := by omega
    rw [ei]
    have hwl2 : (ws.map fun x => Value.ref x.a).length < 90 := by rw [List.length_map]; omega
    clear F1 N2 R1 N
    ((try (with_reducible refine pin_postQ ?_; intros)); k_steps)
    (refine stop_out ?_; (try (with_reducible refine pin_postQ ?_; intros)))
    k_dflt (refine LCt.Assign_ListComp_T (F₀ := by k_asm) (by rfl) (by with_unfolding_all rfl) (by with_unfolding_all rfl) (by decide) (by rfl) (by decide) (by rfl) (by rfl) (by rfl) ?_)
    ((try (with_reducible refine pin_postQ ?_; intros)); k_steps)
    (refine stop_out ?_; (try (with_reducible refine pin_postQ ?_; intros)))
    rename Fr _ _ _ _ => F5
    rename News _ _ _ _ => N5
    rename IsRange _ _ _ _ _ _ _ _ => R5
    refine LCt.CompSrcT.range rfl F5 N5 R5 (rng_s (by omega)) (rng_n (by omega)) (by rw [sizeLine_eq]; omega) fun g5 => ?_
    clear F3 N3
    refine compT_ind (fun j ys => IntsAre ys (((List.range j).filter (fun j => decide (row.getD P 0 < row.getD j 0))).map Int.ofNat)) trivial .nil ?_ ?_
    · intro j ys v I1 oI1 C oC D0 m₂ h1 tk1 E' hj hJ hv hC hx F7 N7
      obtain ⟨t7, rfl⟩ := hv
      have ej : 0 + (j : Int) = (j : Int) := by omega
      rw [ej] at hx
      clear F5 N5 R5
      ((try (with_reducible refine pin_postQ ?_; intros)); k_steps)
      · rename Fr _ _ _ _ => F8
        rename News _ _ _ _ => N8
        rename List.getD row _ _ < List.getD row _ _ => hb
        refine turn_end F8 N8 (fun p hp => hp) ?_
        rw [flt_t (decide_eq_true hb)]
        exact ints_snoc hJ
      · rename Fr _ _ _ _ => F8
        rename News _ _ _ _ => N8
        rename ¬ List.getD row _ _ < List.getD row _ _ => hb
        refine turn_end F8 N8 (fun p hp => hp) ?_
        rw [flt_f (decide_eq_false hb)]
        exact hJ
    · intro ys hJ D2 h2 tk2 F6 N6 o2
      have o3 := off1_of o2
      have N7 : News _ _ _ ((D2, listOf ys.toArray ys.length) :: _) := N6
      have hD2 : Wl ≠ D2 := o3 _ (.tail _ (.head _))
      clear N6 F5 N5 R5 o2
      obtain ⟨g, hg⟩ : ∃ g, g = grF row P := ⟨_, rfl⟩
      replace hJ : IntsAre ys g := by rw [hg]; exact hJ
      rcases List.eq_nil_or_concat g with hgn | ⟨gs, gl, hgc⟩
      rotate_left
      rw [List.concat_eq_append] at hgc
      rotate_left
      · have hmp := mendsP_nil (draws := draws) (hg.symm.trans hgn)
        rw [hgn] at hJ
        have := hJ.nil_inv
        subst this
        ((try (with_reducible refine pin_postQ ?_; intros)); k_steps)
        rename Fr _ _ _ _ => F10
        rename News _ _ _ _ => N10
        rename Obj.data _ = Data.cell (some (Value.int _ _)) => ho
        refine endT (⟨wv, ws, _⟩ : MS) F10 N10 (fun p hp => .tail _ (.tail _ hp)) (by simp) ?_ ⟨⟨⟨_, ho⟩, hoff1, hwi, ?_⟩, ?_⟩
        · walk_at "same"
        · dsimp only; rw [mendsT_succ, ← hP, hmp, List.append_nil]; exact hwc
        · intro p hp
          rcases List.mem_cons.mp hp with rfl | hp
          · exact hI1
          · rcases List.mem_cons.mp hp with rfl | hp
            · exact hI2
            · exact hoff p (.tail _ (.tail _ hp))
      · have hmem : gl ∈ grF row P := by rw [← hg, hgc]; exact List.mem_append_right _ (.head _)
        obtain ⟨q, hq, rfl⟩ := List.mem_map.mp hmem
        have hqP : q < P := List.mem_range.mp (List.mem_filter.mp hq).1
        have hmp := mendsP_snoc (draws := draws) (hg.symm.trans hgc)
        rw [hgc] at hJ
        replace hJ : IntsAre ys (gs ++ [(q : Int)]) := hJ
        obtain ⟨ys0, tq, rfl, hJ0⟩ := ints_snoc_inv hJ
        have hyl : (ys0 ++ [Value.int (q : Int) tq]).length ≤ 6 := by
          rw [hJ.length, show gs ++ [(q : Int)] = grF row P from hgc.symm.trans hg, grF, List.length_map]
          have := List.length_filter_le (fun j => decide (row.getD P 0 < row.getD j 0)) (List.range P)
          rw [List.length_range] at this
          omega
        ((try (with_reducible refine pin_postQ ?_; intros)); k_steps)
        · rename decide (_ = _) = true => hd
          exact absurd (of_decide_eq_true hd) (by simp)
        · (refine stop_out ?_; (try (with_reducible refine pin_postQ ?_; intros)))
          k_dflt (refine LCt.ListComp_T (F₀ := by k_asm) (by with_unfolding_all rfl) (by decide) (by rfl) (by decide) (by rfl) ?_)
          ((try (with_reducible refine pin_postQ ?_; intros)); k_steps)
          (refine stop_out ?_; (try (with_reducible refine pin_postQ ?_; intros)))
          rename Fr _ _ _ _ => F9
          rename News _ _ _ _ => N9
          rename IsRange _ _ _ _ _ _ _ _ => R9
          refine LCt.CompSrcT.range rfl F9 N9 R9 (rng2_s (by omega) (by omega)) (rng2_n (by omega) (by omega)) (by rw [sizeLine_eq]; omega) fun g9 => ?_
          refine compT_ind (fun j ys => IntsAre ys (((List.range j).filter (fun t => bit (draws.getD P 0) (q + t))).map (fun t => ((q + t : Nat) : Int)))) trivial .nil ?_ ?_
          · intro j ys v I1 oI1 C oC D0 m₂ h1 tk1 E' hj hJ4 hv hC hx F11 N11
            obtain ⟨t7, rfl⟩ := hv
            have ej : (q : Int) + (j : Int) = ((q + j : Nat) : Int) := by omega
            rw [ej] at hx
            clear F9 N9 R9
            ((try (with_reducible refine pin_postQ ?_; intros)); k_steps)
            · rename Fr _ _ _ _ => F8
              rename News _ _ _ _ => N8
              rename Builtin.bitAnd _ _ ≠ 0 => hb
              refine turn_end F8 N8 (fun p hp => hp) ?_
              rw [fltq_t (p := bit (draws.getD P 0)) (by unfold bit; exact decide_eq_true hb)]
              exact ints_snoc hJ4
            · rename Fr _ _ _ _ => F8
              rename News _ _ _ _ => N8
              rename Builtin.bitAnd _ _ = 0 => hb
              refine turn_end F8 N8 (fun p hp => hp) ?_
              rw [fltq_f (p := bit (draws.getD P 0)) (by unfold bit; exact decide_eq_false (fun q => q hb))]
              exact hJ4
          · intro ys4 hJ4 D4 h4 tk4 F11 N11 o4
            have o5 := off1_of o4
            have N12 : News _ _ _ ((D4, listOf ys4.toArray ys4.length) :: _) := N11
            have hD4 : Wl ≠ D4 := o5 (Wl, listOf (ws.map fun x => Value.ref x.a).toArray wv) (by simp only [List.mem_cons]; simp)
            clear N11 F9 N9 R9 o4
            ((try (with_reducible refine pin_postQ ?_; intros)); k_steps)
            · rename Fr _ _ _ _ => F10
              rename News _ _ _ _ => N10
              rename decide (List.map _ _ = []) = true => hd
              rename Obj.data _ = Data.cell (some (Value.int _ _)) => ho
              have hfl := List.map_eq_nil_iff.mp (of_decide_eq_true hd)
              rw [if_pos hfl] at hmp
              obtain ⟨M, mv0, N13, hA, eM⟩ : ∃ (M : Nat) (mv0 : List Value), News _ _ _ ((I, oI) :: (Wl, listOf ((ws.map fun x => Value.ref x.a) ++ [Value.ref M]).toArray (wv + 1)) :: (L' + 1 + 1 + 1, _) :: (L' + 1 + 1, od) :: (L' + 1, or) :: (wled ws ++ [(M, listOf mv0.toArray 0)] ++ rest)) ∧ IntsAre mv0 [(P : Int), (q : Int) + ((draws.getD P 0).fdiv (2 ^ P)).fmod ((P : Int) - q)] ∧ M = _ :=
                ⟨_, _, mends_reord N10, .cons _ _ (.cons _ _ .nil), rfl⟩
              subst eM
              refine endT (⟨wv + 1, ws ++ [⟨M, mv0, [(P : Int), (q : Int) + ((draws.getD P 0).fdiv (2 ^ P)).fmod ((P : Int) - q)], 0⟩], _⟩ : MS) F10 N13 ?_ (by simp) ?_ ⟨⟨⟨_, ho⟩, ?_, ?_, ?_⟩, ?_⟩
              · dsimp only
                rw [List.map_append, wled_append]
                exact fun p hp => hp
              · walk_at "same"
              · intro p hp
                dsimp only at hp
                rw [wled_append, List.mem_append, List.mem_append] at hp
                rcases hp with (hp | hp) | hp
                · exact hoff1 p (List.mem_append_left _ hp)
                · rw [List.mem_singleton.mp hp]; exact ⟨by dsimp only; exact Nat.ne_of_gt (by omega), by dsimp only; exact Nat.ne_of_gt (by omega)⟩
                · exact hoff1 p (List.mem_append_right _ hp)
              · intro x hx
                dsimp only at hx
                rcases List.mem_append.mp hx with hx | hx
                · exact hwi x hx
                · rw [List.mem_singleton.mp hx]; exact hA
              · dsimp only; rw [mendsT_succ, ← hP, hmp, List.map_append, hwc]; rfl
              · intro p hp
                dsimp only at hp
                simp only [List.mem_cons, wled_append, List.mem_append] at hp
                have hoff2 := hoff
                simp only [List.mem_cons, List.mem_append] at hoff2
                rcases hp with rfl | rfl | rfl | rfl | (hp | hp) | hp
                · exact hI1
                · exact hI2
                · exact hoff2 _ (.inr (.inr (.inl rfl)))
                · exact hoff2 _ (.inr (.inr (.inr (.inl rfl))))
                · exact hoff2 p (.inr (.inr (.inr (.inr (.inl hp)))))
                · rw [List.mem_singleton.mp hp]; dsimp only; exact Nat.ne_of_gt (by omega)
                · exact hoff2 p (.inr (.inr (.inr (.inr (.inr hp)))))
            · rename Fr _ _ _ _ => F10
              rename News _ _ _ _ => N10
              rename decide (List.map _ _ = []) = false => hd
              rename Obj.data _ = Data.cell (some (Value.int _ _)) => ho
              have hfl : ¬ ((List.range (P - q)).filter (fun t => bit (draws.getD P 0) (q + t))) = [] := fun e => of_decide_eq_false hd (by rw [e]; rfl)
              rw [if_neg hfl] at hmp
              refine endT (⟨wv, ws, _⟩ : MS) F10 N10 (fun p hp => .tail _ (.tail _ (.tail _ (.tail _ hp)))) (by simp) ?_ ⟨⟨⟨_, ho⟩, hoff1, hwi, ?_⟩, ?_⟩
              · walk_at "same"
              · dsimp only; rw [mendsT_succ, ← hP, hmp, List.append_nil]; exact hwc
              · intro p hp
                rcases List.mem_cons.mp hp with rfl | hp
                · exact hI1
                · rcases List.mem_cons.mp hp with rfl | hp
                  · exact hI2
                  · exact hoff p (.tail _ (.tail _ hp))
  · rintro ⟨wv, ws, op⟩ u h tk ⟨⟨v₀, hop⟩, hoff1, hwi, hwc⟩ F3 N3
    dsimp only at *
    clear F1 N2 R1
    ((try (with_reducible refine pin_postQ ?_; intros)); k_steps)
    rename Fr _ _ _ _ => F5
    rename News _ _ _ _ => N5
    exact hret Wl wv ws _ _ F5 (news_14 N5) hwi hwc
end Priv

theorem anew_M_pure : True := by w_top off; first | (walk1; done) | trivial
/-! laid's step on the greedy order -/
theorem Gr.more {E : List (Int × Int)} {R : List Int} {x : Int} (hE : ∀ e ∈ E, e.1 ∈ R → e.2 ≠ x) : ∀ {d t : List Int}, Gr E R d t → ∀ {d' : List Int}, (∀ y, y ∈ d' ↔ y ∈ d ∨ y = x) → x ∉ R → Gr E (R ++ [x]) d' t := by
  intro d t h
  induction h with
  | @nil d hno =>
    intro d' hd hx
    refine .nil fun y hy hyd hc => ?_
    rw [hd, not_or] at hyd
    have hyR : y ∈ R := by
      rcases List.mem_append.mp hy with hy | hy
      · exact hy
      · exact absurd (List.mem_singleton.mp hy) hyd.2
    refine hno y hyR hyd.1 fun e he hx1 => ?_
    rcases (hd _).mp (hc e he hx1) with h | h
    · exact h
    · exact absurd h (hE e he (hx1 ▸ hyR))
  | @cons d z t h1 h2 h3 h4 h5 ih =>
    intro d' hd hx
    have hzx : z ≠ x := fun e => hx (e ▸ h1)
    refine .cons (List.mem_append_left _ h1) (by rw [hd, not_or]; exact ⟨h2, hzx⟩) (fun e he hz => (hd _).mpr (.inl (h3 e he hz))) ?_ (ih (fun y => by simp only [List.mem_append, List.mem_singleton, hd]; grind) hx)
    intro y hy hyd hc
    rw [hd, not_or] at hyd
    have hyR : y ∈ R := by
      rcases List.mem_append.mp hy with hy | hy
      · exact hy
      · exact absurd (List.mem_singleton.mp hy) hyd.2
    refine h4 y hyR hyd.1 fun e he hx1 => ?_
    rcases (hd _).mp (hc e he hx1) with h | h
    · exact h
    · exact absurd h (hE e he (hx1 ▸ hyR))
theorem Gr.ins {E : List (Int × Int)} {R : List Int} {x : Int} (hE : ∀ e ∈ E, e.1 ∈ R → e.2 ≠ x) (hx : x ∉ R) : ∀ {t1 t2 d : List Int}, Gr E R d (t1 ++ t2) → x ∉ d →
    (∀ u y v, t1 = u ++ y :: v → ¬ cnd E (d ++ u) x ∨ y ≤ x) → cnd E (d ++ t1) x → (∀ y v, t2 = y :: v → x ≤ y) → Gr E (R ++ [x]) d (t1 ++ x :: t2) := by
  intro t1
  induction t1 with
  | nil =>
    intro t2 d h hd _ h2 h3
    rw [List.append_nil] at h2
    refine .cons (List.mem_append_right _ (.head _)) hd h2 ?_ (Gr.more hE h (fun y => by simp) hx)
    intro y hy hyd hc
    rcases List.mem_append.mp hy with hy | hy
    · cases h with
      | nil hno => exact absurd hc (hno y hy hyd)
      | cons g1 g2 g3 g4 g5 => exact Int.le_trans (h3 _ _ rfl) (g4 y hy hyd hc)
    · rw [List.mem_singleton.mp hy]; exact Int.le_refl _
  | cons a t1 ih =>
    intro t2 d h hd h1 h2 h3
    rw [List.cons_append] at h
    cases h with
    | cons g1 g2 g3 g4 g5 =>
      have hax : a ≠ x := fun e => hx (e ▸ g1)
      refine .cons (List.mem_append_left _ g1) g2 g3 ?_ (ih g5 ?_ ?_ ?_ h3)
      · intro y hy hyd hc
        rcases List.mem_append.mp hy with hy | hy
        · exact g4 y hy hyd hc
        · rw [List.mem_singleton.mp hy] at hc ⊢
          rcases h1 [] a t1 rfl with hn | hn
          · rw [List.append_nil] at hn; exact absurd hc hn
          · exact hn
      · simp [hd, Ne.symm hax]
      · intro u y v e
        have := h1 (a :: u) y v (by rw [e]; rfl)
        simpa using this
      · simpa using h2
theorem Gr.uniq {E : List (Int × Int)} {R : List Int} : ∀ {t t' d : List Int}, Gr E R d t → Gr E R d t' → t = t' := by
  intro t
  induction t with
  | nil =>
    intro t' d h h'
    cases h with
    | nil hno => cases h' with
      | nil _ => rfl
      | cons g1 g2 g3 _ _ => exact absurd g3 (hno _ g1 g2)
  | cons a t ih =>
    intro t' d h h'
    cases h with
    | cons g1 g2 g3 g4 g5 => cases h' with
      | nil hno => exact absurd g3 (hno _ g1 g2)
      | cons k1 k2 k3 k4 k5 =>
        have e1 := g4 _ k1 k2 k3
        have e2 := k4 _ g1 g2 g3
        have e := Int.le_antisymm e1 e2
        subst e
        rw [ih g5 k5]
theorem min_ex {p : Int → Prop} : ∀ {R : List Int}, (∃ x ∈ R, p x) → ∃ x ∈ R, p x ∧ ∀ y ∈ R, p y → x ≤ y := by
  intro R
  induction R with
  | nil => rintro ⟨x, hx, _⟩; cases hx
  | cons a R ih =>
    intro h
    by_cases hR : ∃ x ∈ R, p x
    · obtain ⟨x, hx, hp, hm⟩ := ih hR
      by_cases ha : p a ∧ a ≤ x
      · refine ⟨a, .head _, ha.1, fun y hy hpy => ?_⟩
        rcases List.mem_cons.mp hy with rfl | hy
        · exact Int.le_refl _
        · exact Int.le_trans ha.2 (hm y hy hpy)
      · refine ⟨x, .tail _ hx, hp, fun y hy hpy => ?_⟩
        rcases List.mem_cons.mp hy with rfl | hy
        · by_cases hle : y ≤ x
          · exact absurd ⟨hpy, hle⟩ ha
          · omega
        · exact hm y hy hpy
    · obtain ⟨x, hx, hp⟩ := h
      rcases List.mem_cons.mp hx with rfl | hx
      · refine ⟨x, .head _, hp, fun y hy hpy => ?_⟩
        rcases List.mem_cons.mp hy with rfl | hy
        · exact Int.le_refl _
        · exact absurd ⟨y, hy, hpy⟩ hR
      · exact absurd ⟨x, hx, hp⟩ hR
theorem Gr.ex {E : List (Int × Int)} {R : List Int} : ∀ {n : Nat} {d : List Int}, d.Nodup → (∀ y ∈ d, y ∈ R) → R.length ≤ d.length + n → ∃ t, Gr E R d t := by
  intro n
  induction n with
  | zero =>
    intro d h1 h2 h3
    refine ⟨[], .nil fun x hx hxd _ => ?_⟩
    have := nodup_len (l := x :: d) (r := R) (List.nodup_cons.mpr ⟨hxd, h1⟩) (fun y hy => by
      rcases List.mem_cons.mp hy with rfl | hy
      · exact hx
      · exact h2 y hy)
    simp only [List.length_cons] at this
    omega
  | succ n ih =>
    intro d h1 h2 h3
    by_cases h : ∃ x ∈ R, x ∉ d ∧ cnd E d x
    · obtain ⟨x, hx, ⟨hp1, hp2⟩, hm⟩ := min_ex h
      obtain ⟨t, ht⟩ := ih (d := d ++ [x]) (List.nodup_append.mpr ⟨h1, by simp, by rintro a ha b hb rfl; rw [List.mem_singleton.mp hb] at ha; exact hp1 ha⟩) (fun y hy => by
        rcases List.mem_append.mp hy with hy | hy
        · exact h2 y hy
        · rw [List.mem_singleton.mp hy]; exact hx) (by simp; omega)
      exact ⟨x :: t, .cons hx hp1 hp2 (fun y hy hyd hc => hm y hy ⟨hyd, hc⟩) ht⟩
    · exact ⟨[], .nil fun x hx hxd hc => h ⟨x, hx, hxd, hc⟩⟩
theorem Gr.some {E : List (Int × Int)} {R : List Int} : ∃ t, Gr E R [] t := Gr.ex (n := R.length) (by simp) (by simp) (by simp)
theorem idxOf_ne {a x : Int} {l : List Int} (e : ¬ a = x) : (a :: l).idxOf x = l.idxOf x + 1 := by
  have h : (a == x) = false := by rw [beq_eq_false_iff_ne]; exact e
  rw [List.idxOf_cons, h]; rfl
theorem idx_of_take {x : Int} : ∀ {l : List Int} {n : Nat}, x ∈ l.take n → l.idxOf x < n := by
  intro l
  induction l with
  | nil => intro n h; simp at h
  | cons a l ih =>
    intro n h
    cases n with
    | zero => simp at h
    | succ n =>
      rw [List.take_succ_cons] at h
      by_cases e : a = x
      · subst e; simp
      · rcases List.mem_cons.mp h with h | h
        · exact absurd h.symm e
        · rw [idxOf_ne e]; have := ih h; omega
theorem take_of_idx {x : Int} : ∀ {l : List Int} {n : Nat}, x ∈ l → l.idxOf x < n → x ∈ l.take n := by
  intro l
  induction l with
  | nil => intro n h; simp at h
  | cons a l ih =>
    intro n h h2
    cases n with
    | zero => omega
    | succ n =>
      rw [List.take_succ_cons]
      by_cases e : a = x
      · subst e; exact .head _
      · rcases List.mem_cons.mp h with h | h
        · exact absurd h.symm e
        · rw [idxOf_ne e] at h2; exact .tail _ (ih h (by omega))
theorem laid_k0 {row o c : List Int} {i k0 : Nat} (hpo : o.Perm (row.take i)) (hi : i < row.length) (hc : ∀ j ∈ c, 0 ≤ j ∧ j < (i : Int)) (hM1 : (k0 : Int) ∈ [0] ++ c.map fun t => (o.idxOf (row.getD t.toNat 0) : Int) + 1) : k0 ≤ i := by
  rcases List.mem_append.mp hM1 with h | h
  · have := List.mem_singleton.mp h; omega
  · obtain ⟨t, ht, e⟩ := List.mem_map.mp h
    have h1 := hc t ht
    have hm : row.getD t.toNat 0 ∈ o := by
      refine hpo.mem_iff.mpr ?_
      have e : (row.take i).getD t.toNat 0 = row.getD t.toNat 0 := by
        rw [List.getD_eq_getElem?_getD, List.getD_eq_getElem?_getD, List.getElem?_take_of_lt (by omega)]
      rw [← e]; exact getD_mem (by rw [List.length_take]; omega)
    have h2 := List.idxOf_lt_length_iff.mpr hm
    have h3 := hpo.length_eq
    rw [List.length_take] at h3
    omega
theorem laid_step {row o : List Int} {cs : List (List Int)} {i k k0 : Nat} (hl : row.length = 6) (hn : row.Nodup) (hc : COk cs) (hi : i < 6) (hg : Gr (edgs row cs) (row.take i) [] o) (hpo : o.Perm (row.take i))
    (hM1 : (k0 : Int) ∈ [0] ++ (cs.getD i []).map fun t => (o.idxOf (row.getD t.toNat 0) : Int) + 1) (hM2 : ∀ a ∈ [0] ++ (cs.getD i []).map (fun t => (o.idxOf (row.getD t.toNat 0) : Int) + 1), a ≤ (k0 : Int))
    (hk1 : k0 ≤ k) (hk2 : k ≤ i) (hk3 : ∀ t, k0 ≤ t → t < k → o.getD t 0 < row.getD i 0) (hk4 : k < i → ¬ o.getD k 0 < row.getD i 0) :
    Gr (edgs row cs) (row.take (i + 1)) [] (o.take k ++ row.getD i 0 :: o.drop k) ∧ (o.take k ++ row.getD i 0 :: o.drop k).Perm (row.take (i + 1)) := by
  have hxi : row.idxOf (row.getD i 0) = i := idxOf_getD hn (by omega)
  have hxR : row.getD i 0 ∉ row.take i := fun h => by have := idx_of_take h; omega
  have hol : o.length = i := by rw [hpo.length_eq, List.length_take]; omega
  have hrow : row.take (i + 1) = row.take i ++ [row.getD i 0] := by
    refine take_snoc ?_
    rw [List.getD_eq_getElem?_getD, List.getElem?_eq_getElem (by omega)]; rfl
  have hE := edgs_ok hl hn hc
  have hm : ∀ t ∈ cs.getD i [], row.getD t.toNat 0 ∈ o := by
    intro t ht
    have h1 := hc i t ht
    refine hpo.mem_iff.mpr (take_of_idx (getD_mem (by omega)) ?_)
    rw [idxOf_getD hn (by omega)]; omega
  rw [hrow]
  refine ⟨Gr.ins (t1 := o.take k) (t2 := o.drop k) ?_ hxR (by rw [List.take_append_drop]; exact hg) (by simp) ?_ ?_ ?_, ?_⟩
  · intro e he h1 h2
    have a := (hE e he).2.2
    have b := idx_of_take h1
    rw [h2, hxi] at a
    omega
  · intro u y v e
    have hul : u.length < k := by
      have := congrArg List.length e
      rw [List.length_take, List.length_append, List.length_cons] at this
      omega
    have hu : u = o.take u.length := by
      have := congrArg (List.take u.length) e
      rw [List.take_take, List.take_left, Nat.min_eq_left (by omega)] at this
      exact this.symm
    have hy : o.getD u.length 0 = y := by
      have : (o.take k)[u.length]? = some y := by rw [e]; simp
      rw [List.getElem?_take_of_lt hul] at this
      rw [List.getD_eq_getElem?_getD, this]; rfl
    by_cases hlt : u.length < k0
    · left
      intro hcn
      rcases List.mem_append.mp hM1 with h | h
      · have := List.mem_singleton.mp h; omega
      · obtain ⟨t, ht, et⟩ := List.mem_map.mp h
        have := hcn (row.getD i 0, row.getD t.toNat 0) (mem_edgs.mpr ⟨i, hi, t, ht, rfl, rfl⟩) rfl
        rw [List.nil_append, hu] at this
        have := idx_of_take this
        dsimp only at this
        omega
    · right
      rw [← hy]
      exact Int.le_of_lt (hk3 _ (by omega) hul)
  · rintro ⟨x, y⟩ he hx
    rw [List.nil_append]
    obtain ⟨p, hp, j, hj, ex, ey⟩ := mem_edgs.mp he
    dsimp only at hx ⊢
    have hpi : p = i := by
      have := congrArg row.idxOf (ex.symm.trans hx)
      rw [idxOf_getD hn (by omega), hxi] at this
      exact this
    subst hpi
    subst ey
    have := hM2 _ (List.mem_append_right _ (List.mem_map.mpr ⟨j, hj, rfl⟩))
    exact take_of_idx (hm j hj) (by omega)
  · intro y v e
    have hkl : k < o.length := by
      have := congrArg List.length e
      rw [List.length_drop, List.length_cons] at this
      omega
    have hy : o.getD k 0 = y := by
      have : (o.drop k)[0]? = some y := by rw [e]; rfl
      rw [List.getElem?_drop] at this
      rw [List.getD_eq_getElem?_getD]
      simp only [Nat.add_zero] at this
      rw [this]; rfl
    have := hk4 (by omega)
    omega
  · refine List.Perm.trans (List.perm_middle (l₁ := o.take k) (l₂ := o.drop k) (a := row.getD i 0)) ?_
    rw [List.take_append_drop]
    exact (List.Perm.cons _ hpo).trans (List.perm_append_singleton _ _).symm

theorem anew_M_laid : True := by w_top off; first | (walk1; done) | trivial
theorem laid_reord {h₀ h : Heap} {L : Addr} {a b c d e i p q o : Addr × Obj} {r : List (Addr × Obj)} (N : News h₀ L h (a :: b :: c :: d :: e :: i :: p :: q :: o :: r)) : News h₀ L h (i :: p :: q :: a :: r) :=
  news_sub N (by intro x hx; simp only [List.mem_cons] at hx ⊢; rcases hx with h | h | h | h | h <;> simp [h])
theorem laid_fin {h₀ h : Heap} {L : Addr} {p q o : Addr × Obj} {r : List (Addr × Obj)} (N : News h₀ L h (p :: q :: o :: r)) : News h₀ L h (o :: r) :=
  news_sub N (by intro x hx; simp only [List.mem_cons] at hx ⊢; rcases hx with h | h <;> simp [h])
structure LS where
  O : Nat
  ov : List Value
  o : List Int
  on : Nat
  oo : Obj
section
variable {prog : Program} {w : World} {A : Around} {E : Value → Shared → Prop} {s : Shared} {h₀ : Heap} {L l : Addr} {m : Str → Option Value} {news : List (Addr × Obj)} {vs : List Value} {ns : List Int} {n : Nat} {k : Int} {u : Tok} {value slice : PySem.Expr} {Q : Value → Shared → Prop}
theorem slice_to_m (F : Fr h₀ L s.heap m) (N : News h₀ L s.heap news) (hm : (l, listOf vs.toArray n) ∈ news) (hi : IntsAre vs ns) (h0 : 0 ≤ k) (hz : ns.length < 1000)
    (h : ∀ D ws h', Fr h₀ L h' m → News h₀ L h' ((D, listOf (List.toArray ws) 0) :: news) → (∀ p ∈ news, p.1 < D) → IntsAre ws (ns.take k.toNat) → Q (.ref D) { s with heap := h' })
    (hs : subscripted slice false (.ref l) (.ref s.heap.objs.size) = operate [.ref s.heap.objs.size, .ref l] (getItem (.ref l) (.ref s.heap.objs.size))) (ht : ∀ r, letTemporaryGo value (.ref l) r = pure ()) :
    wpAny (model prog w) A (subscriptTail value slice (.ref l) (.ref s.heap.objs.size)) Q E { s with heap := s.heap.push { cls := .type "slice", data := .fields #[.none, .int k u, .none] } } :=
  kmk_slice_ints F N (N.isList hm) .none (.int _ _) hi (kmk_upto hi h0) rfl (fun D ws h' F' N' l1 hI _ _ => h D ws h' F' N' l1 hI) hs ht (by rw [List.size_toArray, hi.length, sizeLine_eq]; omega)
theorem slice_from_m (F : Fr h₀ L s.heap m) (N : News h₀ L s.heap news) (hm : (l, listOf vs.toArray n) ∈ news) (hi : IntsAre vs ns) (h0 : 0 ≤ k) (hz : ns.length < 1000)
    (h : ∀ D ws h', Fr h₀ L h' m → News h₀ L h' ((D, listOf (List.toArray ws) 0) :: news) → (∀ p ∈ news, p.1 < D) → IntsAre ws (ns.drop k.toNat) → Q (.ref D) { s with heap := h' })
    (hs : subscripted slice false (.ref l) (.ref s.heap.objs.size) = operate [.ref s.heap.objs.size, .ref l] (getItem (.ref l) (.ref s.heap.objs.size))) (ht : ∀ r, letTemporaryGo value (.ref l) r = pure ()) :
    wpAny (model prog w) A (subscriptTail value slice (.ref l) (.ref s.heap.objs.size)) Q E { s with heap := s.heap.push { cls := .type "slice", data := .fields #[.int k u, .none, .none] } } :=
  kmk_slice_ints F N (N.isList hm) (.int _ _) .none hi (kmk_from hi h0) rfl (fun D ws h' F' N' l1 hI _ _ => h D ws h' F' N' l1 hI) hs ht (by rw [List.size_toArray, hi.length, sizeLine_eq]; omega)
end
section Priv
local macro_rules | `(tactic| walk_at "binaryOp Add ref ref") => `(tactic| (k_here; (with_reducible show wpAny _ _ (binaryOp _ (Value.ref _) (Value.ref _)) _ _ _); k_dflt (refine' add_n (by k_asm) (by k_asm) (by k_mem) (by k_mem) (by first | with_reducible assumption | exact .cons _ _ .nil) (by first | with_reducible assumption | exact .cons _ _ .nil) (by ((simp only [List.length_cons, List.length_nil, List.length_append, List.length_take, List.length_drop, List.length_map]); omega)) ?_); walk_at "i:add2"))
local macro_rules | `(tactic| walk_at "subscriptTail Name Slice ref ref") => `(tactic| (k_here; (with_reducible show wpAny _ _ (subscriptTail _ (PySem.Expr.Slice none (some _) none _) (Value.ref _) (Value.ref _)) _ _ _); (try dsimp only); k_dflt (refine' slice_to_m (s := ⟨_, _, _, _, _⟩) (by k_asm) (by k_asm) (by k_mem) (by with_reducible assumption) (by omega) (by omega) ?_ (by with_unfolding_all rfl) (by kmk_pure)); walk_at "i:add2"))
local macro_rules | `(tactic| walk_at "subscriptTail Name Slice ref ref") => `(tactic| (k_here; (with_reducible show wpAny _ _ (subscriptTail _ (PySem.Expr.Slice (some _) none none _) (Value.ref _) (Value.ref _)) _ _ _); (try dsimp only); k_dflt (refine' slice_from_m (s := ⟨_, _, _, _, _⟩) (by k_asm) (by k_asm) (by k_mem) (by with_reducible assumption) (by omega) (by omega) ?_ (by with_unfolding_all rfl) (by kmk_pure)); walk_at "i:add2"))
set_option maxRecDepth 100000 in
set_option maxHeartbeats 4000000 in
theorem laid_c : ∀ {w : World} {p : Program} {loose : List Str} {mean : ExcName → Option Value} {mg mb : Str → Option Value} {dp un : Nat} {gd : Option (List Code)} {cn : Str} {cs : Scope} {a : Addr} {ccd : Value} {cl : List (Str × Addr)} {outer : List Env} {A₀ : Around} {base h₀ : Heap} {L : Addr} {m : Str → Option Value} {s : Shared} {Q E : Value → Shared → Prop} {Rw rn Wl wn : Nat} {rv : List Value} {row o : List Int} {ws : List WL} {rest : List (Addr × Obj)},
    Below A₀ base outer h₀ → Fr h₀ L s.heap m → (Mine.hd.heap_1 w.params).In h₀ → Top p loose mean mg mb h₀ → cs.kind = .function → dp < 840 → un < 8400 → News h₀ L s.heap rest → (Rw, listOf rv.toArray rn) ∈ rest → IntsAre rv row → row.length = 6 → row.Nodup → Gr (edgs row (ws.map (·.c))) row [] o → LL rest Wl wn ws → ws.length = 6 → (∀ x ∈ ws, x.c.length ≤ 6) → (∀ (p : Nat) x, ws[p]? = some x → ∀ j ∈ x.c, 0 ≤ j ∧ j < (p : Int)) →
    (∀ O ov on h' tk', Fr h₀ L h' m → News h₀ L h' ((O, listOf ov.toArray on) :: rest) → IntsAre ov o → Q (.ref O) { s with heap := h', toks := tk' }) →
    wpAny (model PySem.Challenge.rw_mg0054_01.row.prog w) (ktrTop dp un gd cn cs L a ccd cl outer) (call (.ref 212) [.ref Rw, .ref Wl]) Q E s := by
  k_fill
  intro w p loose mean mg mb dp un gd cn cs a ccd cl outer A₀ base h₀ L m s Q E Rw rn Wl wn rv row oF ws rest B F X T hk hdp hun N hrm hri hrl hrn hgF hw hwl hwc hwj hret
  have hcok := cok_of hwj
  refine wpAny_call ?_
  k_dflt (refine' code_defC ?k1 ?k2 ?k3 ?k4 ?k5 ?kA ?kF ?kK ?k6 ?k7 ?k8 ?k9 ?kB ?kD ?_ ?c2 ?c3 ?c4; (case kA => exact rfl); (case kF => exact rfl); (case kK => assumption); (case k1 => k_asm); (case k2 => k_asm); (case k3 => k_asm); (case k4 => k_asm); (case k5 => k_asm); (case k6 => k_is); (case k7 => k_is); (case k8 => ktr_room); (case k9 => exact BindsTo.of_eq rfl); (case kB => exact rfl); (case kD => decide +kernel); (case c2 => exact rfl); (case c3 => exact rfl); (case c4 => exact rfl); k_whole; intro g' L' h' tk' cells' FG' F' N' Y' B' X' T' l1; (try k_lt l1); k_cells Y'; (try simp only [List.cons_append, List.nil_append] at N'); (try dsimp only); (try k_fold))
  ((try (with_reducible refine pin_postA ?_; intros)); k_steps)
  (refine stop_out ?_; (try (with_reducible refine pin_postQ ?_; intros)))
  rename Fr _ _ _ _ => F1
  rename News _ _ _ _ => N1
  rename IsRange _ _ _ _ _ _ _ _ => R1
  obtain ⟨O, oo, or, N2, hoo, hor, eO⟩ : ∃ (O : Nat) (oo or : Obj), News _ _ _ ((L' + 1 + 1, oo) :: (L' + 1, or) :: (O, listOf ([] : List Value).toArray 0) :: rest) ∧ oo.data = .cell (some (.ref O)) ∧ or.data = .cell (some (.ref Rw)) ∧ O = _ :=
    ⟨_, _, _, news_abc N1, by assumption, by assumption, rfl⟩
  subst eO
  clear N1
  have hb0 : bd rest ≤ L' := by omega
  have hn1 : O ≠ L' + 1 + 1 := by omega
  have hn2 : L' + 1 + 1 ≠ L' + 1 := Nat.succ_ne_self (L' + 1)
  have hf2 : ∀ p ∈ rest, p.1 ≠ L' + 1 + 1 := bd_ne (by omega)
  refine iter_rng (n := 6) (σ := LS) R1 (by decide) (by decide) rfl (fun c => (L' + 1 + 1, c.oo) :: (L' + 1, or) :: (c.O, listOf c.ov.toArray c.on) :: rest) (fun _ => []) [Str.ofString "k"]
    (fun i c => c.oo.data = .cell (some (.ref c.O)) ∧ IntsAre c.ov c.o ∧ c.o.Perm (row.take i) ∧ c.O ≠ L' + 1 + 1 ∧ Gr (edgs row (ws.map (·.c))) (row.take i) [] c.o) ⟨O, [], [], 0, oo⟩ F1 N2 (by simp) ⟨hoo, .nil, by simp, hn1, .nil (by simp)⟩ ?_ ?_
  · rintro i ti ⟨O, ov, o, on, oo⟩ u h tk I oI hi ⟨hoo, hio, hpo, hO, hgo⟩ hoff F3 N3
    dsimp only at *
    have hI2 : L' + 1 + 1 ≠ I := hoff _ (.head _)
    have ei : 0 + (i : Int) * 1 = (i : Int) := by omega
    rw [ei] at F3
    obtain ⟨W, hW⟩ : ∃ W, ws[i]? = some W := ⟨_, List.getElem?_eq_getElem (by omega)⟩
    have hWm := List.mem_of_getElem? hW
    obtain ⟨hWa, hWi⟩ := hw.e W hWm
    have hwm := hw.m
    have hwx : (ws.map fun x => Value.ref x.a)[((i : Nat) : Int).toNat]? = some (.ref W.a) := by
      rw [Int.toNat_natCast, List.getElem?_map, hW]; rfl
    have hol : o.length = i := by rw [hpo.length_eq, List.length_take]; omega
    clear F1 N2 R1 N
    ((try (with_reducible refine pin_postA ?_; intros)); k_steps)
    (refine stop_out ?_; (try (with_reducible refine pin_postQ ?_; intros)))
    k_dflt (refine LCg.ListComp_U (F₀ := by k_asm) (by with_unfolding_all rfl) (by decide) (by rfl) (by decide) (by rfl) ?_)
    ((try (with_reducible refine pin_postA ?_; intros)); k_steps)
    (refine stop_out ?_; (try (with_reducible refine pin_postQ ?_; intros)))
    rename Fr _ _ _ _ => F5
    rename News _ _ _ _ => N5
    have hwl1 := hWi.length
    have hwl2 := hwc W hWm
    refine LCg.CompSrc.ledger rfl F5 N5 (by k_mem) (by rw [sizeLine_eq, List.size_toArray]; omega) fun g5 => ?_
    refine compU_ind (fun j ys => IntsAre ys ((W.c.take j).map fun t => (o.idxOf (row.getD t.toNat 0) : Int) + 1)) (.inr ⟨_, by k_mem, rfl, _, rfl⟩) .nil ?_ ?_
    · intro j ys v I1 oI1 C oC D0 m₂ h1 tk1 E' hj hJ hv hC hx F7 N7
      obtain ⟨kj, tj, hkj, rfl⟩ := ints_at hWi (by simpa using hv)
      have hkj2 := hwj i W hW kj (List.mem_of_getElem? hkj)
      have hko : row.getD kj.toNat 0 ∈ o := by
        refine hpo.mem_iff.mpr ?_
        have e : (row.take i).getD kj.toNat 0 = row.getD kj.toNat 0 := by
          rw [List.getD_eq_getElem?_getD, List.getD_eq_getElem?_getD, List.getElem?_take_of_lt (by omega)]
        rw [← e]; exact getD_mem (by rw [List.length_take]; omega)
      clear F5 N5
      ((try (with_reducible refine pin_postA ?_; intros)); k_steps)
      rename Fr _ _ _ _ => F8
      rename News _ _ _ _ => N8
      refine turn_end F8 N8 (fun p hp => hp) ?_
      rw [take_snoc hkj, List.map_append]
      exact ints_snoc hJ
    · intro ys hJ D2 h2 tk2 F6 N6 o2
      have o3 := off1_of o2
      have N7 : News _ _ _ ((D2, listOf ys.toArray ys.length) :: _) := N6
      have hD2 : L' + 1 + 1 ≠ D2 := o3 (L' + 1 + 1, oo) (by simp only [List.mem_cons]; simp)
      clear N6 F5 N5 o2
      rw [show W.v.toArray.size = W.c.length by rw [List.size_toArray, hwl1], List.take_of_length_le (Nat.le_refl _)] at hJ
      ((try (with_reducible refine pin_postA ?_; intros)); k_steps)
      (refine stop_out ?_; (try (with_reducible refine pin_postQ ?_; intros)))
      rename _ ∈ [0] ++ _ => hM1
      rename ∀ a ∈ [0] ++ _, a ≤ _ => hM2
      rename Fr _ _ _ _ => F8
      rename News _ _ _ _ => N8
      obtain ⟨k0, hk0⟩ := Int.eq_ofNat_of_zero_le (hM2 0 (.head _))
      rw [hk0] at hM1 hM2 F8
      have hcW : (ws.map (·.c)).getD i [] = W.c := by rw [List.getD_eq_getElem?_getD, List.getElem?_map, hW]; rfl
      have hk0i : k0 ≤ i := laid_k0 hpo (by omega) (hwj i W hW) hM1
      rw [← hcW] at hM1 hM2
      have hstep := fun (k : Nat) h1 h2 h3 h4 => laid_step (k := k) hrl hrn hcok hi hgo hpo hM1 hM2 h1 h2 h3 h4
      have N8' := news_sub (q := (I, oI) :: (L' + 1 + 1, oo) :: (L' + 1, or) :: (O, listOf ov.toArray on) :: rest) N8 (fun p hp => .tail _ (.tail _ (.tail _ hp)))
      refine ksw_cut (σ := Nat × Tok) (fun _ => (I, oI) :: (L' + 1 + 1, oo) :: (L' + 1, or) :: (O, listOf ov.toArray on) :: rest) (fun c => [(Str.ofString "k", .int (c.1 : Int) c.2)]) (fun c => k0 ≤ c.1 ∧ c.1 ≤ i ∧ ∀ t, k0 ≤ t → t < c.1 → o.getD t 0 < row.getD i 0) [] (fun c => c.1 < i → ¬ o.getD c.1 0 < row.getD i 0) (fun c => 7 - c.1) (k0, _) F8 N8' ⟨Nat.le_refl _, hk0i, fun t h1 h2 => by omega⟩ (by simp; rfl) ?_ ?_
      · rintro ⟨k, tkk⟩ u1 h1 tk1 ⟨hk1, hk2, hk3⟩ F9 N9
        dsimp only at *
        clear F8 N8 N8'
        ((try (with_reducible refine pin_postA ?_; intros)); k_steps)
        · rename Fr _ _ _ _ => F10
          rename News _ _ _ _ => N10
          rename List.getD o _ _ < List.getD row _ _ => hb
          refine ksw_end (k + 1, ?tk9) F10 N10 (fun p hp => hp) ⟨by dsimp only; omega, by dsimp only; omega, ?_⟩ ?_ ?_ trivial ?_
          rotate_left
          · intro t h1 h2
            dsimp only at h2
            rcases Nat.lt_succ_iff_lt_or_eq.mp h2 with h2 | rfl
            · exact hk3 t h1 h2
            · exact hb
          · intro p hp; rw [List.mem_singleton.mp hp]; simp; rfl
          · walk_at "same"
          · dsimp only; omega
        · rename Fr _ _ _ _ => F10
          rename News _ _ _ _ => N10
          rename ¬ List.getD o _ _ < List.getD row _ _ => hb
          exact ⟨(k, tkk), _, _, _, rfl, F10, N10, ⟨hk1, hk2, hk3⟩, fun _ => hb⟩
        · rename Fr _ _ _ _ => F10
          rename News _ _ _ _ => N10
          exact ⟨(k, tkk), _, _, _, rfl, F10, N10, ⟨hk1, hk2, hk3⟩, fun q => by dsimp only at q; omega⟩
      · rintro ⟨k, tkk⟩ u1 h1 tk1 ⟨hk1, hk2, hk3⟩ hk4 F9 N9
        dsimp only at *
        obtain ⟨hg2, hp2⟩ := hstep k hk1 hk2 hk3 hk4
        clear F8 N8 N8' hM1 hM2 hstep
        ((try (with_reducible refine pin_postA ?_; intros)); k_steps)
        rename Fr _ _ _ _ => F10
        rename News _ _ _ _ => N10
        rename Obj.data _ = Data.cell (some (Value.ref _)) => ho
        refine for_end (⟨D', ws', o.take k ++ row.getD i 0 :: o.drop k, 0, _⟩ : LS) F10 (laid_reord N10) (.head _) (fun p hp => .tail _ hp) ?_ (by simp) ?_ ⟨ho, ?_, hp2, ?_, hg2⟩
        · intro p hp
          rcases List.mem_cons.mp hp with rfl | hp
          · exact hI2
          rcases List.mem_cons.mp hp with rfl | hp
          · exact hoff (L' + 1, or) (.tail _ (.head _))
          rcases List.mem_cons.mp hp with rfl | hp
          · exact Nat.ne_of_gt (by dsimp only; omega)
          · exact hoff p (.tail _ (.tail _ (.tail _ hp)))
        · intro z h1 h2 h3
          have h4 := h3
          simp only [List.contains_cons, List.contains_nil, Bool.or_false, beq_eq_false_iff_ne, ne_eq] at h4
          simp only [kstB, h1, h3, h4, List.contains_nil, Bool.false_eq_true, if_false]
        · have hA2 := hA'
          simp only [Int.toNat_natCast, List.append_assoc, List.cons_append, List.nil_append] at hA2
          exact hA2
        · exact Nat.ne_of_gt (by dsimp only; omega)
  · rintro ⟨O, ov, o, on, oo⟩ u h tk ⟨hoo, hio, hpo, hO, hgo⟩ F3 N3
    dsimp only at *
    clear F1 N2 R1
    ((try (with_reducible refine pin_postA ?_; intros)); k_steps)
    rename Fr _ _ _ _ => F5
    rename News _ _ _ _ => N5
    have e6 : row.take 6 = row := List.take_of_length_le (by omega)
    rw [e6] at hgo
    rw [Gr.uniq hgF hgo] at hret
    exact hret _ _ _ _ _ F5 (laid_fin N5) hio
end Priv

theorem anew_O_turn : True := by w_top off; first | (walk1; done) | trivial
/-! a def with cells whose callees turn the base -/
section
variable {prog : Program} {w : World} {A₀ A : Around} {s : Shared} {base h₀ : Heap} {outer : List Env} {L : Addr} {m : Str → Option Value} {env : Env} {news : List (Addr × Obj)} {K : Frag} {p : Program} {loose : List Str} {mean : ExcName → Option Value} {mg mb : Str → Option Value}
    {R : Result → Shared → Prop} {name qual : Str} {params : Arguments} {body : List Stmt} {scope : Scope} {dV kV doc pm cdv ct oc : Value} {an od : Option Addr} {osl : Array (Option Value)} {f : Addr} {args : Args} {binds : List (Str × Value)}
theorem leaveT_ret {g : Heap} (B : Below A₀ base outer h₀) (F : Fr h₀ L s.heap m) (XB : K.In base) (TB : Top p loose mean mg mb base) (hf : env.frame = some L) (FG : Fr h₀ L g m) (st : h₀.StaysIn g) {v : Value} {s' : Shared}
    (hl : LeaveT ((env :: outer).filterMap (·.frame)) A₀ base outer K p loose mean mg mb h₀ L m g R v s') : R (.ok (.ret v)) s' := by
  have nL₀ : h₀.get? L = none := kts_self F
  obtain ⟨oL, es, ep, hLg, hLd, hLk, hLf⟩ := FG.ns
  obtain ⟨g', L', m', news', T', F', N', k⟩ := hl
  obtain ⟨sl, hs⟩ := T'.up hLg
  obtain ⟨T₁, S₁⟩ := kts_turn_at (h := s'.heap) (fs := outer.filterMap (·.frame)) (g := h₀)
    (fun b hb => by
      obtain ⟨_, o, ho', _⟩ := B.frames.mem hb
      exact ⟨o, ho'⟩)
    (fun b o e nmem => F'.keep b o (T'.other b o (st b o e) (fun q => by
      rcases turn_mem hf q with z | z
      · rw [z, nL₀] at e
        cases e
      · exact nmem z)))
    (fun b o e hm => by
      obtain ⟨sl', hs'⟩ := T'.up (st b o e)
      exact ⟨sl', F'.keep _ _ hs'⟩)
  have B₃ : Below A₀ base outer (ktsHeap s'.heap (outer.filterMap (·.frame)) h₀) := ⟨B.stack, fun b o e => T₁.other b o (B.stays b o e) (fun hm => by
    rw [(B.frames.mem hm).1] at e
    cases e), B.frames.of_keeps fun b o e _ => by
    obtain ⟨sl', hs'⟩ := T₁.up e
    exact ⟨_, hs', rfl⟩⟩
  refine k _ T₁ ⟨⟨_, es, ep, F'.keep _ _ hs, hLd, hLk, hLf⟩, S₁, by rw [T₁.size]; exact F.above⟩ (fun p hp => ⟨(N' p hp).1, fun q => ?_, ?_⟩) B₃ (XB.keeps B₃.stays) (TB.keeps B₃.stays)
  · have := (N' p hp).2.2; rw [q, hs] at this; cases this
  · refine T₁.none_ _ ?_
    cases q : h₀.get? p.1 with
    | none => rfl
    | some o =>
      obtain ⟨sl', hs'⟩ := T'.up (st _ _ q)
      have := (N' p hp).2.2
      rw [hs'] at this
      cases this
theorem code_defTC (B : Below A₀ base outer h₀) (F : Fr h₀ L s.heap m) (X₀ : K.In h₀) (N : News h₀ L s.heap news) (T : Top p loose mean mg mb h₀) (XB : K.In base) (TB : Top p loose mean mg mb base)
    (hA : A.frames = some (env :: outer)) (hf : env.frame = some L) (hke : env.scope.kind = .function)
    (ho : K.lookup f = some ⟨oc, od, .func (fnOf name qual params body scope dV kV doc pm an cdv ct), osl⟩) (hcd : codeIn K cdv qual = true) (hroom : A.depth < recursionLimit)
    (hbind : BindsTo s (fnOf name qual params body scope dV kV doc pm an cdv ct) args binds) (hkind : (binds.all fun y => scope.names.lookup y.1 == some .local || scope.names.lookup y.1 == some .cell) = true)
    (hnd : ((cellsFrom 0 scope.names []).map (·.1)).Nodup)
    (h : ∀ g L' h₁ tk cells, Fr h₀ L g m → Fr g L' h₁ (bindL (envOfC qual scope L' f cdv).kindOf binds fun _ => none) → News g L' h₁ (cells ++ news) →
      CellsAre (bindC (envOfC qual scope L' f cdv).kindOf binds fun _ => none) (cellsFrom (L' + 1) scope.names []) cells → Below A base (env :: outer) g → K.In g → Top p loose mean mg mb g → (∀ p ∈ news, p.1 < L') →
      wpAny (model prog w) (A.deeper (envOfC qual scope L' f cdv)) (execs body (envOfC qual scope L' f cdv))
        (fun fl s' => LeaveT ((env :: outer).filterMap (·.frame)) A₀ base outer K p loose mean mg mb h₀ L m g R (match fl with | .ret v => v | _ => .none) s')
        (fun e s' => wpAny (model prog w) (A.deeper (envOfC qual scope L' f cdv)) (leaving (envOfC qual scope L' f cdv) e) (fun _ s'' => R (.error e) s'') (fun e' s'' => R (.error e') s'') s')
        { s with heap := h₁, toks := tk })
    (hco : scope.isCoroutine = false) (hgen : scope.isGenerator = false) (hk : scope.kind = .function) : codeAny (model prog w) A (.call (.ref f) args) R s := by
  have X := X₀.keeps F.keep
  obtain ⟨FG, BG, st, -⟩ := groundX (R := R) B F N hA hf hke
  refine codeAny_call_function hroom (X _ _ ho) rfl hco hgen rfl (codeRec_of X hcd) (hbind _ _ _ _ ?_)
  refine wpAny_newFunctionEnv_cells hk (kindsX hkind _) fun env' he s' x => ?_
  subst he
  refine ⟨(T.nolimit.keeps F.keep).keeps x.toInCall.keep, codeAny_func ?_⟩
  obtain ⟨h₁, tk, rfl, _⟩ := x.done
  have hk₁ := x.toInCall.keep
  obtain ⟨cells, NC, Y⟩ := Cl.news (h₀ := s.heap) (Nat.le_refl _) fun n c hm => ⟨x.cell n c (lookup_of_mem_nodup (cellsFrom_names scope.names 0 (s.heap.objs.size + 1) [] [] rfl ▸ hnd) hm), x.above n c hm⟩
  refine wpAny_mono (h _ s.heap.objs.size h₁ tk cells FG ⟨x.toInCall.ns, fun b o e => hk₁ b o (of_hideAll _ e), Nat.le_of_eq (hideAll_size _ _)⟩ (fun p hp => ?_) Y BG (X₀.keeps st) (T.keeps st) (fun p hp => Heap.lt_size (N p hp).1)) (fun fl s' hl => leaveT_ret B F XB TB hf FG st hl) fun _ _ y => y
  rcases List.mem_append.mp hp with hp | hp
  · refine ⟨(NC p hp).1, (NC p hp).2.1, ?_⟩
    cases q : (hideAll s.heap (news.map (·.1))).get? p.1 with
    | none => rfl
    | some o => have := of_hideAll _ q; rw [(NC p hp).2.2] at this; cases this
  · exact ⟨hk₁ _ _ (N p hp).1, Nat.ne_of_lt (Heap.lt_size (N p hp).1), hideAll_none _ (List.mem_map_of_mem hp)⟩
end

theorem anew_O_pure : True := by w_top off; first | (walk1; done) | trivial
/-! the law's pure part: waits, mends -/
noncomputable def MOk (mc : List (List Int)) : Prop := (∀ c ∈ mc, ∃ P v : Int, c = [P, v] ∧ 0 ≤ v ∧ v < P) ∧ ∀ p : Int, (mc.filter (fun c => c.getD 0 0 = p)).length ≤ 1
theorem mem_waitsP {draws : List Int} {mc : List (List Int)} {p : Nat} {j : Int} : j ∈ waitsP draws mc p ↔ (∃ t : Nat, t < p ∧ bit (draws.getD p 0) t = true ∧ j = (t : Int)) ∨ ∃ c ∈ mc, c.getD 0 0 = (p : Int) ∧ j = c.getD 1 0 := by
  unfold waitsP
  rw [List.mem_append, List.mem_map, List.mem_map]
  constructor
  · rintro (⟨t, ht, rfl⟩ | ⟨c, hc, rfl⟩)
    · obtain ⟨h1, h2⟩ := List.mem_filter.mp ht
      exact .inl ⟨t, List.mem_range.mp h1, h2, rfl⟩
    · obtain ⟨h1, h2⟩ := List.mem_filter.mp hc
      exact .inr ⟨c, h1, by simpa using h2, rfl⟩
  · rintro (⟨t, h1, h2, rfl⟩ | ⟨c, h1, h2, rfl⟩)
    · exact .inl ⟨t, List.mem_filter.mpr ⟨List.mem_range.mpr h1, h2⟩, rfl⟩
    · exact .inr ⟨c, List.mem_filter.mpr ⟨h1, by simpa using h2⟩, rfl⟩
theorem waitsP_ok {draws : List Int} {mc : List (List Int)} (h : MOk mc) {p : Nat} : (∀ j ∈ waitsP draws mc p, 0 ≤ j ∧ j < (p : Int)) ∧ (waitsP draws mc p).length ≤ p + 1 := by
  constructor
  · intro j hj
    rcases mem_waitsP.mp hj with ⟨t, h1, _, rfl⟩ | ⟨c, h1, h2, rfl⟩
    · omega
    · obtain ⟨P, v, rfl, h3, h4⟩ := h.1 c h1
      have e1 : ([P, v] : List Int).getD 0 0 = P := rfl
      have e2 : ([P, v] : List Int).getD 1 0 = v := rfl
      rw [e1] at h2
      rw [e2]
      omega
  · unfold waitsP
    rw [List.length_append, List.length_map, List.length_map]
    have h1 := List.length_filter_le (fun j => bit (draws.getD p 0) j) (List.range p)
    rw [List.length_range] at h1
    have h2 := h.2 (p : Int)
    omega
theorem waits_at {draws : List Int} {mc : List (List Int)} {p : Nat} {c : List Int} (h : (waitsF draws mc)[p]? = some c) : p < 6 ∧ c = waitsP draws mc p := by
  unfold waitsF at h
  rw [List.getElem?_map] at h
  obtain ⟨t, h1, h2⟩ := Option.map_eq_some_iff.mp h
  by_cases hp : p < 6
  · rw [List.getElem?_range hp] at h1
    cases h1
    exact ⟨hp, h2.symm⟩
  · rw [List.getElem?_eq_none (by simp; omega)] at h1; cases h1
theorem waits_ok {ws : List WL} {draws : List Int} {mc : List (List Int)} (h : MOk mc) (e : ws.map (·.c) = waitsF draws mc) : ws.length = 6 ∧ (∀ x ∈ ws, x.c.length ≤ 6) ∧ (∀ (p : Nat) x, ws[p]? = some x → ∀ j ∈ x.c, 0 ≤ j ∧ j < (p : Int)) := by
  have hp : ∀ (p : Nat) x, ws[p]? = some x → p < 6 ∧ x.c = waitsP draws mc p := by
    intro p x hx
    refine waits_at ?_
    rw [← e, List.getElem?_map, hx]; rfl
  refine ⟨?_, ?_, ?_⟩
  · rw [← List.length_map (·.c), e]; simp [waitsF]
  · intro x hx
    obtain ⟨p, hx⟩ := List.getElem?_of_mem hx
    obtain ⟨h1, h2⟩ := hp p x hx
    rw [h2]
    have := (waitsP_ok (draws := draws) h (p := p)).2
    omega
  · intro p x hx j hj
    obtain ⟨h1, h2⟩ := hp p x hx
    rw [h2] at hj
    exact (waitsP_ok h).1 j hj
theorem mendsP_mem {row draws : List Int} {P : Nat} {c : List Int} (h : c ∈ mendsP row draws P) : ∃ (gs : List Int) (q : Nat) (v : Int), grF row P = gs ++ [(q : Int)] ∧ q < P ∧ c = [(P : Int), v] ∧ (q : Int) ≤ v ∧ v < P := by
  rcases List.eq_nil_or_concat (grF row P) with hn | ⟨gs, gl, hg⟩
  · rw [mendsP_nil hn] at h; cases h
  · rw [List.concat_eq_append] at hg
    have hm : gl ∈ grF row P := by rw [hg]; exact List.mem_append_right _ (.head _)
    obtain ⟨q, hq, rfl⟩ := List.mem_map.mp hm
    have hqP := List.mem_range.mp (List.mem_filter.mp hq).1
    rw [mendsP_snoc hg] at h
    split at h
    · rw [List.mem_singleton.mp h]
      refine ⟨gs, q, _, hg, hqP, rfl, ?_, ?_⟩
      · have := Int.fmod_nonneg_of_pos ((draws.getD P 0).fdiv (2 ^ P)) (show (0 : Int) < (P : Int) - q by omega)
        omega
      · have := Int.fmod_lt_of_pos ((draws.getD P 0).fdiv (2 ^ P)) (show (0 : Int) < (P : Int) - q by omega)
        omega
    · cases h
theorem mendsT_mem {row draws : List Int} {i : Nat} {c : List Int} : c ∈ mendsT row draws i ↔ ∃ t, t < i ∧ c ∈ mendsP row draws (t + 1) := by
  unfold mendsT
  rw [List.mem_flatMap]
  simp
theorem mends_ok {row draws : List Int} : MOk (mendsT row draws 5) := by
  refine ⟨fun c hc => ?_, fun p => ?_⟩
  · obtain ⟨t, ht, hc⟩ := mendsT_mem.mp hc
    obtain ⟨gs, q, v, h1, h2, h3, h4, h5⟩ := mendsP_mem hc
    exact ⟨_, v, h3, by omega, h5⟩
  · have key : ∀ i : Nat, ((mendsT row draws i).filter (fun c => c.getD 0 0 = p)).length ≤ 1 := by
      intro i
      induction i with
      | zero => simp [mendsT]
      | succ i ih =>
        rw [mendsT_succ, List.filter_append, List.length_append]
        have h1 := List.length_filter_le (fun c : List Int => decide (c.getD 0 0 = p)) (mendsP row draws (i + 1))
        have h2 := mendsP_len (row := row) (draws := draws) (P := i + 1)
        by_cases hp : p = ((i + 1 : Nat) : Int)
        · have : (mendsT row draws i).filter (fun c => c.getD 0 0 = p) = [] := by
            rw [List.filter_eq_nil_iff]
            intro c hc
            obtain ⟨t, ht, hc⟩ := mendsT_mem.mp hc
            obtain ⟨_, _, v, _, _, h3, _, _⟩ := mendsP_mem hc
            rw [h3]
            have e1 : ([((t + 1 : Nat) : Int), v] : List Int).getD 0 0 = ((t + 1 : Nat) : Int) := rfl
            rw [e1]
            simp only [decide_eq_true_eq]
            omega
          rw [this, List.length_nil]
          omega
        · have : (mendsP row draws (i + 1)).filter (fun c => c.getD 0 0 = p) = [] := by
            rw [List.filter_eq_nil_iff]
            intro c hc
            obtain ⟨_, _, v, _, _, h3, _, _⟩ := mendsP_mem hc
            rw [h3]
            have e1 : ([((i + 1 : Nat) : Int), v] : List Int).getD 0 0 = ((i + 1 : Nat) : Int) := rfl
            rw [e1]
            simp only [decide_eq_true_eq]
            exact fun q => hp q.symm
          rw [this, List.length_nil]
          omega
    exact key 5
theorem grF_last {row : List Int} {P q t : Nat} {gs : List Int} (h : grF row P = gs ++ [(q : Int)]) (ht : (t : Int) ∈ grF row P) : t ≤ q := by
  have hs : (grF row P).Pairwise (· < ·) := by
    unfold grF
    rw [List.pairwise_map]
    refine (List.pairwise_lt_range.filter _).imp ?_
    intro a b hab
    show (a : Int) < (b : Int)
    omega
  rw [h] at hs ht
  rcases List.mem_append.mp ht with ht | ht
  · have := (List.pairwise_append.mp hs).2.2 _ ht _ (.head _)
    omega
  · have := List.mem_singleton.mp ht; omega
theorem mended {row draws : List Int} (hl : row.length = 6) (hn : row.Nodup) : Gr (edgs row (waitsF draws (mendsT row draws 5))) row [] row := by
  have hat : ∀ p, p < 6 → (waitsF draws (mendsT row draws 5)).getD p [] = waitsP draws (mendsT row draws 5) p := by
    intro p hp
    unfold waitsF
    rw [List.getD_eq_getElem?_getD, List.getElem?_map, List.getElem?_range hp]; rfl
  have hW := fun p => (waitsP_ok (draws := draws) (mends_ok (row := row) (draws := draws)) (p := p)).1
  have hidx : ∀ p, p < 6 → row.idxOf (row.getD p 0) = p := fun p hp => idxOf_getD hn (by omega)
  have key : ∀ k i, i + k = 6 → Gr (edgs row (waitsF draws (mendsT row draws 5))) row (row.take i) (row.drop i) := by
    intro k
    induction k with
    | zero =>
      intro i hi
      rw [List.drop_of_length_le (by omega)]
      refine .nil fun x hx hxd _ => hxd ?_
      rwa [List.take_of_length_le (by omega)]
    | succ k ih =>
      intro i hi
      have hi6 : i < row.length := by omega
      have hrow : row[i] = row.getD i 0 := by rw [List.getD_eq_getElem?_getD, List.getElem?_eq_getElem hi6]; rfl
      have hnext := ih (i + 1) (by omega)
      rw [take_snoc (List.getElem?_eq_getElem hi6), hrow] at hnext
      rw [List.drop_eq_getElem_cons hi6, hrow]
      refine .cons (getD_mem hi6) (fun h => by have := idx_of_take h; rw [hidx i (by omega)] at this; omega) ?_ ?_ hnext
      · rintro ⟨x, y⟩ he hx
        obtain ⟨p, hp, j, hj, ex, ey⟩ := mem_edgs.mp he
        dsimp only at hx ⊢
        have hpi : p = i := by
          have := congrArg row.idxOf (ex.symm.trans hx)
          rw [hidx p hp, hidx i (by omega)] at this
          exact this
        subst hpi
        rw [hat p hp] at hj
        have := hW p j hj
        rw [ey]
        refine take_of_idx (getD_mem (by omega)) ?_
        rw [hidx _ (by omega)]; omega
      · intro y hy hyd hc
        obtain ⟨q, hq, rfl⟩ := List.getElem_of_mem hy
        have hrq : row[q] = row.getD q 0 := by rw [List.getD_eq_getElem?_getD, List.getElem?_eq_getElem hq]; rfl
        rw [hrq] at hyd hc ⊢
        have hqi : i ≤ q := by
          by_cases h : i ≤ q
          · exact h
          · exact absurd (take_of_idx (getD_mem hq) (by rw [hidx q (by omega)]; omega)) hyd
        have hno : ∀ j ∈ waitsP draws (mendsT row draws 5) q, j < (i : Int) := by
          intro j hj
          have h1 := hc (row.getD q 0, row.getD j.toNat 0) (mem_edgs.mpr ⟨q, by omega, j, by rw [hat q (by omega)]; exact hj, rfl, rfl⟩) rfl
          have h2 := idx_of_take h1
          have h3 := hW q j hj
          dsimp only at h2
          rw [hidx _ (by omega)] at h2
          omega
        by_cases hle : row.getD i 0 ≤ row.getD q 0
        · exact hle
        · exfalso
          have hlt : i < q := by
            rcases Nat.lt_or_eq_of_le hqi with h | h
            · exact h
            · subst h; exact absurd (Int.le_refl _) hle
          have hig : ((i : Nat) : Int) ∈ grF row q := List.mem_map.mpr ⟨i, List.mem_filter.mpr ⟨List.mem_range.mpr hlt, by simp only [decide_eq_true_eq]; omega⟩, rfl⟩
          rcases List.eq_nil_or_concat (grF row q) with h0 | ⟨gs, gl, hg⟩
          · rw [h0] at hig; cases hig
          · rw [List.concat_eq_append] at hg
            have hm : gl ∈ grF row q := by rw [hg]; exact List.mem_append_right _ (.head _)
            obtain ⟨g, hgq, rfl⟩ := List.mem_map.mp hm
            have hgP := List.mem_range.mp (List.mem_filter.mp hgq).1
            have hgi := grF_last hg hig
            by_cases hfl : ((List.range (q - g)).filter (fun t => bit (draws.getD q 0) (g + t))) = []
            · have hmp := mendsP_snoc (draws := draws) hg
              rw [if_pos hfl] at hmp
              obtain ⟨_, g', v, h1, h2, h3, h4, h5⟩ := mendsP_mem (row := row) (draws := draws) (P := q) (by rw [hmp]; exact .head _)
              have hg' : (g' : Int) = (g : Int) := by
                have := (List.append_inj' (h1.symm.trans hg) rfl).2
                simpa using this
              have hv := hno v (mem_waitsP.mpr (.inr ⟨_, mendsT_mem.mpr ⟨q - 1, by omega, by rw [show q - 1 + 1 = q by omega, hmp]; exact .head _⟩, rfl, by rw [h3]; rfl⟩))
              omega
            · obtain ⟨t, ht⟩ := List.exists_mem_of_ne_nil _ hfl
              obtain ⟨h1, h2⟩ := List.mem_filter.mp ht
              have h1 := List.mem_range.mp h1
              have := hno ((g + t : Nat) : Int) (mem_waitsP.mpr (.inl ⟨g + t, by omega, h2, rfl⟩))
              omega
  have := key 6 0 (by omega)
  simpa using this

theorem anew_P_back : True := by w_top off; first | (walk1; done) | trivial
theorem ne_m {prog : Program} {w : World} {A : Around} {E : Value → Shared → Prop} {s : Shared} {h₀ : Heap} {L a b : Addr} {news : List (Addr × Obj)} {vs us : List Value} {ns ms : List Int} {na nb : Nat} {Q : Value → Shared → Prop}
    (N : News h₀ L s.heap news) (ha : (a, listOf vs.toArray na) ∈ news) (hb : (b, listOf us.toArray nb) ∈ news) (hi : IntsAre vs ns) (hj : IntsAre us ms) (hu : A.units + 64 < cLine) (h1 : ns ≠ ms → Q (.bool true) s) (h2 : ns = ms → Q (.bool false) s) :
    wpAny (model prog w) A (compareOp .NotEq (.ref a) (.ref b)) Q E s := by
  refine ne_intsK (N.isList ha) hi (N.isList hb) hj hu ?_
  by_cases h : ns = ms
  · rw [decide_eq_true h]; exact h2 h
  · rw [decide_eq_false h]; exact h1 h
theorem LL.of {news : List (Addr × Obj)} {l n : Nat} {ws : List WL} (h1 : (l, listOf (ws.map fun x => Value.ref x.a).toArray n) ∈ news) (h2 : ∀ p ∈ wled ws, p ∈ news) (h3 : ∀ x ∈ ws, IntsAre x.v x.c) : LL news l n ws := ⟨h1, fun x hx => ⟨h2 _ (mem_wled hx), h3 x hx⟩⟩
theorem MOk.sub {mc mc' : List (List Int)} (h : MOk mc) (s : mc'.Sublist mc) : MOk mc' := ⟨fun c hc => h.1 c (s.subset hc), fun p => Nat.le_trans (List.Sublist.length_le (s.filter _)) (h.2 p)⟩
theorem news_neD {h₀ h : Heap} {L a b : Addr} {o o' : Obj} {r : List (Addr × Obj)} (N : News h₀ L h r) (h1 : (a, o) ∈ r) (h2 : (b, o') ∈ r) (ho : o.data ≠ o'.data) : a ≠ b := by
  rintro rfl
  have e1 := (N _ h1).1
  have e2 := (N _ h2).1
  dsimp only at e1 e2
  rw [e1] at e2
  cases e2
  exact ho rfl
structure BS where
  b : Heap
  og : Obj
section Priv
local macro_rules | `(tactic| walk_at "exec For") => `(tactic| (k_here; (with_reducible show wpAny _ _ (exec (Stmt.For (Expr.Name _ _) _ _ [] _) _) _ _ _); (with_unfolding_all refine For_T ?_)))
local macro_rules | `(tactic| walk_at "pyIter ref") => `(tactic| ((with_reducible show wpAny _ _ (pyIter (Value.ref _)) (fun it s₂ => LoopT _ _ _ _ _ _ _ _ _ it s₂) _ _); with_reducible refine stop_in ?_))
local macro_rules | `(tactic| walk_at "compareOp NotEq ref ref") => `(tactic| (k_here; with_reducible refine stop_in ?_))
set_option maxRecDepth 100000 in
set_option maxHeartbeats 4000000 in
theorem back_c : ∀ {w : World} {p : Program} {loose : List Str} {mean : ExcName → Option Value} {mg mb : Str → Option Value} {dp un : Nat} {gd : Option (List Code)} {cn : Str} {cs : Scope} {a : Addr} {ccd : Value} {cl : List (Str × Addr)} {outer : List Env} {A₀ : Around} {base h₀ : Heap} {L : Addr} {m : Str → Option Value} {s : Shared} {Q E : Value → Shared → Prop} {Rw rn Dr dn Me mn : Nat} {rv dv : List Value} {row draws : List Int} {ms : List WL} {rest : List (Addr × Obj)},
    Below A₀ base outer h₀ → Fr h₀ L s.heap m → (Mine.hd.heap_1 w.params).In h₀ → Top p loose mean mg mb h₀ → cs.kind = .function → (Mine.hd.heap_1 w.params).In base → Top p loose mean mg mb base → dp < 820 → un < 8200 → News h₀ L s.heap rest → (Rw, listOf rv.toArray rn) ∈ rest → IntsAre rv row → row.length = 6 → row.Nodup → (Dr, listOf dv.toArray dn) ∈ rest → IntsAre dv draws → draws.length = 6 → LL rest Me mn ms → ms.map (·.c) = mendsT row draws 5 →
    (∀ h₀' h' tk', KtsTurn (outer.filterMap (·.frame)) h₀ h₀' → Fr h₀' L h' m → News h₀' L h' rest →
      Below A₀ base outer h₀' → (Mine.hd.heap_1 w.params).In h₀' → Top p loose mean mg mb h₀' → Q (.bool true) { s with heap := h', toks := tk' }) →
    wpAny (model PySem.Challenge.rw_mg0054_01.row.prog w) (ktrTop dp un gd cn cs L a ccd cl outer) (call (.ref 217) [.ref Rw, .ref Dr, .ref Me]) Q E s := by
  k_fill
  intro w p loose mean mg mb dp un gd cn cs a ccd cl outer A₀ base h₀ L m s Q E Rw rn Dr dn Me mn rv dv row draws ms rest B F X T hk XB TB hdp hun N hrm hri hrl hrn hdm hdi hdl hm hmc hret
  refine wpAny_call ?_
  k_dflt (refine' code_defTC ?k1 ?k2 ?k3 ?k4 ?k5 ?xb ?tb ?kA ?kF ?kK ?k6 ?k7 ?k8 ?k9 ?kB ?kD ?_ ?c2 ?c3 ?c4; (case kA => exact rfl); (case kF => exact rfl); (case kK => assumption); (case k1 => k_asm); (case k2 => k_asm); (case k3 => k_asm); (case k4 => k_asm); (case k5 => k_asm); (case xb => k_asm); (case tb => k_asm); (case k6 => k_is); (case k7 => k_is); (case k8 => ktr_room); (case k9 => exact BindsTo.of_eq rfl); (case kB => exact rfl); (case kD => decide +kernel); (case c2 => exact rfl); (case c3 => exact rfl); (case c4 => exact rfl); k_whole; intro g' L' h' tk' cells' FG' F' N' Y' B' X' T' l1; (try k_lt l1); k_cells Y'; (try simp only [List.cons_append, List.nil_append] at N'); (try dsimp only); (try k_fold))
  ((try (with_reducible refine pin_postQ ?_; intros)); k_steps)
  (refine stop_out ?_; (try (with_reducible refine pin_postQ ?_; intros)))
  rename Fr _ _ _ _ => F1
  rename News _ _ _ _ => N1
  rename Obj.data _ = _ => hog
  have hMm : MOk (ms.map (·.c)) := by rw [hmc]; exact mends_ok
  have hf0 : ∀ p ∈ rest, p.1 ≠ L' + 1 := bd_ne (by omega)
  obtain ⟨E1, og, v0, N2, hog, eE⟩ : ∃ (E1 : Nat) (og : Obj) (v0 : Option Value), News _ _ _ ((E1, listOf (([] : List WL).map fun x => Value.ref x.a).toArray 0) :: (L' + 1, og) :: rest) ∧ og.data = .cell v0 ∧ E1 = _ := ⟨_, _, _, N1, hog, rfl⟩
  subst eE
  clear N1
  refine waits_c (ms := []) B' F1 X' T' rfl ?_ ?_ N2 (.tail _ (.tail _ hdm)) hdi hdl ⟨.head _, by simp⟩ (by simp) (by simp) ?_
  · ktr_room
  · ktr_units
  intro O1 on1 ws1 h1 tk1 F3 N3 hwi1 hwc1
  obtain ⟨hwl1, hwa1, hwb1⟩ := waits_ok (mc := []) ⟨by simp, by simp⟩ hwc1
  obtain ⟨r1, hr1⟩ : ∃ r, r = (O1, listOf (ws1.map fun x => Value.ref x.a).toArray on1) :: (wled ws1 ++ rest) := ⟨_, rfl⟩
  have N4 := news_sub (q := (L' + 1, og) :: r1) N3 (by rw [hr1]; intro x hx; simp only [List.mem_cons, List.mem_append] at hx ⊢; rcases hx with h | h | h | h <;> simp [h])
  have hs1 : ∀ p ∈ rest, p ∈ r1 := by rw [hr1]; exact fun p hp => .tail _ (List.mem_append_right _ hp)
  have hw1 : LL r1 O1 on1 ws1 := LL.of (by rw [hr1]; exact .head _) (by rw [hr1]; exact fun p hp => .tail _ (List.mem_append_left _ hp)) hwi1
  have hrm1 := hs1 _ hrm
  have hrf : ∀ p ∈ r1, p.1 ≠ L' + 1 := by
    intro p hp
    rw [hr1] at hp
    have hc : (L' + 1, og) ∈ (O1, listOf (ws1.map fun x => Value.ref x.a).toArray on1) :: (wled ws1 ++ ((E1, listOf (([] : List WL).map fun x => Value.ref x.a).toArray 0) :: (L' + 1, og) :: rest)) := .tail _ (List.mem_append_right _ (.tail _ (.head _)))
    rcases List.mem_cons.mp hp with rfl | hp
    · exact news_neD N3 (.head _) hc (by rw [hog]; intro e; cases e)
    · rcases List.mem_append.mp hp with hp | hp
      · obtain ⟨x, hx, rfl⟩ := List.mem_map.mp hp
        exact news_neD N3 (.tail _ (List.mem_append_left _ (mem_wled hx))) hc (by rw [hog]; intro e; cases e)
      · exact hf0 p hp
  clear F1 N2 N3
  obtain ⟨o1, ho1⟩ := Gr.some (E := edgs row (ws1.map (·.c))) (R := row)
  ((try (with_reducible refine pin_postQ ?_; intros)); k_steps)
  (refine stop_out ?_; (try (with_reducible refine pin_postQ ?_; intros)))
  rename Fr _ _ _ _ => F5
  rename News _ _ _ _ => N5
  refine told_c B' F5 X' T' rfl XB TB ?_ ?_ N5 (.tail _ hrm1) hri hrl hrn ho1 (hw1.sub fun p hp => .tail _ hp) hwl1 hwa1 hwb1 ?_
  · ktr_room
  · ktr_units
  intro O2 ov2 on2 g2 h2 tk2 Tu2 F6 N6 hi2 B6 X6 T6
  clear F5 N5
  ((try (with_reducible refine pin_postQ ?_; intros)); k_steps)
  (refine stop_out ?_; (try (with_reducible refine pin_postQ ?_; intros)))
  rename Fr _ _ _ _ => F7
  rename News _ _ _ _ => N7
  refine laid_c B6 F7 X6 T6 rfl ?_ ?_ N7 (.tail _ (.tail _ hrm1)) hri hrl hrn ho1 (hw1.sub fun p hp => .tail _ (.tail _ hp)) hwl1 hwa1 hwb1 ?_
  · ktr_room
  · ktr_units
  intro O3 ov3 on3 h3 tk3 F8 N8 hi3
  clear F7 N7
  ((try (with_reducible refine pin_postQ ?_; intros)); k_steps)
  (refine stop_out ?_; (try (with_reducible refine pin_postQ ?_; intros)))
  rename Fr _ _ _ _ => F9
  rename News _ _ _ _ => N9
  refine ne_m N9 (.tail _ (.head _)) (.head _) hi2 hi3 (by ktr_units) (fun hne => absurd rfl hne) fun _ => ?_
  have N10 := news_sub (q := (L' + 1, og) :: r1) N9 (fun p hp => .tail _ (.tail _ hp))
  clear N9
  ((try (with_reducible refine pin_postQ ?_; intros)); k_steps)
  (refine stop_out ?_; (try (with_reducible refine pin_postQ ?_; intros)))
  rename Fr _ _ _ _ => F11
  rename News _ _ _ _ => N11
  have hdm1 := hs1 _ hdm
  have hm1 := hm.sub hs1
  have hml : ms.length ≤ 5 := by rw [← List.length_map (·.c), hmc]; exact mendsT_len
  have hm2 : ∀ x ∈ ms, x.c.length = 2 := by
    intro x hx
    obtain ⟨P, v, e, _⟩ := hMm.1 x.c (List.mem_map.mpr ⟨x, hx, rfl⟩)
    rw [e]; rfl
  refine waits_c B6 F11 X6 T6 rfl ?_ ?_ N11 (.tail _ hdm1) hdi hdl (hm1.sub fun p hp => .tail _ hp) hml hm2 ?_
  · ktr_room
  · ktr_units
  intro O4 on4 ws4 h4 tk4 F12 N12 hwi4 hwc4
  obtain ⟨hwl4, hwa4, hwb4⟩ := waits_ok hMm hwc4
  have hw4 : LL ((O4, listOf (ws4.map fun x => Value.ref x.a).toArray on4) :: (wled ws4 ++ ((L' + 1, og) :: r1))) O4 on4 ws4 := LL.of (.head _) (fun p hp => .tail _ (List.mem_append_left _ hp)) hwi4
  clear F11 N11
  ((try (with_reducible refine pin_postQ ?_; intros)); k_steps)
  (refine stop_out ?_; (try (with_reducible refine pin_postQ ?_; intros)))
  rename Fr _ _ _ _ => F13
  rename News _ _ _ _ => N13
  refine told_c B6 F13 X6 T6 rfl XB TB ?_ ?_ N13 (.tail _ (List.mem_append_right _ (.tail _ hrm1))) hri hrl hrn (o := row) (by rw [hwc4, hmc]; exact mended hrl hrn) hw4 hwl4 hwa4 hwb4 ?_
  · ktr_room
  · ktr_units
  intro O5 ov5 on5 g5 h5 tk5 Tu5 F14 N14 hi5 B7 X7 T7
  clear F13 N13
  ((try (with_reducible refine pin_postQ ?_; intros)); k_steps)
  (refine stop_out ?_; (try (with_reducible refine pin_postQ ?_; intros)))
  rename Fr _ _ _ _ => F15
  rename News _ _ _ _ => N15
  refine ne_m N15 (.head _) (.tail _ (.tail _ (List.mem_append_right _ (.tail _ hrm1)))) hi5 hri (by ktr_units) (fun hne => absurd rfl hne) fun _ => ?_
  have N16 := news_sub (q := (L' + 1, og) :: r1) N15 (fun p hp => .tail _ (.tail _ (List.mem_append_right _ hp)))
  have Tu7 := Tu2.trans Tu5
  clear N15 hw4
  ((try (with_reducible refine pin_postQ ?_; intros)); k_steps)
  (refine stop_out ?_; (try (with_reducible refine pin_postQ ?_; intros)))
  rename Fr _ _ _ _ => F17
  rename News _ _ _ _ => N17
  refine iterC_list (σ := BS) (vs := ms.map fun x => Value.ref x.a) (n := mn) (fun c => c.b) (fun c => (L' + 1, c.og) :: r1) (fun _ => []) [Str.ofString "waits"] (fun i c => KtsTurn ((envX cn cs L a ccd cl :: outer).filterMap (·.frame)) g5 c.b ∧ (∃ v, c.og.data = .cell v) ∧ Below _ _ _ c.b ∧ (Mine.hd.heap_1 w.params).In c.b ∧ Top p loose mean mg mb c.b) ⟨g5, og⟩ rfl (fun i c hc b hb => hc.1.none_ b hb) (fun _ _ _ => .tail _ hm1.m) F17 N17 (by simp) ⟨.refl, ⟨_, hog⟩, B7, X7, T7⟩ ?_ ?_
  · rintro i v ⟨gb, og2⟩ u h tk I oI hv ⟨Tu8, ⟨v1, hog2⟩, B8, X8, T8⟩ hoff F18 N18
    rw [List.getElem?_map] at hv
    obtain ⟨y, hy, rfl⟩ := Option.map_eq_some_iff.mp hv
    have hym := List.mem_of_getElem? hy
    obtain ⟨hya, hyi⟩ := hm1.e y hym
    have hmm := hm1.m
    dsimp only at *
    have hI1 : L' + 1 ≠ I := hoff _ (.head _)
    clear F17 N17
    ((try (with_reducible refine pin_postQ ?_; intros)); k_steps)
    (refine stop_out ?_; (try (with_reducible refine pin_postQ ?_; intros)))
    k_dflt (refine LCt.ListComp_T (F₀ := by k_asm) (by with_unfolding_all rfl) (by decide) (by rfl) (by decide) (by rfl) ?_)
    ((try (with_reducible refine pin_postQ ?_; intros)); k_steps)
    (refine stop_out ?_; (try (with_reducible refine pin_postQ ?_; intros)))
    rename Fr _ _ _ _ => F19
    rename News _ _ _ _ => N19
    refine LCt.CompSrcT.ledger rfl F19 N19 (by k_mem) (by rw [sizeLine_eq, List.size_toArray, List.length_map]; omega) fun g9 => ?_
    refine compT_ind (fun j ys => ys = ((ms.take j).filter (fun x => x.c ≠ y.c)).map fun x => Value.ref x.a) (.inr ⟨_, by k_mem, rfl, _, rfl⟩) rfl ?_ ?_
    · intro j ys v I1 oI1 C oC D0 m₂ h1 tk1 E' hj hJ hv hC hx F20 N20
      obtain ⟨x, hx2, rfl⟩ := ref_at hv
      obtain ⟨hxa, hxi⟩ := hm1.e x (List.mem_of_getElem? hx2)
      clear F19 N19
      ((try (with_reducible refine pin_postQ ?_; intros)); k_steps)
      (refine stop_out ?_; (try (with_reducible refine pin_postQ ?_; intros)))
      rename News _ _ _ _ => N21
      refine ne_m N21 (by k_mem) (by k_mem) hxi hyi (by ktr_units) (fun hne => ?_) fun heq => ?_
      · ((try (with_reducible refine pin_postQ ?_; intros)); k_steps)
        rename Fr _ _ _ _ => F22
        rename News _ _ _ _ => N22
        refine turn_end F22 N22 (fun p hp => hp) ?_
        rw [take_snoc hx2, List.filter_append, List.map_append, ← hJ, List.filter_cons, if_pos (by simpa using hne)]; rfl
      · ((try (with_reducible refine pin_postQ ?_; intros)); k_steps)
        rename Fr _ _ _ _ => F22
        rename News _ _ _ _ => N22
        refine turn_end F22 N22 (fun p hp => hp) ?_
        rw [take_snoc hx2, List.filter_append, List.map_append, ← hJ, List.filter_cons, if_neg (by simpa using heq)]; simp
    · intro ys hJ D2 h2 tk2 F20 N20 o2
      rw [List.size_toArray, List.length_map, List.take_of_length_le (Nat.le_refl _)] at hJ
      subst hJ
      obtain ⟨mf, hmf⟩ : ∃ mf, mf = ms.filter (fun x => x.c ≠ y.c) := ⟨_, rfl⟩
      rw [← hmf] at N20
      have hmfl : mf.length ≤ 5 := by rw [hmf]; exact Nat.le_trans (List.length_filter_le _ _) hml
      have hmf2 : ∀ x ∈ mf, x.c.length = 2 := by rw [hmf]; exact fun x hx => hm2 x (List.mem_filter.mp hx).1
      have hMf : MOk (mf.map (·.c)) := hMm.sub (by rw [hmf]; exact List.Sublist.map _ List.filter_sublist)
      rename Obj.data _ = Data.cell (some (Value.ref y.a)) => ho
      obtain ⟨oy, hoy, N21⟩ : ∃ oy : Obj, oy.data = .cell (some (.ref y.a)) ∧ News gb L' h2 ((D2, listOf (mf.map fun x => Value.ref x.a).toArray (mf.map fun x => Value.ref x.a).length) :: (I, oI) :: (L' + 1, oy) :: r1) := ⟨_, ho, N20⟩
      have hLf : LL ((D2, listOf (mf.map fun x => Value.ref x.a).toArray (mf.map fun x => Value.ref x.a).length) :: (I, oI) :: (L' + 1, oy) :: r1) D2 _ mf := ⟨.head _, fun x hx => by
        rw [hmf] at hx
        have := hm1.e x (List.mem_filter.mp hx).1
        exact ⟨.tail _ (.tail _ (.tail _ this.1)), this.2⟩⟩
      clear N20 F19 N19
      ((try (with_reducible refine pin_postQ ?_; intros)); k_steps)
      (refine stop_out ?_; (try (with_reducible refine pin_postQ ?_; intros)))
      rename Fr _ _ _ _ => F23
      rename News _ _ _ _ => N23
      refine waits_c B8 F23 X8 T8 rfl ?_ ?_ N23 (.tail _ (.tail _ (.tail _ hdm1))) hdi hdl hLf hmfl hmf2 ?_
      · ktr_room
      · ktr_units
      intro O6 on6 ws6 h6 tk6 F24 N24 hwi6 hwc6
      obtain ⟨hwl6, hwa6, hwb6⟩ := waits_ok hMf hwc6
      obtain ⟨r6, hr6⟩ : ∃ r, r = (O6, listOf (ws6.map fun x => Value.ref x.a).toArray on6) :: (wled ws6 ++ ((D2, listOf (mf.map fun x => Value.ref x.a).toArray (mf.map fun x => Value.ref x.a).length) :: (I, oI) :: (L' + 1, oy) :: r1)) := ⟨_, rfl⟩
      have hw6 : LL r6 O6 on6 ws6 := LL.of (by rw [hr6]; exact .head _) (fun p hp => by rw [hr6]; exact .tail _ (List.mem_append_left _ hp)) hwi6
      have hsr : ∀ p ∈ (I, oI) :: (L' + 1, oy) :: r1, p ∈ r6 := fun p hp => by rw [hr6]; exact .tail _ (List.mem_append_right _ (.tail _ hp))
      rw [← hr6] at N24
      have hrm6 := hsr _ (.tail _ (.tail _ hrm1))
      obtain ⟨o6, ho6⟩ := Gr.some (E := edgs row (ws6.map (·.c))) (R := row)
      clear F23 N23 hLf
      ((try (with_reducible refine pin_postQ ?_; intros)); k_steps)
      (refine stop_out ?_; (try (with_reducible refine pin_postQ ?_; intros)))
      rename Fr _ _ _ _ => F25
      rename News _ _ _ _ => N25
      refine told_c B8 F25 X8 T8 rfl XB TB ?_ ?_ N25 hrm6 hri hrl hrn ho6 hw6 hwl6 hwa6 hwb6 ?_
      · ktr_room
      · ktr_units
      intro O7 ov7 on7 g7 h7 tk7 Tu9 F26 N26 hi7 B9 X9 T9
      clear F25 N25
      ((try (with_reducible refine pin_postQ ?_; intros)); k_steps)
      (refine stop_out ?_; (try (with_reducible refine pin_postQ ?_; intros)))
      rename Fr _ _ _ _ => F27
      rename News _ _ _ _ => N27
      refine laid_c B9 F27 X9 T9 rfl ?_ ?_ N27 (.tail _ hrm6) hri hrl hrn ho6 (hw6.sub fun p hp => .tail _ hp) hwl6 hwa6 hwb6 ?_
      · ktr_room
      · ktr_units
      intro O8 ov8 on8 h8 tk8 F28 N28 hi8
      clear F27 N27
      ((try (with_reducible refine pin_postQ ?_; intros)); k_steps)
      (refine stop_out ?_; (try (with_reducible refine pin_postQ ?_; intros)))
      rename Fr _ _ _ _ => F29
      rename News _ _ _ _ => N29
      refine ne_m N29 (.tail _ (.head _)) (.head _) hi7 hi8 (by ktr_units) (fun hne => absurd rfl hne) fun _ => ?_
      have N30 := news_sub N29 (q := (I, oI) :: (L' + 1, oy) :: r1) (fun p hp => .tail _ (.tail _ (hsr p hp)))
      clear N29
      ((try (with_reducible refine pin_postQ ?_; intros)); k_steps)
      rename Fr _ _ _ _ => F31
      rename News _ _ _ _ => N31
      refine endT (⟨g7, oy⟩ : BS) F31 N31 (fun p hp => hp) (by simp) ?_ ⟨⟨Tu8.trans Tu9, ⟨_, hoy⟩, B9, X9, T9⟩, ?_⟩
      · walk_at "same"
      · intro p hp
        rcases List.mem_cons.mp hp with rfl | hp
        · exact hI1
        · exact hoff p (.tail _ hp)
  · rintro ⟨gb, og2⟩ u h tk ⟨Tu8, ⟨v1, hog2⟩, B8, X8, T8⟩ F18 N18
    dsimp only at *
    ((try (with_reducible refine pin_postQ ?_; intros)); k_steps)
    rename Fr _ _ _ _ => F19
    rename News _ _ _ _ => N19
    exact ⟨gb, _, _, _, Tu7.trans Tu8, F19, news_sub N19 (q := rest) (fun p hp => .tail _ (hs1 p hp)), fun g9 T9 F9 N9 B9 X9 Tp9 => hret _ _ _ T9 F9 N9 B9 X9 Tp9⟩
end Priv

theorem anew_Q_row : True := by w_top off; first | (walk1; done) | trivial
theorem addU_nodup {r : List Int} {x : Int} (h : r.Nodup) : (addU r x).Nodup := by
  unfold addU
  split
  · exact h
  · rename_i hx
    exact List.nodup_append.mpr ⟨h, by simp, by rintro a ha b hb rfl; rw [List.mem_singleton.mp hb] at ha; exact hx ha⟩
theorem addU_mem {r : List Int} {x y : Int} : y ∈ addU r x ↔ y ∈ r ∨ y = x := by
  unfold addU
  split
  · rename_i hx
    exact ⟨.inl, fun h => h.elim id fun e => e ▸ hx⟩
  · simp
theorem addU_fold : ∀ {xs r : List Int}, r.Nodup → (xs.foldl addU r).Nodup ∧ ∀ y, y ∈ xs.foldl addU r ↔ y ∈ r ∨ y ∈ xs := by
  intro xs
  induction xs with
  | nil => intro r h; exact ⟨h, by simp⟩
  | cons x xs ih =>
    intro r h
    obtain ⟨a, b⟩ := ih (addU_nodup (x := x) h)
    refine ⟨a, fun y => ?_⟩
    rw [List.foldl_cons, b, addU_mem, List.mem_cons, or_assoc]
theorem rowF_ok {script : List Int} : (rowF script).length = 6 ∧ (rowF script).Nodup := by
  obtain ⟨a, b⟩ := addU_fold (xs := script.take 6 ++ [4, 9, 1, 7, 3, 8]) (r := []) (by simp)
  have h := nodup_len (l := [4, 9, 1, 7, 3, 8]) (r := (script.take 6 ++ [4, 9, 1, 7, 3, 8]).foldl addU []) (by decide) (fun y hy => (b y).mpr (.inr (List.mem_append_right _ hy)))
  have h6 : ([4, 9, 1, 7, 3, 8] : List Int).length = 6 := rfl
  rw [h6] at h
  refine ⟨?_, ?_⟩
  · unfold rowF; rw [List.length_take]; omega
  · unfold rowF; exact List.Nodup.sublist (List.take_sublist _ _) a
theorem drawsF_ok {script : List Int} : (drawsF script).length = 6 := by unfold drawsF; rw [drawsF_len (d := [])]; rfl
theorem fr_turn {g g' h : Heap} {L : Addr} {m : Str → Option Value} (T : KtsTurn (List.filterMap (fun x : Env => x.frame) []) g g') (F : Fr g' L h m) : Fr g L h m :=
  ⟨F.ns, fun b o e => F.keep b o (T.other b o e (by simp)), by rw [← T.size]; exact F.above⟩

theorem anew_Z_main : True := by w_top off; first | (walk1; done) | trivial
end Mine
open Mine
local macro_rules | `(tactic| k_qdec) => `(tactic| decide +kernel)
local macro_rules | `(tactic| walk_at "call ref") => `(tactic| (k_here; with_reducible refine Mine.stop_ref (by decide) ?_))
set_option maxRecDepth 100000 in
set_option maxHeartbeats 8000000 in
theorem PySem.Challenge.cw_mg0054_01_holds : PySem.Challenge.rw_mg0054_01.Holds :=
  holds_law Mine.said_ok fun said => Mine.hd ⟨⟨said, Mine.left_ok⟩, by
  clear said
  k_go0
  (all_goals try k_fold)
  ((try (with_reducible refine pin_postA ?_; intros)); k_steps)
  (refine stop_out ?_; (try (with_reducible refine pin_postQ ?_; intros)))
  rename Fr _ _ _ _ => F1
  rename News _ _ _ _ => N1
  rename Heap.IsList _ _ _ => hL1
  rename IntsAre _ _ => hI1
  rename Below _ _ _ _ => B1
  rename Top _ _ _ _ _ _ => T1
  rename Frag.In _ _ => X1
  k_dflt (refine row_c B1 F1 X1 T1 rfl ?_ ?_ N1 hL1 hI1 (by omega) ?_)
  · first | decide | ktr_room
  · first | decide | ktr_units
  intro O1 ov1 on1 h1 tk1 F2 N2 hi1
  clear F1 N1
  ((try (with_reducible refine pin_postA ?_; intros)); k_steps)
  (refine stop_out ?_; (try (with_reducible refine pin_postQ ?_; intros)))
  rename Fr _ _ _ _ => F3
  rename News _ _ _ _ => N3
  k_dflt (refine draws_c B1 F3 X1 T1 rfl ?_ ?_ N3 hL1 hI1 (by omega) ?_)
  · first | decide | ktr_room
  · first | decide | ktr_units
  intro O2 ov2 on2 h2 tk2 F4 N4 hi2
  clear F3 N3
  ((try (with_reducible refine pin_postA ?_; intros)); k_steps)
  (refine stop_out ?_; (try (with_reducible refine pin_postQ ?_; intros)))
  rename Fr _ _ _ _ => F5
  rename News _ _ _ _ => N5
  k_dflt (refine row_c B1 F5 X1 T1 rfl ?_ ?_ N5 hL1 hI1 (by omega) ?_)
  · first | decide | ktr_room
  · first | decide | ktr_units
  intro O3 ov3 on3 h3 tk3 F6 N6 hi3
  clear F5 N5
  ((try (with_reducible refine pin_postA ?_; intros)); k_steps)
  (refine stop_out ?_; (try (with_reducible refine pin_postQ ?_; intros)))
  rename Fr _ _ _ _ => F7
  rename News _ _ _ _ => N7
  k_dflt (refine draws_c B1 F7 X1 T1 rfl ?_ ?_ N7 hL1 hI1 (by omega) ?_)
  · first | decide | ktr_room
  · first | decide | ktr_units
  intro O4 ov4 on4 h4 tk4 F8 N8 hi4
  clear F7 N7
  ((try (with_reducible refine pin_postA ?_; intros)); k_steps)
  (refine stop_out ?_; (try (with_reducible refine pin_postQ ?_; intros)))
  rename Fr _ _ _ _ => F9
  rename News _ _ _ _ => N9
  k_dflt (refine mends_c B1 F9 X1 T1 rfl ?_ ?_ N9 (.head _) hi4 drawsF_ok (.tail _ (.head _)) hi3 rowF_ok.1 ?_)
  · first | decide | ktr_room
  · first | decide | ktr_units
  intro O5 on5 ws5 h5 tk5 F10 N10 hwi5 hwc5
  clear F9 N9
  ((try (with_reducible refine pin_postA ?_; intros)); k_steps)
  (refine stop_out ?_; (try (with_reducible refine pin_postQ ?_; intros)))
  rename Fr _ _ _ _ => F11
  rename News _ _ _ _ => N11
  k_dflt (refine back_c B1 F11 X1 T1 rfl X1 T1 ?_ ?_ N11 (.tail _ (List.mem_append_right _ (.tail _ (.tail _ (.tail _ (.head _)))))) hi1 rowF_ok.1 rowF_ok.2 (.tail _ (List.mem_append_right _ (.tail _ (.tail _ (.head _))))) hi2 drawsF_ok (LL.of (.head _) (fun p hp => .tail _ (List.mem_append_left _ hp)) hwi5) hwc5 ?_)
  · first | decide | ktr_room
  · first | decide | ktr_units
  intro g6 h6 tk6 Tu6 F12 N12 B12 X12 T12
  clear F11 N11
  ((try (with_reducible refine pin_postA ?_; intros)); k_steps)
  rename Fr _ _ _ _ => F13
  have F14 := fr_turn Tu6 F13
  clear F13
  k_steps⟩
