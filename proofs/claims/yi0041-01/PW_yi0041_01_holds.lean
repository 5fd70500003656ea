import PyProof.Rows.All
import Wide.All
import OpenK.AllK
import Wide.FinOn
import PySem.Challenge.RW_yi0041_01
open PySem PySem.W PySem.Calls PyProof.Rows
set_option Elab.async false
set_option maxRecDepth 100000
set_option maxHeartbeats 8000000
namespace Mine
/-! The top's run over a tree of objects, without naming the state at its end. -/
def topRunT (ok : Thread → Bool) (st : SharedT → Thread → Option (SharedT × Thread)) : Nat → SharedT → Thread → Option SharedT
  | 0, _, _ => none
  | n + 1, s, t => match through t with
    | true => some s
    | false => match ok t with
      | false => none
      | true => match st s t with
        | some (s', t') => topRunT ok st n s' t'
        | none => none
theorem topRunT_of {tb : String → Option Builtin} {p : Program} {w : World} {n₀ : Nat} {ann : Option Value} : ∀ {n : Nat} {s s' : SharedT} {t : Thread}, topRunT (stepOk n₀ ann) (stepT (denote tb) p w) n s t = some s' → topRun tb p w n₀ ann n s.abs t = some s'.abs
  | 0, _, _, _, h => by cases h
  | n + 1, s, s', t, h => by
    unfold topRunT at h
    unfold topRun
    cases he : through t with
    | true => rw [he] at h; cases h; rfl
    | false =>
      rw [he] at h
      cases hk : stepOk n₀ ann t with
      | false => rw [hk] at h; cases h
      | true =>
        rw [hk] at h
        cases hs : stepT (denote tb) p w s t with
        | none => rw [hs] at h; cases h
        | some r => obtain ⟨s₂, t₂⟩ := r; rw [hs] at h; rw [stepT_spec hs]; exact topRunT_of h
def evensL {α : Type} : Nat → List α → List α
  | 0, _ => []
  | _ + 1, [] => []
  | n + 1, a :: r => a :: evensL n (r.drop 1)
def mkBT : Nat → List Obj → BT
  | 0, _ => .nil
  | _ + 1, [] => .nil
  | n + 1, o :: r => .node o (mkBT n (evensL 600 r)) (mkBT n (evensL 600 (r.drop 1)))
theorem left_of_tree {p q : Program} {loose : List Str} {Xt : Shared → Bool} {α : Type} {Yf : Shared → α} {Ya : World → α} {N : Nat} {g0 : Bool} {H₀ : Params → Heap} {gs₀ : Array GenState} {d₀ : Drawn} {k₀ : Nat} {m₀ : Nat} {ann : Option Value} {M : Nat} {T : Params → BT} {n : Nat} {life : Life}
    (open_ : ∀ w : World, (fencedOpening treeTable p w N).map (fun s => (s.heap, s.gens, s.drawn, s.toks)) = some (H₀ w.params, gs₀, d₀, k₀))
    (tree : ∀ P : Params, H₀ P = absHeap (T P) n life)
    (size : ∀ w : World, ((H₀ w.params).isNs mainGlobals && gs₀.size == 0, (H₀ w.params).objs.size, (H₀ w.params).nsMap mainGlobals "__annotations__") = (true, m₀, ann))
    (le : Nat.ble M N = true)
    (run : ∀ w : World, ∀ os : OsState, (topRunT (stepOk m₀ ann) (stepT (denote treeTable) p w) M ⟨T w.params, n, life, gs₀, d₀, k₀, os⟩ (topStub p)).map (fun s => ((staticsOk (importedModules p.main.body) (H₀ w.params) s.abs.heap && namesBound p s.abs.heap && gensDone s.abs && laidKept (H₀ w.params) s.abs.heap),
        openSeen q loose (importedModules p.main.body) Xt g0 s.abs, Yf s.abs)) = some (true, openGood q loose, Ya w)) : LeftO p q loose Xt Yf Ya N g0 := fun w => by
  obtain ⟨⟨h, gs, d, k, os⟩, e, e'⟩ := Option.map_eq_some_iff.mp (open_ w)
  obtain ⟨rfl, rfl, rfl, rfl⟩ : h = H₀ w.params ∧ gs = gs₀ ∧ d = d₀ ∧ k = k₀ := by simpa using e'
  obtain ⟨z1, z2, z3⟩ : _ ∧ _ ∧ _ := by simpa only [Prod.mk.injEq] using size w
  obtain ⟨sT, r, l⟩ := Option.map_eq_some_iff.mp (run w os)
  obtain ⟨l1, l2, l3⟩ : _ ∧ _ ∧ _ := by simpa only [Prod.mk.injEq] using l
  have r := topRun_mono (N - M) _ _ _ _ (topRunT_of r)
  rw [show M + (N - M) = N by have := Nat.le_of_ble_eq_true le; omega] at r
  have t : topFrom treeTable p w N ⟨H₀ w.params, gs, d, k, os⟩ = some sT.abs := by
    unfold topFrom
    dsimp only
    rw [z1, z2, z3]
    have r' : topRun treeTable p w m₀ ann N ⟨H₀ w.params, gs, d, k, os⟩ (topStub p) = some sT.abs := by
      rw [tree w.params]; exact r
    rw [r']
    show (match staticsOk (importedModules p.main.body) (H₀ w.params) sT.abs.heap && namesBound p sT.abs.heap && gensDone sT.abs && laidKept (H₀ w.params) sT.abs.heap with | true => _ | false => _) = _
    rw [l1]
  unfold openEnds
  rw [e]
  show (topFrom treeTable p w N _).map _ = _
  rw [t]
  exact congrArg some (Prod.ext l2 l3)
theorem step_fast (p : Program) (w : World) : stepT (denote treeTable) p w = PySem.W.Fast.tw10156331382660048174 (PySem.W.Fast.tw11892475500146522536 PySem.W.Fast.tw14364793385576792824) p w := by
  rw [PySem.W.Fast.te10156331382660048174, PySem.W.Fast.te11892475500146522536, PySem.W.Fast.te14364793385576792824]
theorem seen_fast : @openSeen = PySem.W.Fast.tw4187177175401517315 := PySem.W.Fast.te4187177175401517315
theorem ok_fast : @stepOk = PySem.W.Fast.tw6613529449190102663 := PySem.W.Fast.te6613529449190102663
abbrev LS : List Str := [PySem.Str.ofString "PolynomialRing", PySem.Str.ofString "PolynomialNTT"]
abbrev prg : Program := RowW.prog PySem.Challenge.rw_yi0041_01.row.toRowW
def vw : Program := view prg [0, 2, 3, 5, 6, 7, 9, 10, 11, 12, 13, 14, 15]
def fnParts? : Option Stmt → Option (Arguments × List Stmt × Scope)
  | some (.FunctionDef _ p b _ _ _ s _ _ _) => some (p, b, s)
  | _ => none
def topD (i : Nat) : Option Stmt := prg.main.body[i]?
def inC (i j : Nat) : Option Stmt := match topD i with
  | some (.ClassDef _ _ _ b _ _ _ _ _ _ _) => b[j]?
  | _ => none
noncomputable def KF : Params → Frag := by
  refine (?f : (p35 : PySem.Arguments) → (b35 : List PySem.Stmt) → (s35 : PySem.Scope) → fnParts? (inC 2 0) = some (p35, b35, s35) →
    (p77 : PySem.Arguments) → (b77 : List PySem.Stmt) → (s77 : PySem.Scope) → fnParts? (inC 3 0) = some (p77, b77, s77) →
    (p96 : PySem.Arguments) → (b96 : List PySem.Stmt) → (s96 : PySem.Scope) → fnParts? (inC 3 3) = some (p96, b96, s96) →
    (p238 : PySem.Arguments) → (b238 : List PySem.Stmt) → (s238 : PySem.Scope) → fnParts? (inC 5 0) = some (p238, b238, s238) →
    (p245 : PySem.Arguments) → (b245 : List PySem.Stmt) → (s245 : PySem.Scope) → fnParts? (inC 5 1) = some (p245, b245, s245) →
    (p279 : PySem.Arguments) → (b279 : List PySem.Stmt) → (s279 : PySem.Scope) → fnParts? (inC 5 5) = some (p279, b279, s279) →
    (p298 : PySem.Arguments) → (b298 : List PySem.Stmt) → (s298 : PySem.Scope) → fnParts? (inC 6 0) = some (p298, b298, s298) →
    (p340 : PySem.Arguments) → (b340 : List PySem.Stmt) → (s340 : PySem.Scope) → fnParts? (inC 6 6) = some (p340, b340, s340) →
    (p366 : PySem.Arguments) → (b366 : List PySem.Stmt) → (s366 : PySem.Scope) → fnParts? (inC 7 0) = some (p366, b366, s366) →
    (p433 : PySem.Arguments) → (b433 : List PySem.Stmt) → (s433 : PySem.Scope) → fnParts? (topD 9) = some (p433, b433, s433) →
    (p440 : PySem.Arguments) → (b440 : List PySem.Stmt) → (s440 : PySem.Scope) → fnParts? (topD 10) = some (p440, b440, s440) →
    (p447 : PySem.Arguments) → (b447 : List PySem.Stmt) → (s447 : PySem.Scope) → fnParts? (topD 11) = some (p447, b447, s447) →
    (p454 : PySem.Arguments) → (b454 : List PySem.Stmt) → (s454 : PySem.Scope) → fnParts? (topD 12) = some (p454, b454, s454) →
    (p461 : PySem.Arguments) → (b461 : List PySem.Stmt) → (s461 : PySem.Scope) → fnParts? (topD 13) = some (p461, b461, s461) →
    (p468 : PySem.Arguments) → (b468 : List PySem.Stmt) → (s468 : PySem.Scope) → fnParts? (topD 14) = some (p468, b468, s468) →
    (p475 : PySem.Arguments) → (b475 : List PySem.Stmt) → (s475 : PySem.Scope) → fnParts? (topD 15) = some (p475, b475, s475) →
    Params → Frag) _ _ _ rfl _ _ _ rfl _ _ _ rfl _ _ _ rfl _ _ _ rfl _ _ _ rfl _ _ _ rfl _ _ _ rfl _ _ _ rfl _ _ _ rfl _ _ _ rfl _ _ _ rfl _ _ _ rfl _ _ _ rfl _ _ _ rfl _ _ _ rfl
  exact fun p35 b35 s35 _ p77 b77 s77 _ p96 b96 s96 _ p238 b238 s238 _ p245 b245 s245 _ p279 b279 s279 _ p298 b298 s298 _ p340 b340 s340 _ p366 b366 s366 _ p433 b433 s433 _ p440 b440 s440 _ p447 b447 s447 _ p454 b454 s454 _ p461 b461 s461 _ p468 b468 s468 _ p475 b475 s475 _ => (fun (P : Params) => (
((nat_lit 2), (PySem.Obj.mk PySem.Value.none none (PySem.Data.dict (List.toArray []) 0) (List.toArray []))) ::
((nat_lit 3), (PySem.Obj.mk (PySem.Value.type "dict") none (PySem.Data.dict (List.toArray [(PySem.DictEntry.mk (PySem.PyData.keyHash P (PySem.Str.ofString "__name__")) (PySem.Value.str (PySem.Str.ofString "__name__") 165) (PySem.Value.str (PySem.Str.ofString "law_yi0041_01") 740)), (PySem.DictEntry.mk (PySem.PyData.keyHash P (PySem.Str.ofString "__doc__")) (PySem.Value.str (PySem.Str.ofString "__doc__") 166) PySem.Value.none), (PySem.DictEntry.mk (PySem.PyData.keyHash P (PySem.Str.ofString "__package__")) (PySem.Value.str (PySem.Str.ofString "__package__") 167) PySem.Value.none), (PySem.DictEntry.mk (PySem.PyData.keyHash P (PySem.Str.ofString "__loader__")) (PySem.Value.str (PySem.Str.ofString "__loader__") 168) (PySem.Value.builtin "__main__.__loader__#opaque")), (PySem.DictEntry.mk (PySem.PyData.keyHash P (PySem.Str.ofString "__spec__")) (PySem.Value.str (PySem.Str.ofString "__spec__") 169) PySem.Value.none), (PySem.DictEntry.mk (PySem.PyData.keyHash P (PySem.Str.ofString "__annotations__")) (PySem.Value.str (PySem.Str.ofString "__annotations__") 170) (PySem.Value.ref 6)), (PySem.DictEntry.mk (PySem.PyData.keyHash P (PySem.Str.ofString "__builtins__")) (PySem.Value.str (PySem.Str.ofString "__builtins__") 171) (PySem.Value.ref 4)), (PySem.DictEntry.mk (PySem.PyData.keyHash P (PySem.Str.ofString "__file__")) (PySem.Value.str (PySem.Str.ofString "__file__") 173) (PySem.Value.str (PySem.Str.ofString "/claim/cut.py") 172)), (PySem.DictEntry.mk (PySem.PyData.keyHash P (PySem.Str.ofString "__cached__")) (PySem.Value.str (PySem.Str.ofString "__cached__") 174) PySem.Value.none), (PySem.DictEntry.mk (PySem.PyData.keyHash P (PySem.Str.ofString "_wall")) (PySem.Value.str (PySem.Str.ofString "_wall") 193) (PySem.Value.ref 21)), (PySem.DictEntry.mk (PySem.PyData.keyHash P (PySem.Str.ofString "GenericPolynomialRing")) (PySem.Value.str (PySem.Str.ofString "GenericPolynomialRing") 248) (PySem.Value.ref 59)), (PySem.DictEntry.mk (PySem.PyData.keyHash P (PySem.Str.ofString "GenericPolynomial")) (PySem.Value.str (PySem.Str.ofString "GenericPolynomial") 447) (PySem.Value.ref 222)), (PySem.DictEntry.mk (PySem.PyData.keyHash P (PySem.Str.ofString "PolynomialRing")) (PySem.Value.str (PySem.Str.ofString "PolynomialRing") 533) (PySem.Value.ref 282)), (PySem.DictEntry.mk (PySem.PyData.keyHash P (PySem.Str.ofString "Polynomial")) (PySem.Value.str (PySem.Str.ofString "Polynomial") 624) (PySem.Value.ref 350)), (PySem.DictEntry.mk (PySem.PyData.keyHash P (PySem.Str.ofString "PolynomialNTT")) (PySem.Value.str (PySem.Str.ofString "PolynomialNTT") 739) (PySem.Value.ref 426)), (PySem.DictEntry.mk (PySem.PyData.keyHash P (PySem.Str.ofString "_law_state")) (PySem.Value.str (PySem.Str.ofString "_law_state") 747) (PySem.Value.ref 433)), (PySem.DictEntry.mk (PySem.PyData.keyHash P (PySem.Str.ofString "_law_take")) (PySem.Value.str (PySem.Str.ofString "_law_take") 759) (PySem.Value.ref 440)), (PySem.DictEntry.mk (PySem.PyData.keyHash P (PySem.Str.ofString "_law_terms")) (PySem.Value.str (PySem.Str.ofString "_law_terms") 771) (PySem.Value.ref 447)), (PySem.DictEntry.mk (PySem.PyData.keyHash P (PySem.Str.ofString "_law_row")) (PySem.Value.str (PySem.Str.ofString "_law_row") 780) (PySem.Value.ref 454)), (PySem.DictEntry.mk (PySem.PyData.keyHash P (PySem.Str.ofString "_law_root")) (PySem.Value.str (PySem.Str.ofString "_law_root") 789) (PySem.Value.ref 461)), (PySem.DictEntry.mk (PySem.PyData.keyHash P (PySem.Str.ofString "_law_left")) (PySem.Value.str (PySem.Str.ofString "_law_left") 800) (PySem.Value.ref 468)), (PySem.DictEntry.mk (PySem.PyData.keyHash P (PySem.Str.ofString "law")) (PySem.Value.str (PySem.Str.ofString "law") 812) (PySem.Value.ref 475))]) 22) (List.toArray []))) ::
((nat_lit 34), (PySem.Obj.mk (PySem.Value.type "code") none (PySem.Data.fields (List.toArray [(PySem.Value.str (PySem.Str.ofString "__init__") 208), (PySem.Value.str (PySem.Str.ofString "GenericPolynomialRing.__init__") 209), (PySem.Value.str (PySem.Str.ofString "/claim/cut.py") 210), (PySem.Value.int 7 0), (PySem.Value.int 3 0), (PySem.Value.int 0 0), (PySem.Value.int 0 0), (PySem.Value.int 3 0), (PySem.Value.ref 29), (PySem.Value.bool Bool.true), (PySem.Value.int 181 0), (PySem.Value.ref 30), PySem.Value.none, (PySem.Value.ref 31), (PySem.Value.ref 32), (PySem.Value.ref 33), (PySem.Value.int 214 0), (PySem.Value.int 7 0), (PySem.Value.str (PySem.Str.ofString "/claim/cut.py") 215)])) (List.toArray []))) ::
((nat_lit 35), (PySem.Obj.mk (PySem.Value.type "function") none (PySem.Data.func (PySem.FuncData.mk (PySem.Str.ofString "__init__") (PySem.Str.ofString "GenericPolynomialRing.__init__") p35 (PySem.FuncBody.stmts b35) s35 3 [] PySem.Value.none PySem.Value.none PySem.Value.none (PySem.Value.str (PySem.Str.ofString "kyber_py.polynomials.polynomials_generic") 194) none (PySem.Value.ref 34) PySem.Value.none 0)) (List.toArray []))) ::
((nat_lit 58), (PySem.Obj.mk (PySem.Value.type "dict") none (PySem.Data.dict (List.toArray [(PySem.DictEntry.mk (PySem.PyData.keyHash P (PySem.Str.ofString "__module__")) (PySem.Value.str (PySem.Str.ofString "__module__") 203) (PySem.Value.str (PySem.Str.ofString "kyber_py.polynomials.polynomials_generic") 194)), (PySem.DictEntry.mk (PySem.PyData.keyHash P (PySem.Str.ofString "__firstlineno__")) (PySem.Value.str (PySem.Str.ofString "__firstlineno__") 207) (PySem.Value.int 5 206)), (PySem.DictEntry.mk (PySem.PyData.keyHash P (PySem.Str.ofString "__init__")) (PySem.Value.str (PySem.Str.ofString "__init__") 216) (PySem.Value.ref 35)), (PySem.DictEntry.mk (PySem.PyData.keyHash P (PySem.Str.ofString "zero")) (PySem.Value.str (PySem.Str.ofString "zero") 223) (PySem.Value.ref 42)), (PySem.DictEntry.mk (PySem.PyData.keyHash P (PySem.Str.ofString "gen")) (PySem.Value.str (PySem.Str.ofString "gen") 230) (PySem.Value.ref 49)), (PySem.DictEntry.mk (PySem.PyData.keyHash P (PySem.Str.ofString "__call__")) (PySem.Value.str (PySem.Str.ofString "__call__") 238) (PySem.Value.ref 56)), (PySem.DictEntry.mk (PySem.PyData.keyHash P (PySem.Str.ofString "__static_attributes__")) (PySem.Value.str (PySem.Str.ofString "__static_attributes__") 241) (PySem.Value.ref 57)), (PySem.DictEntry.mk (PySem.PyData.keyHash P (PySem.Str.ofString "__dict__")) (PySem.Value.str (PySem.Str.ofString "__dict__") 243) (PySem.Value.ref 60)), (PySem.DictEntry.mk (PySem.PyData.keyHash P (PySem.Str.ofString "__weakref__")) (PySem.Value.str (PySem.Str.ofString "__weakref__") 245) (PySem.Value.ref 61)), (PySem.DictEntry.mk (PySem.PyData.keyHash P (PySem.Str.ofString "__doc__")) (PySem.Value.str (PySem.Str.ofString "__doc__") 246) PySem.Value.none)]) 4) (List.toArray []))) ::
((nat_lit 59), (PySem.Obj.mk (PySem.Value.type "type") none (PySem.Data.cls (PySem.ClassData.mk (PySem.Str.ofString "GenericPolynomialRing") [(PySem.Value.type "object")] [(PySem.Value.ref 59), (PySem.Value.type "object")] 58 (PySem.Str.ofString "GenericPolynomialRing") Bool.true [] [(PySem.Value.ref 282)] Bool.false none Bool.false)) (List.toArray [none, none, (some (PySem.Value.str (PySem.Str.ofString "GenericPolynomialRing") 196)), (some (PySem.Value.str (PySem.Str.ofString "GenericPolynomialRing") 204)), (some (PySem.Value.builtin "object.__new__")), (some (PySem.Value.bool Bool.true))]))) ::
((nat_lit 60), (PySem.Obj.mk (PySem.Value.type "getset_descriptor") none (PySem.Data.fields (List.toArray [(PySem.Value.str (PySem.Str.ofString "__dict__") 242), (PySem.Value.ref 59), (PySem.Value.builtin "function.__dict__"), (PySem.Value.builtin "function.__dict__#set")])) (List.toArray []))) ::
((nat_lit 61), (PySem.Obj.mk (PySem.Value.type "getset_descriptor") none (PySem.Data.fields (List.toArray [(PySem.Value.str (PySem.Str.ofString "__weakref__") 244), (PySem.Value.ref 59), (PySem.Value.builtin "ExceptionGroup.__weakref__"), PySem.Value.none])) (List.toArray []))) ::
((nat_lit 76), (PySem.Obj.mk (PySem.Value.type "code") none (PySem.Data.fields (List.toArray [(PySem.Value.str (PySem.Str.ofString "__init__") 261), (PySem.Value.str (PySem.Str.ofString "GenericPolynomial.__init__") 262), (PySem.Value.str (PySem.Str.ofString "/claim/cut.py") 263), (PySem.Value.int 25 0), (PySem.Value.int 3 0), (PySem.Value.int 0 0), (PySem.Value.int 0 0), (PySem.Value.int 3 0), (PySem.Value.ref 71), (PySem.Value.bool Bool.true), (PySem.Value.int 181 0), (PySem.Value.ref 72), PySem.Value.none, (PySem.Value.ref 73), (PySem.Value.ref 74), (PySem.Value.ref 75), (PySem.Value.int 267 0), (PySem.Value.int 25 0), (PySem.Value.str (PySem.Str.ofString "/claim/cut.py") 268)])) (List.toArray []))) ::
((nat_lit 77), (PySem.Obj.mk (PySem.Value.type "function") none (PySem.Data.func (PySem.FuncData.mk (PySem.Str.ofString "__init__") (PySem.Str.ofString "GenericPolynomial.__init__") p77 (PySem.FuncBody.stmts b77) s77 3 [] PySem.Value.none PySem.Value.none PySem.Value.none (PySem.Value.str (PySem.Str.ofString "kyber_py.polynomials.polynomials_generic") 194) none (PySem.Value.ref 76) PySem.Value.none 0)) (List.toArray []))) ::
((nat_lit 95), (PySem.Obj.mk (PySem.Value.type "code") none (PySem.Data.fields (List.toArray [(PySem.Value.str (PySem.Str.ofString "_parse_coefficients") 284), (PySem.Value.str (PySem.Str.ofString "GenericPolynomial._parse_coefficients") 285), (PySem.Value.str (PySem.Str.ofString "/claim/cut.py") 286), (PySem.Value.int 35 0), (PySem.Value.int 2 0), (PySem.Value.int 0 0), (PySem.Value.int 0 0), (PySem.Value.int 3 0), (PySem.Value.ref 92), (PySem.Value.bool Bool.true), (PySem.Value.int 181 0), (PySem.Value.ref 93), PySem.Value.none, PySem.Value.none, PySem.Value.none, (PySem.Value.ref 94), (PySem.Value.int 287 0), (PySem.Value.int 35 0), (PySem.Value.str (PySem.Str.ofString "/claim/cut.py") 288)])) (List.toArray []))) ::
((nat_lit 96), (PySem.Obj.mk (PySem.Value.type "function") none (PySem.Data.func (PySem.FuncData.mk (PySem.Str.ofString "_parse_coefficients") (PySem.Str.ofString "GenericPolynomial._parse_coefficients") p96 (PySem.FuncBody.stmts b96) s96 3 [] PySem.Value.none PySem.Value.none PySem.Value.none (PySem.Value.str (PySem.Str.ofString "kyber_py.polynomials.polynomials_generic") 194) none (PySem.Value.ref 95) PySem.Value.none 0)) (List.toArray []))) ::
((nat_lit 221), (PySem.Obj.mk (PySem.Value.type "dict") none (PySem.Data.dict (List.toArray [(PySem.DictEntry.mk (PySem.PyData.keyHash P (PySem.Str.ofString "__module__")) (PySem.Value.str (PySem.Str.ofString "__module__") 256) (PySem.Value.str (PySem.Str.ofString "kyber_py.polynomials.polynomials_generic") 194)), (PySem.DictEntry.mk (PySem.PyData.keyHash P (PySem.Str.ofString "__firstlineno__")) (PySem.Value.str (PySem.Str.ofString "__firstlineno__") 260) (PySem.Value.int 23 259)), (PySem.DictEntry.mk (PySem.PyData.keyHash P (PySem.Str.ofString "__init__")) (PySem.Value.str (PySem.Str.ofString "__init__") 269) (PySem.Value.ref 77)), (PySem.DictEntry.mk (PySem.PyData.keyHash P (PySem.Str.ofString "is_zero")) (PySem.Value.str (PySem.Str.ofString "is_zero") 276) (PySem.Value.ref 84)), (PySem.DictEntry.mk (PySem.PyData.keyHash P (PySem.Str.ofString "is_constant")) (PySem.Value.str (PySem.Str.ofString "is_constant") 283) (PySem.Value.ref 91)), (PySem.DictEntry.mk (PySem.PyData.keyHash P (PySem.Str.ofString "_parse_coefficients")) (PySem.Value.str (PySem.Str.ofString "_parse_coefficients") 289) (PySem.Value.ref 96)), (PySem.DictEntry.mk (PySem.PyData.keyHash P (PySem.Str.ofString "reduce_coefficients")) (PySem.Value.str (PySem.Str.ofString "reduce_coefficients") 296) (PySem.Value.ref 103)), (PySem.DictEntry.mk (PySem.PyData.keyHash P (PySem.Str.ofString "_add_mod_q")) (PySem.Value.str (PySem.Str.ofString "_add_mod_q") 305) (PySem.Value.ref 110)), (PySem.DictEntry.mk (PySem.PyData.keyHash P (PySem.Str.ofString "_sub_mod_q")) (PySem.Value.str (PySem.Str.ofString "_sub_mod_q") 314) (PySem.Value.ref 117)), (PySem.DictEntry.mk (PySem.PyData.keyHash P (PySem.Str.ofString "_schoolbook_multiplication")) (PySem.Value.str (PySem.Str.ofString "_schoolbook_multiplication") 320) (PySem.Value.ref 122)), (PySem.DictEntry.mk (PySem.PyData.keyHash P (PySem.Str.ofString "__neg__")) (PySem.Value.str (PySem.Str.ofString "__neg__") 326) (PySem.Value.ref 127)), (PySem.DictEntry.mk (PySem.PyData.keyHash P (PySem.Str.ofString "_add_")) (PySem.Value.str (PySem.Str.ofString "_add_") 332) (PySem.Value.ref 132)), (PySem.DictEntry.mk (PySem.PyData.keyHash P (PySem.Str.ofString "__add__")) (PySem.Value.str (PySem.Str.ofString "__add__") 341) (PySem.Value.ref 139)), (PySem.DictEntry.mk (PySem.PyData.keyHash P (PySem.Str.ofString "__radd__")) (PySem.Value.str (PySem.Str.ofString "__radd__") 349) (PySem.Value.ref 146)), (PySem.DictEntry.mk (PySem.PyData.keyHash P (PySem.Str.ofString "__iadd__")) (PySem.Value.str (PySem.Str.ofString "__iadd__") 357) (PySem.Value.ref 153)), (PySem.DictEntry.mk (PySem.PyData.keyHash P (PySem.Str.ofString "_sub_")) (PySem.Value.str (PySem.Str.ofString "_sub_") 363) (PySem.Value.ref 158)), (PySem.DictEntry.mk (PySem.PyData.keyHash P (PySem.Str.ofString "__sub__")) (PySem.Value.str (PySem.Str.ofString "__sub__") 372) (PySem.Value.ref 165)), (PySem.DictEntry.mk (PySem.PyData.keyHash P (PySem.Str.ofString "__rsub__")) (PySem.Value.str (PySem.Str.ofString "__rsub__") 380) (PySem.Value.ref 172)), (PySem.DictEntry.mk (PySem.PyData.keyHash P (PySem.Str.ofString "__isub__")) (PySem.Value.str (PySem.Str.ofString "__isub__") 388) (PySem.Value.ref 179)), (PySem.DictEntry.mk (PySem.PyData.keyHash P (PySem.Str.ofString "__mul__")) (PySem.Value.str (PySem.Str.ofString "__mul__") 394) (PySem.Value.ref 184)), (PySem.DictEntry.mk (PySem.PyData.keyHash P (PySem.Str.ofString "__rmul__")) (PySem.Value.str (PySem.Str.ofString "__rmul__") 402) (PySem.Value.ref 191)), (PySem.DictEntry.mk (PySem.PyData.keyHash P (PySem.Str.ofString "__imul__")) (PySem.Value.str (PySem.Str.ofString "__imul__") 410) (PySem.Value.ref 198)), (PySem.DictEntry.mk (PySem.PyData.keyHash P (PySem.Str.ofString "__pow__")) (PySem.Value.str (PySem.Str.ofString "__pow__") 420) (PySem.Value.ref 205)), (PySem.DictEntry.mk (PySem.PyData.keyHash P (PySem.Str.ofString "__eq__")) (PySem.Value.str (PySem.Str.ofString "__eq__") 428) (PySem.Value.ref 212)), (PySem.DictEntry.mk (PySem.PyData.keyHash P (PySem.Str.ofString "__getitem__")) (PySem.Value.str (PySem.Str.ofString "__getitem__") 436) (PySem.Value.ref 219)), (PySem.DictEntry.mk (PySem.PyData.keyHash P (PySem.Str.ofString "__static_attributes__")) (PySem.Value.str (PySem.Str.ofString "__static_attributes__") 439) (PySem.Value.ref 220)), (PySem.DictEntry.mk (PySem.PyData.keyHash P (PySem.Str.ofString "__dict__")) (PySem.Value.str (PySem.Str.ofString "__dict__") 441) (PySem.Value.ref 223)), (PySem.DictEntry.mk (PySem.PyData.keyHash P (PySem.Str.ofString "__weakref__")) (PySem.Value.str (PySem.Str.ofString "__weakref__") 443) (PySem.Value.ref 224)), (PySem.DictEntry.mk (PySem.PyData.keyHash P (PySem.Str.ofString "__doc__")) (PySem.Value.str (PySem.Str.ofString "__doc__") 444) PySem.Value.none), (PySem.DictEntry.mk (PySem.PyData.keyHash P (PySem.Str.ofString "__hash__")) (PySem.Value.str (PySem.Str.ofString "__hash__") 445) PySem.Value.none)]) 5) (List.toArray []))) ::
((nat_lit 222), (PySem.Obj.mk (PySem.Value.type "type") none (PySem.Data.cls (PySem.ClassData.mk (PySem.Str.ofString "GenericPolynomial") [(PySem.Value.type "object")] [(PySem.Value.ref 222), (PySem.Value.type "object")] 221 (PySem.Str.ofString "GenericPolynomial") Bool.true [] [(PySem.Value.ref 350)] Bool.false none Bool.false)) (List.toArray [none, none, (some (PySem.Value.str (PySem.Str.ofString "GenericPolynomial") 249)), (some (PySem.Value.str (PySem.Str.ofString "GenericPolynomial") 257)), (some (PySem.Value.builtin "object.__new__")), (some (PySem.Value.bool Bool.true))]))) ::
((nat_lit 223), (PySem.Obj.mk (PySem.Value.type "getset_descriptor") none (PySem.Data.fields (List.toArray [(PySem.Value.str (PySem.Str.ofString "__dict__") 440), (PySem.Value.ref 222), (PySem.Value.builtin "function.__dict__"), (PySem.Value.builtin "function.__dict__#set")])) (List.toArray []))) ::
((nat_lit 224), (PySem.Obj.mk (PySem.Value.type "getset_descriptor") none (PySem.Data.fields (List.toArray [(PySem.Value.str (PySem.Str.ofString "__weakref__") 442), (PySem.Value.ref 222), (PySem.Value.builtin "ExceptionGroup.__weakref__"), PySem.Value.none])) (List.toArray []))) ::
((nat_lit 237), (PySem.Obj.mk (PySem.Value.type "code") none (PySem.Data.fields (List.toArray [(PySem.Value.str (PySem.Str.ofString "__init__") 462), (PySem.Value.str (PySem.Str.ofString "PolynomialRing.__init__") 463), (PySem.Value.str (PySem.Str.ofString "/claim/cut.py") 464), (PySem.Value.int 154 0), (PySem.Value.int 1 0), (PySem.Value.int 0 0), (PySem.Value.int 0 0), (PySem.Value.int 3 0), (PySem.Value.ref 234), (PySem.Value.bool Bool.true), (PySem.Value.int 181 0), (PySem.Value.ref 235), PySem.Value.none, PySem.Value.none, PySem.Value.none, (PySem.Value.ref 236), (PySem.Value.int 465 0), (PySem.Value.int 154 0), (PySem.Value.str (PySem.Str.ofString "/claim/cut.py") 466)])) (List.toArray []))) ::
((nat_lit 238), (PySem.Obj.mk (PySem.Value.type "function") none (PySem.Data.func (PySem.FuncData.mk (PySem.Str.ofString "__init__") (PySem.Str.ofString "PolynomialRing.__init__") p238 (PySem.FuncBody.stmts b238) s238 3 [] PySem.Value.none PySem.Value.none PySem.Value.none (PySem.Value.str (PySem.Str.ofString "kyber_py.polynomials.polynomials") 448) none (PySem.Value.ref 237) PySem.Value.none 0)) (List.toArray []))) ::
((nat_lit 244), (PySem.Obj.mk (PySem.Value.type "code") none (PySem.Data.fields (List.toArray [(PySem.Value.str (PySem.Str.ofString "_br") 468), (PySem.Value.str (PySem.Str.ofString "PolynomialRing._br") 469), (PySem.Value.str (PySem.Str.ofString "/claim/cut.py") 470), (PySem.Value.int 161 0), (PySem.Value.int 2 0), (PySem.Value.int 0 0), (PySem.Value.int 0 0), (PySem.Value.int 3 0), (PySem.Value.ref 239), (PySem.Value.bool Bool.true), (PySem.Value.int 181 0), (PySem.Value.ref 240), PySem.Value.none, (PySem.Value.ref 241), (PySem.Value.ref 242), (PySem.Value.ref 243), (PySem.Value.int 474 0), (PySem.Value.int 161 0), (PySem.Value.str (PySem.Str.ofString "/claim/cut.py") 475)])) (List.toArray []))) ::
((nat_lit 245), (PySem.Obj.mk (PySem.Value.type "function") none (PySem.Data.func (PySem.FuncData.mk (PySem.Str.ofString "_br") (PySem.Str.ofString "PolynomialRing._br") p245 (PySem.FuncBody.stmts b245) s245 3 [] PySem.Value.none PySem.Value.none PySem.Value.none (PySem.Value.str (PySem.Str.ofString "kyber_py.polynomials.polynomials") 448) (some 248) (PySem.Value.ref 244) PySem.Value.none 0)) (List.toArray []))) ::
((nat_lit 246), (PySem.Obj.mk (PySem.Value.type "dict") none (PySem.Data.dict (List.toArray [(PySem.DictEntry.mk (PySem.PyData.keyHash P (PySem.Str.ofString "__module__")) (PySem.Value.str (PySem.Str.ofString "__module__") 477) (PySem.Value.str (PySem.Str.ofString "kyber_py.polynomials.polynomials") 448)), (PySem.DictEntry.mk (PySem.PyData.keyHash P (PySem.Str.ofString "__name__")) (PySem.Value.str (PySem.Str.ofString "__name__") 480) (PySem.Value.str (PySem.Str.ofString "_br") 479)), (PySem.DictEntry.mk (PySem.PyData.keyHash P (PySem.Str.ofString "__qualname__")) (PySem.Value.str (PySem.Str.ofString "__qualname__") 483) (PySem.Value.str (PySem.Str.ofString "PolynomialRing._br") 482)), (PySem.DictEntry.mk (PySem.PyData.keyHash P (PySem.Str.ofString "__doc__")) (PySem.Value.str (PySem.Str.ofString "__doc__") 485) PySem.Value.none), (PySem.DictEntry.mk (PySem.PyData.keyHash P (PySem.Str.ofString "__annotations__")) (PySem.Value.str (PySem.Str.ofString "__annotations__") 487) (PySem.Value.ref 248))]) 5) (List.toArray []))) ::
((nat_lit 247), (PySem.Obj.mk (PySem.Value.type "staticmethod") (some 246) (PySem.Data.fields (List.toArray [(PySem.Value.ref 245), (PySem.Value.bool Bool.false)])) (List.toArray []))) ::
((nat_lit 248), (PySem.Obj.mk (PySem.Value.type "dict") none (PySem.Data.dict (List.toArray []) 0) (List.toArray []))) ::
((nat_lit 272), (PySem.Obj.mk (PySem.Value.type "tuple") none (PySem.Data.seq (List.toArray [(PySem.Value.bool Bool.false)]) 0) (List.toArray []))) ::
((nat_lit 278), (PySem.Obj.mk (PySem.Value.type "code") none (PySem.Data.fields (List.toArray [(PySem.Value.str (PySem.Str.ofString "__call__") 517), (PySem.Value.str (PySem.Str.ofString "PolynomialRing.__call__") 518), (PySem.Value.str (PySem.Str.ofString "/claim/cut.py") 519), (PySem.Value.int 175 0), (PySem.Value.int 3 0), (PySem.Value.int 0 0), (PySem.Value.int 0 0), (PySem.Value.int 3 0), (PySem.Value.ref 273), (PySem.Value.bool Bool.true), (PySem.Value.int 181 0), (PySem.Value.ref 274), PySem.Value.none, (PySem.Value.ref 275), (PySem.Value.ref 276), (PySem.Value.ref 277), (PySem.Value.int 523 0), (PySem.Value.int 175 0), (PySem.Value.str (PySem.Str.ofString "/claim/cut.py") 524)])) (List.toArray []))) ::
((nat_lit 279), (PySem.Obj.mk (PySem.Value.type "function") none (PySem.Data.func (PySem.FuncData.mk (PySem.Str.ofString "__call__") (PySem.Str.ofString "PolynomialRing.__call__") p279 (PySem.FuncBody.stmts b279) s279 3 [] (PySem.Value.ref 272) PySem.Value.none PySem.Value.none (PySem.Value.str (PySem.Str.ofString "kyber_py.polynomials.polynomials") 448) none (PySem.Value.ref 278) PySem.Value.none 0)) (List.toArray []))) ::
((nat_lit 281), (PySem.Obj.mk (PySem.Value.type "dict") none (PySem.Data.dict (List.toArray [(PySem.DictEntry.mk (PySem.PyData.keyHash P (PySem.Str.ofString "__module__")) (PySem.Value.str (PySem.Str.ofString "__module__") 457) (PySem.Value.str (PySem.Str.ofString "kyber_py.polynomials.polynomials") 448)), (PySem.DictEntry.mk (PySem.PyData.keyHash P (PySem.Str.ofString "__firstlineno__")) (PySem.Value.str (PySem.Str.ofString "__firstlineno__") 461) (PySem.Value.int 152 460)), (PySem.DictEntry.mk (PySem.PyData.keyHash P (PySem.Str.ofString "__init__")) (PySem.Value.str (PySem.Str.ofString "__init__") 467) (PySem.Value.ref 238)), (PySem.DictEntry.mk (PySem.PyData.keyHash P (PySem.Str.ofString "_br")) (PySem.Value.str (PySem.Str.ofString "_br") 488) (PySem.Value.ref 247)), (PySem.DictEntry.mk (PySem.PyData.keyHash P (PySem.Str.ofString "ntt_sample")) (PySem.Value.str (PySem.Str.ofString "ntt_sample") 496) (PySem.Value.ref 255)), (PySem.DictEntry.mk (PySem.PyData.keyHash P (PySem.Str.ofString "cbd")) (PySem.Value.str (PySem.Str.ofString "cbd") 506) (PySem.Value.ref 263)), (PySem.DictEntry.mk (PySem.PyData.keyHash P (PySem.Str.ofString "decode")) (PySem.Value.str (PySem.Str.ofString "decode") 516) (PySem.Value.ref 271)), (PySem.DictEntry.mk (PySem.PyData.keyHash P (PySem.Str.ofString "__call__")) (PySem.Value.str (PySem.Str.ofString "__call__") 525) (PySem.Value.ref 279)), (PySem.DictEntry.mk (PySem.PyData.keyHash P (PySem.Str.ofString "__static_attributes__")) (PySem.Value.str (PySem.Str.ofString "__static_attributes__") 530) (PySem.Value.ref 280)), (PySem.DictEntry.mk (PySem.PyData.keyHash P (PySem.Str.ofString "__doc__")) (PySem.Value.str (PySem.Str.ofString "__doc__") 531) PySem.Value.none)]) 2) (List.toArray []))) ::
((nat_lit 282), (PySem.Obj.mk (PySem.Value.type "type") none (PySem.Data.cls (PySem.ClassData.mk (PySem.Str.ofString "PolynomialRing") [(PySem.Value.ref 59)] [(PySem.Value.ref 282), (PySem.Value.ref 59), (PySem.Value.type "object")] 281 (PySem.Str.ofString "PolynomialRing") Bool.true [] [] Bool.false none Bool.false)) (List.toArray [(some (PySem.Value.ref 227)), none, (some (PySem.Value.str (PySem.Str.ofString "PolynomialRing") 450)), (some (PySem.Value.str (PySem.Str.ofString "PolynomialRing") 458)), (some (PySem.Value.builtin "object.__new__")), (some (PySem.Value.bool Bool.true))]))) ::
((nat_lit 297), (PySem.Obj.mk (PySem.Value.type "code") none (PySem.Data.fields (List.toArray [(PySem.Value.str (PySem.Str.ofString "__init__") 546), (PySem.Value.str (PySem.Str.ofString "Polynomial.__init__") 547), (PySem.Value.str (PySem.Str.ofString "/claim/cut.py") 548), (PySem.Value.int 185 0), (PySem.Value.int 3 0), (PySem.Value.int 0 0), (PySem.Value.int 0 0), (PySem.Value.int 3 0), (PySem.Value.ref 292), (PySem.Value.bool Bool.true), (PySem.Value.int 181 0), (PySem.Value.ref 293), PySem.Value.none, (PySem.Value.ref 294), (PySem.Value.ref 295), (PySem.Value.ref 296), (PySem.Value.int 552 0), (PySem.Value.int 185 0), (PySem.Value.str (PySem.Str.ofString "/claim/cut.py") 553)])) (List.toArray []))) ::
((nat_lit 298), (PySem.Obj.mk (PySem.Value.type "function") none (PySem.Data.func (PySem.FuncData.mk (PySem.Str.ofString "__init__") (PySem.Str.ofString "Polynomial.__init__") p298 (PySem.FuncBody.stmts b298) s298 3 [] PySem.Value.none PySem.Value.none PySem.Value.none (PySem.Value.str (PySem.Str.ofString "kyber_py.polynomials.polynomials") 448) none (PySem.Value.ref 297) PySem.Value.none 0)) (List.toArray []))) ::
((nat_lit 339), (PySem.Obj.mk (PySem.Value.type "code") none (PySem.Data.fields (List.toArray [(PySem.Value.str (PySem.Str.ofString "to_ntt") 597), (PySem.Value.str (PySem.Str.ofString "Polynomial.to_ntt") 598), (PySem.Value.str (PySem.Str.ofString "/claim/cut.py") 599), (PySem.Value.int 204 0), (PySem.Value.int 1 0), (PySem.Value.int 0 0), (PySem.Value.int 0 0), (PySem.Value.int 3 0), (PySem.Value.ref 334), (PySem.Value.bool Bool.true), (PySem.Value.int 181 0), (PySem.Value.ref 335), PySem.Value.none, (PySem.Value.ref 336), (PySem.Value.ref 337), (PySem.Value.ref 338), (PySem.Value.int 609 0), (PySem.Value.int 204 0), (PySem.Value.str (PySem.Str.ofString "/claim/cut.py") 610)])) (List.toArray []))) ::
((nat_lit 340), (PySem.Obj.mk (PySem.Value.type "function") none (PySem.Data.func (PySem.FuncData.mk (PySem.Str.ofString "to_ntt") (PySem.Str.ofString "Polynomial.to_ntt") p340 (PySem.FuncBody.stmts b340) s340 3 [] PySem.Value.none PySem.Value.none PySem.Value.none (PySem.Value.str (PySem.Str.ofString "kyber_py.polynomials.polynomials") 448) none (PySem.Value.ref 339) PySem.Value.none 0)) (List.toArray []))) ::
((nat_lit 349), (PySem.Obj.mk (PySem.Value.type "dict") none (PySem.Data.dict (List.toArray [(PySem.DictEntry.mk (PySem.PyData.keyHash P (PySem.Str.ofString "__module__")) (PySem.Value.str (PySem.Str.ofString "__module__") 541) (PySem.Value.str (PySem.Str.ofString "kyber_py.polynomials.polynomials") 448)), (PySem.DictEntry.mk (PySem.PyData.keyHash P (PySem.Str.ofString "__firstlineno__")) (PySem.Value.str (PySem.Str.ofString "__firstlineno__") 545) (PySem.Value.int 183 544)), (PySem.DictEntry.mk (PySem.PyData.keyHash P (PySem.Str.ofString "__init__")) (PySem.Value.str (PySem.Str.ofString "__init__") 554) (PySem.Value.ref 298)), (PySem.DictEntry.mk (PySem.PyData.keyHash P (PySem.Str.ofString "encode")) (PySem.Value.str (PySem.Str.ofString "encode") 562) (PySem.Value.ref 305)), (PySem.DictEntry.mk (PySem.PyData.keyHash P (PySem.Str.ofString "_compress_ele")) (PySem.Value.str (PySem.Str.ofString "_compress_ele") 571) (PySem.Value.ref 312)), (PySem.DictEntry.mk (PySem.PyData.keyHash P (PySem.Str.ofString "_decompress_ele")) (PySem.Value.str (PySem.Str.ofString "_decompress_ele") 580) (PySem.Value.ref 319)), (PySem.DictEntry.mk (PySem.PyData.keyHash P (PySem.Str.ofString "compress")) (PySem.Value.str (PySem.Str.ofString "compress") 588) (PySem.Value.ref 326)), (PySem.DictEntry.mk (PySem.PyData.keyHash P (PySem.Str.ofString "decompress")) (PySem.Value.str (PySem.Str.ofString "decompress") 596) (PySem.Value.ref 333)), (PySem.DictEntry.mk (PySem.PyData.keyHash P (PySem.Str.ofString "to_ntt")) (PySem.Value.str (PySem.Str.ofString "to_ntt") 611) (PySem.Value.ref 340)), (PySem.DictEntry.mk (PySem.PyData.keyHash P (PySem.Str.ofString "from_ntt")) (PySem.Value.str (PySem.Str.ofString "from_ntt") 618) (PySem.Value.ref 347)), (PySem.DictEntry.mk (PySem.PyData.keyHash P (PySem.Str.ofString "__static_attributes__")) (PySem.Value.str (PySem.Str.ofString "__static_attributes__") 621) (PySem.Value.ref 348)), (PySem.DictEntry.mk (PySem.PyData.keyHash P (PySem.Str.ofString "__doc__")) (PySem.Value.str (PySem.Str.ofString "__doc__") 622) PySem.Value.none)]) 2) (List.toArray []))) ::
((nat_lit 350), (PySem.Obj.mk (PySem.Value.type "type") none (PySem.Data.cls (PySem.ClassData.mk (PySem.Str.ofString "Polynomial") [(PySem.Value.ref 222)] [(PySem.Value.ref 350), (PySem.Value.ref 222), (PySem.Value.type "object")] 349 (PySem.Str.ofString "Polynomial") Bool.true [] [(PySem.Value.ref 426)] Bool.false none Bool.false)) (List.toArray [(some (PySem.Value.ref 285)), none, (some (PySem.Value.str (PySem.Str.ofString "Polynomial") 534)), (some (PySem.Value.str (PySem.Str.ofString "Polynomial") 542)), (some (PySem.Value.builtin "object.__new__")), (some (PySem.Value.bool Bool.true))]))) ::
((nat_lit 365), (PySem.Obj.mk (PySem.Value.type "code") none (PySem.Data.fields (List.toArray [(PySem.Value.str (PySem.Str.ofString "__init__") 637), (PySem.Value.str (PySem.Str.ofString "PolynomialNTT.__init__") 638), (PySem.Value.str (PySem.Str.ofString "/claim/cut.py") 639), (PySem.Value.int 228 0), (PySem.Value.int 3 0), (PySem.Value.int 0 0), (PySem.Value.int 0 0), (PySem.Value.int 3 0), (PySem.Value.ref 360), (PySem.Value.bool Bool.true), (PySem.Value.int 181 0), (PySem.Value.ref 361), PySem.Value.none, (PySem.Value.ref 362), (PySem.Value.ref 363), (PySem.Value.ref 364), (PySem.Value.int 643 0), (PySem.Value.int 228 0), (PySem.Value.str (PySem.Str.ofString "/claim/cut.py") 644)])) (List.toArray []))) ::
((nat_lit 366), (PySem.Obj.mk (PySem.Value.type "function") none (PySem.Data.func (PySem.FuncData.mk (PySem.Str.ofString "__init__") (PySem.Str.ofString "PolynomialNTT.__init__") p366 (PySem.FuncBody.stmts b366) s366 3 [] PySem.Value.none PySem.Value.none PySem.Value.none (PySem.Value.str (PySem.Str.ofString "kyber_py.polynomials.polynomials") 448) none (PySem.Value.ref 365) PySem.Value.none 0)) (List.toArray []))) ::
((nat_lit 388), (PySem.Obj.mk (PySem.Value.type "dict") none (PySem.Data.dict (List.toArray [(PySem.DictEntry.mk (PySem.PyData.keyHash P (PySem.Str.ofString "__module__")) (PySem.Value.str (PySem.Str.ofString "__module__") 673) (PySem.Value.str (PySem.Str.ofString "kyber_py.polynomials.polynomials") 448)), (PySem.DictEntry.mk (PySem.PyData.keyHash P (PySem.Str.ofString "__name__")) (PySem.Value.str (PySem.Str.ofString "__name__") 676) (PySem.Value.str (PySem.Str.ofString "_ntt_base_multiplication") 675)), (PySem.DictEntry.mk (PySem.PyData.keyHash P (PySem.Str.ofString "__qualname__")) (PySem.Value.str (PySem.Str.ofString "__qualname__") 679) (PySem.Value.str (PySem.Str.ofString "PolynomialNTT._ntt_base_multiplication") 678)), (PySem.DictEntry.mk (PySem.PyData.keyHash P (PySem.Str.ofString "__doc__")) (PySem.Value.str (PySem.Str.ofString "__doc__") 681) PySem.Value.none), (PySem.DictEntry.mk (PySem.PyData.keyHash P (PySem.Str.ofString "__annotations__")) (PySem.Value.str (PySem.Str.ofString "__annotations__") 683) (PySem.Value.ref 390))]) 5) (List.toArray []))) ::
((nat_lit 389), (PySem.Obj.mk (PySem.Value.type "staticmethod") (some 388) (PySem.Data.fields (List.toArray [(PySem.Value.ref 387), (PySem.Value.bool Bool.false)])) (List.toArray []))) ::
((nat_lit 390), (PySem.Obj.mk (PySem.Value.type "dict") none (PySem.Data.dict (List.toArray []) 0) (List.toArray []))) ::
((nat_lit 425), (PySem.Obj.mk (PySem.Value.type "dict") none (PySem.Data.dict (List.toArray [(PySem.DictEntry.mk (PySem.PyData.keyHash P (PySem.Str.ofString "__module__")) (PySem.Value.str (PySem.Str.ofString "__module__") 632) (PySem.Value.str (PySem.Str.ofString "kyber_py.polynomials.polynomials") 448)), (PySem.DictEntry.mk (PySem.PyData.keyHash P (PySem.Str.ofString "__firstlineno__")) (PySem.Value.str (PySem.Str.ofString "__firstlineno__") 636) (PySem.Value.int 226 635)), (PySem.DictEntry.mk (PySem.PyData.keyHash P (PySem.Str.ofString "__init__")) (PySem.Value.str (PySem.Str.ofString "__init__") 645) (PySem.Value.ref 366)), (PySem.DictEntry.mk (PySem.PyData.keyHash P (PySem.Str.ofString "to_ntt")) (PySem.Value.str (PySem.Str.ofString "to_ntt") 652) (PySem.Value.ref 373)), (PySem.DictEntry.mk (PySem.PyData.keyHash P (PySem.Str.ofString "from_ntt")) (PySem.Value.str (PySem.Str.ofString "from_ntt") 659) (PySem.Value.ref 380)), (PySem.DictEntry.mk (PySem.PyData.keyHash P (PySem.Str.ofString "_ntt_base_multiplication")) (PySem.Value.str (PySem.Str.ofString "_ntt_base_multiplication") 684) (PySem.Value.ref 389)), (PySem.DictEntry.mk (PySem.PyData.keyHash P (PySem.Str.ofString "_ntt_coefficient_multiplication")) (PySem.Value.str (PySem.Str.ofString "_ntt_coefficient_multiplication") 700) (PySem.Value.ref 397)), (PySem.DictEntry.mk (PySem.PyData.keyHash P (PySem.Str.ofString "_ntt_multiplication")) (PySem.Value.str (PySem.Str.ofString "_ntt_multiplication") 709) (PySem.Value.ref 404)), (PySem.DictEntry.mk (PySem.PyData.keyHash P (PySem.Str.ofString "__add__")) (PySem.Value.str (PySem.Str.ofString "__add__") 718) (PySem.Value.ref 411)), (PySem.DictEntry.mk (PySem.PyData.keyHash P (PySem.Str.ofString "__sub__")) (PySem.Value.str (PySem.Str.ofString "__sub__") 727) (PySem.Value.ref 418)), (PySem.DictEntry.mk (PySem.PyData.keyHash P (PySem.Str.ofString "__mul__")) (PySem.Value.str (PySem.Str.ofString "__mul__") 733) (PySem.Value.ref 423)), (PySem.DictEntry.mk (PySem.PyData.keyHash P (PySem.Str.ofString "__static_attributes__")) (PySem.Value.str (PySem.Str.ofString "__static_attributes__") 736) (PySem.Value.ref 424)), (PySem.DictEntry.mk (PySem.PyData.keyHash P (PySem.Str.ofString "__doc__")) (PySem.Value.str (PySem.Str.ofString "__doc__") 737) PySem.Value.none)]) 2) (List.toArray []))) ::
((nat_lit 426), (PySem.Obj.mk (PySem.Value.type "type") none (PySem.Data.cls (PySem.ClassData.mk (PySem.Str.ofString "PolynomialNTT") [(PySem.Value.ref 350)] [(PySem.Value.ref 426), (PySem.Value.ref 350), (PySem.Value.ref 222), (PySem.Value.type "object")] 425 (PySem.Str.ofString "PolynomialNTT") Bool.true [] [] Bool.false none Bool.false)) (List.toArray [(some (PySem.Value.ref 353)), none, (some (PySem.Value.str (PySem.Str.ofString "PolynomialNTT") 625)), (some (PySem.Value.str (PySem.Str.ofString "PolynomialNTT") 633)), (some (PySem.Value.builtin "object.__new__")), (some (PySem.Value.bool Bool.true))]))) ::
((nat_lit 432), (PySem.Obj.mk (PySem.Value.type "code") none (PySem.Data.fields (List.toArray [(PySem.Value.str (PySem.Str.ofString "_law_state") 742), (PySem.Value.str (PySem.Str.ofString "_law_state") 743), (PySem.Value.str (PySem.Str.ofString "/claim/cut.py") 744), (PySem.Value.int 274 0), (PySem.Value.int 1 0), (PySem.Value.int 0 0), (PySem.Value.int 0 0), (PySem.Value.int 3 0), (PySem.Value.ref 429), (PySem.Value.bool Bool.true), (PySem.Value.int 181 0), (PySem.Value.ref 430), PySem.Value.none, PySem.Value.none, PySem.Value.none, (PySem.Value.ref 431), (PySem.Value.int 745 0), (PySem.Value.int 274 0), (PySem.Value.str (PySem.Str.ofString "/claim/cut.py") 746)])) (List.toArray []))) ::
((nat_lit 433), (PySem.Obj.mk (PySem.Value.type "function") none (PySem.Data.func (PySem.FuncData.mk (PySem.Str.ofString "_law_state") (PySem.Str.ofString "_law_state") p433 (PySem.FuncBody.stmts b433) s433 3 [] PySem.Value.none PySem.Value.none PySem.Value.none (PySem.Value.str (PySem.Str.ofString "law_yi0041_01") 740) none (PySem.Value.ref 432) PySem.Value.none 0)) (List.toArray []))) ::
((nat_lit 439), (PySem.Obj.mk (PySem.Value.type "code") none (PySem.Data.fields (List.toArray [(PySem.Value.str (PySem.Str.ofString "_law_take") 748), (PySem.Value.str (PySem.Str.ofString "_law_take") 749), (PySem.Value.str (PySem.Str.ofString "/claim/cut.py") 750), (PySem.Value.int 279 0), (PySem.Value.int 2 0), (PySem.Value.int 0 0), (PySem.Value.int 0 0), (PySem.Value.int 3 0), (PySem.Value.ref 434), (PySem.Value.bool Bool.true), (PySem.Value.int 181 0), (PySem.Value.ref 435), PySem.Value.none, (PySem.Value.ref 436), (PySem.Value.ref 437), (PySem.Value.ref 438), (PySem.Value.int 757 0), (PySem.Value.int 279 0), (PySem.Value.str (PySem.Str.ofString "/claim/cut.py") 758)])) (List.toArray []))) ::
((nat_lit 440), (PySem.Obj.mk (PySem.Value.type "function") none (PySem.Data.func (PySem.FuncData.mk (PySem.Str.ofString "_law_take") (PySem.Str.ofString "_law_take") p440 (PySem.FuncBody.stmts b440) s440 3 [] PySem.Value.none PySem.Value.none PySem.Value.none (PySem.Value.str (PySem.Str.ofString "law_yi0041_01") 740) none (PySem.Value.ref 439) PySem.Value.none 0)) (List.toArray []))) ::
((nat_lit 446), (PySem.Obj.mk (PySem.Value.type "code") none (PySem.Data.fields (List.toArray [(PySem.Value.str (PySem.Str.ofString "_law_terms") 760), (PySem.Value.str (PySem.Str.ofString "_law_terms") 761), (PySem.Value.str (PySem.Str.ofString "/claim/cut.py") 762), (PySem.Value.int 290 0), (PySem.Value.int 2 0), (PySem.Value.int 0 0), (PySem.Value.int 0 0), (PySem.Value.int 3 0), (PySem.Value.ref 441), (PySem.Value.bool Bool.true), (PySem.Value.int 181 0), (PySem.Value.ref 442), PySem.Value.none, (PySem.Value.ref 443), (PySem.Value.ref 444), (PySem.Value.ref 445), (PySem.Value.int 769 0), (PySem.Value.int 290 0), (PySem.Value.str (PySem.Str.ofString "/claim/cut.py") 770)])) (List.toArray []))) ::
((nat_lit 447), (PySem.Obj.mk (PySem.Value.type "function") none (PySem.Data.func (PySem.FuncData.mk (PySem.Str.ofString "_law_terms") (PySem.Str.ofString "_law_terms") p447 (PySem.FuncBody.stmts b447) s447 3 [] PySem.Value.none PySem.Value.none PySem.Value.none (PySem.Value.str (PySem.Str.ofString "law_yi0041_01") 740) none (PySem.Value.ref 446) PySem.Value.none 0)) (List.toArray []))) ::
((nat_lit 453), (PySem.Obj.mk (PySem.Value.type "code") none (PySem.Data.fields (List.toArray [(PySem.Value.str (PySem.Str.ofString "_law_row") 772), (PySem.Value.str (PySem.Str.ofString "_law_row") 773), (PySem.Value.str (PySem.Str.ofString "/claim/cut.py") 774), (PySem.Value.int 299 0), (PySem.Value.int 1 0), (PySem.Value.int 0 0), (PySem.Value.int 0 0), (PySem.Value.int 3 0), (PySem.Value.ref 448), (PySem.Value.bool Bool.true), (PySem.Value.int 181 0), (PySem.Value.ref 449), PySem.Value.none, (PySem.Value.ref 450), (PySem.Value.ref 451), (PySem.Value.ref 452), (PySem.Value.int 778 0), (PySem.Value.int 299 0), (PySem.Value.str (PySem.Str.ofString "/claim/cut.py") 779)])) (List.toArray []))) ::
((nat_lit 454), (PySem.Obj.mk (PySem.Value.type "function") none (PySem.Data.func (PySem.FuncData.mk (PySem.Str.ofString "_law_row") (PySem.Str.ofString "_law_row") p454 (PySem.FuncBody.stmts b454) s454 3 [] PySem.Value.none PySem.Value.none PySem.Value.none (PySem.Value.str (PySem.Str.ofString "law_yi0041_01") 740) none (PySem.Value.ref 453) PySem.Value.none 0)) (List.toArray []))) ::
((nat_lit 460), (PySem.Obj.mk (PySem.Value.type "code") none (PySem.Data.fields (List.toArray [(PySem.Value.str (PySem.Str.ofString "_law_root") 781), (PySem.Value.str (PySem.Str.ofString "_law_root") 782), (PySem.Value.str (PySem.Str.ofString "/claim/cut.py") 783), (PySem.Value.int 304 0), (PySem.Value.int 1 0), (PySem.Value.int 0 0), (PySem.Value.int 0 0), (PySem.Value.int 3 0), (PySem.Value.ref 455), (PySem.Value.bool Bool.true), (PySem.Value.int 181 0), (PySem.Value.ref 456), PySem.Value.none, (PySem.Value.ref 457), (PySem.Value.ref 458), (PySem.Value.ref 459), (PySem.Value.int 787 0), (PySem.Value.int 304 0), (PySem.Value.str (PySem.Str.ofString "/claim/cut.py") 788)])) (List.toArray []))) ::
((nat_lit 461), (PySem.Obj.mk (PySem.Value.type "function") none (PySem.Data.func (PySem.FuncData.mk (PySem.Str.ofString "_law_root") (PySem.Str.ofString "_law_root") p461 (PySem.FuncBody.stmts b461) s461 3 [] PySem.Value.none PySem.Value.none PySem.Value.none (PySem.Value.str (PySem.Str.ofString "law_yi0041_01") 740) none (PySem.Value.ref 460) PySem.Value.none 0)) (List.toArray []))) ::
((nat_lit 467), (PySem.Obj.mk (PySem.Value.type "code") none (PySem.Data.fields (List.toArray [(PySem.Value.str (PySem.Str.ofString "_law_left") 790), (PySem.Value.str (PySem.Str.ofString "_law_left") 791), (PySem.Value.str (PySem.Str.ofString "/claim/cut.py") 792), (PySem.Value.int 310 0), (PySem.Value.int 2 0), (PySem.Value.int 0 0), (PySem.Value.int 0 0), (PySem.Value.int 3 0), (PySem.Value.ref 462), (PySem.Value.bool Bool.true), (PySem.Value.int 181 0), (PySem.Value.ref 463), PySem.Value.none, (PySem.Value.ref 464), (PySem.Value.ref 465), (PySem.Value.ref 466), (PySem.Value.int 798 0), (PySem.Value.int 310 0), (PySem.Value.str (PySem.Str.ofString "/claim/cut.py") 799)])) (List.toArray []))) ::
((nat_lit 468), (PySem.Obj.mk (PySem.Value.type "function") none (PySem.Data.func (PySem.FuncData.mk (PySem.Str.ofString "_law_left") (PySem.Str.ofString "_law_left") p468 (PySem.FuncBody.stmts b468) s468 3 [] PySem.Value.none PySem.Value.none PySem.Value.none (PySem.Value.str (PySem.Str.ofString "law_yi0041_01") 740) none (PySem.Value.ref 467) PySem.Value.none 0)) (List.toArray []))) ::
((nat_lit 474), (PySem.Obj.mk (PySem.Value.type "code") none (PySem.Data.fields (List.toArray [(PySem.Value.str (PySem.Str.ofString "law") 801), (PySem.Value.str (PySem.Str.ofString "law") 802), (PySem.Value.str (PySem.Str.ofString "/claim/cut.py") 803), (PySem.Value.int 316 0), (PySem.Value.int 1 0), (PySem.Value.int 0 0), (PySem.Value.int 0 0), (PySem.Value.int 3 0), (PySem.Value.ref 469), (PySem.Value.bool Bool.true), (PySem.Value.int 181 0), (PySem.Value.ref 470), PySem.Value.none, (PySem.Value.ref 471), (PySem.Value.ref 472), (PySem.Value.ref 473), (PySem.Value.int 810 0), (PySem.Value.int 316 0), (PySem.Value.str (PySem.Str.ofString "/claim/cut.py") 811)])) (List.toArray []))) ::
((nat_lit 475), (PySem.Obj.mk (PySem.Value.type "function") none (PySem.Data.func (PySem.FuncData.mk (PySem.Str.ofString "law") (PySem.Str.ofString "law") p475 (PySem.FuncBody.stmts b475) s475 3 [] PySem.Value.none PySem.Value.none PySem.Value.none (PySem.Value.str (PySem.Str.ofString "law_yi0041_01") 740) none (PySem.Value.ref 474) PySem.Value.none 0)) (List.toArray []))) :: [] : Frag))
def as2 : List Addr := [2, 3, 34, 35, 58, 59, 60, 61, 76, 77, 95, 96, 221, 222, 223, 224, 237, 238, 244, 245, 246, 247, 248, 272, 278, 279, 281, 282, 297, 298, 339, 340, 349, 350, 365, 366, 388, 389, 390, 425, 426, 432, 433, 439, 440, 446, 447, 453, 454, 460, 461, 467, 468, 474, 475]
theorem as2_is (P : Params) : as2 = (KF P).map (·.1) := by kernel_rfl
noncomputable def bootT (P : Params) : BT := mkBT 600 (boot_heap P).objs.toList
theorem boot_tree (P : Params) : boot_heap P = absHeap (bootT P) 11 {} := by kernel_rfl
theorem boot_size (w : World) : ((boot_heap w.params).isNs mainGlobals && (Array.mk ([] : List GenState)).size == 0, (boot_heap w.params).objs.size, (boot_heap w.params).nsMap mainGlobals "__annotations__") = (true, 11, some (.ref 6)) := by kernel_rfl
noncomputable abbrev XtW : Shared → Bool := fun s => xlAt vw [] s && recOk PySem.Challenge.rw_yi0041_01.row.records s
theorem left_run (w : World) (os : OsState) : (topRunT (PySem.W.Fast.tw6613529449190102663 11 (some (.ref 6))) (PySem.W.Fast.tw10156331382660048174 (PySem.W.Fast.tw11892475500146522536 PySem.W.Fast.tw14364793385576792824) prg w) 3300 ⟨bootT w.params, 11, {}, Array.mk [], boot_drawn, boot_toks, os⟩ (topStub prg)).map (fun s => ((staticsOk (importedModules prg.main.body) (boot_heap w.params) s.abs.heap && namesBound prg s.abs.heap && gensDone s.abs && laidKept (boot_heap w.params) s.abs.heap),
        PySem.W.Fast.tw4187177175401517315 vw LS (importedModules prg.main.body) XtW true s.abs, (kHook KF as2 as2_is).obs s.abs)) = some (true, openGood vw LS, (kHook KF as2 as2_is).val w) := by kernel_rfl
theorem prg_plain : opening prg = plainProg prg.main.scope.names := by kernel_rfl
theorem prg_fence (s : Shared) : fenceModules? prg s = some s := by kernel_rfl
theorem left_o : LeftO prg vw LS XtW (kHook KF as2 as2_is).obs (kHook KF as2 as2_is).val 6512 :=
  left_of_tree (M := 3300) (m₀ := 11) (ann := some (.ref 6)) (T := bootT) (n := 11) (life := {}) (H₀ := boot_heap) (gs₀ := Array.mk []) (d₀ := boot_drawn) (k₀ := boot_toks)
    (boot_open prg_plain (by rfl) prg_fence) boot_tree boot_size (by rfl) (fun w os => by
      rw [step_fast, ok_fast, seen_fast]
      exact left_run w os)
theorem law_said : PySem.Challenge.rw_yi0041_01.wellSaid = true := by
  rw [PySem.W.Fast.te9446332074065402090]
  unfold PySem.W.Fast.tw9446332074065402090 PySem.W.Fast.tw17960256430627541270 PySem.W.Fast.tw2436336058641802641 PySem.W.Fast.tw12908688711261696721
  repeat' (with_reducible refine look_both ?_ ?_)
  all_goals decide +kernel
theorem hdW (d : DefRec) (kwd : List (Str × Expr)) (hdef : defOf vw PySem.Challenge.rw_yi0041_01.row.name = some (d, kwd)) (hp : prg.theDef PySem.Challenge.rw_yi0041_01.row.name = some (d.params, d.body, d.scope)) (hk : kwWritten? d.params.kwonlyargs d.params.kw_defaults = some kwd)
    (hc : WalkO vw LS (XL vw []) (Hook.says (kHook KF as2 as2_is)) PySem.Challenge.rw_yi0041_01.row.toRowW d kwd fun f vs => PySem.call f vs) : PySem.Challenge.rw_yi0041_01.Holds := by
  w_on
  refine holds_law law_said fun said => ?_
  refine holds_open (q := vw) (loose := LS) (Xt := XtW) (XP := XL vw []) (Yf := Hook.obs (kHook KF as2 as2_is)) (Ya := Hook.val (kHook KF as2 as2_is)) (YP := Hook.says (kHook KF as2 as2_is)) (N := 6512) left_o (Hook.of (kHook KF as2 as2_is)) (Hook.keeps (kHook KF as2 as2_is)) (fun s e => xl_of s (Bool.and_eq_true_iff.mp e).1) XL.keeps hdef hp hk (fun s e => recFacts_of (Bool.and_eq_true_iff.mp e).2) (by rfl) (by first | assumption | decide +kernel) (by decide +kernel) ⟨rfl, rfl, rfl, rfl, rfl, by decide +kernel⟩ ?hw hc
  case hw => w_witness2
theorem filled : (PySem.Challenge.rw_yi0041_01, KF) = (PySem.Challenge.rw_yi0041_01, KF) := by
  k_fill
  rfl
section PartPowL
theorem gives_pow3 (a : Int) (t : Tok) (b : Int) (u : Tok) (v : Tok) (hb : ¬ b < 0) :
    Gives (Builtin.«int.__pow__» ⟨[.int a t, .int b u, .int 3329 v], []⟩) (.int (Builtin.powMod (a % 3329).toNat b.natAbs 3329 : Nat)) :=
  .of_wp fun M A E s Q h => by
    obtain ⟨hp, g, d, tk, os⟩ := s
    wp_walk
    all_goals exact ⟨_, rfl, h⟩
theorem gives_powInv (t : Tok) (u : Tok) (v : Tok) :
    Gives (Builtin.«int.__pow__» ⟨[.int 128 t, .int (-1) u, .int 3329 v], []⟩) (.int 3303) :=
  .of_wp fun M A E s Q h => by
    obtain ⟨hp, g, d, tk, os⟩ := s
    wp_walk
    all_goals exact ⟨_, rfl, h⟩
theorem pv_args_pow3 (a b c : Value) : argsOk "int.__pow__" ⟨[a, b, c], []⟩ := by unfold argsOk; kernel_rfl
theorem pv_kind_pow : builtinKind "pow" = none := by decide +kernel
theorem pv_plain_pow : plainId "pow" = true := by decide +kernel
theorem pv_entry_pow : entryFor table "pow" = some Builtin.«pow» := entryFor_of_fast (by kernel_rfl)
theorem pv_args_pow (a b c : Value) : argsOk "pow" ⟨[a, b, c], []⟩ := by unfold argsOk; kernel_rfl
section
variable {prog : Program} {w : World} {A : Around} {E : Value → Shared → Prop} {s : Shared} {Q : Value → Shared → Prop}
theorem call_pow_via {a b c r : Int} {t u v : Tok} (hg : Gives (Builtin.«int.__pow__» ⟨[.int a t, .int b u, .int c v], []⟩) (.int r)) (h : Q (.int r s.toks) { s with toks := s.toks + 1 }) :
    wpAny (model prog w) A (call (.builtin "pow") [.int a t, .int b u, .int c v]) Q E s := by
  refine call_function_entry pv_kind_pow pv_plain_pow pv_entry_pow (pv_args_pow _ _ _) ?_
  obtain ⟨hp, g, d, tk, os⟩ := s
  have hT : (⟨hp, g, d, tk, os⟩ : Shared).TypeIs (.int a t) "int" := rfl
  have f3 : typeLookup (Value.type "int") (Str.ofString "__pow__") = pure (some (Value.builtin "int.__pow__")) := F.slot_int_pow.lookup
  have f4 := F.slot_int_pow.bind (.int a t)
  repeat (any_goals (first | assumption | ((with_reducible show wpAny _ _ (call (Value.builtin "int.__pow__") _ _) _ _ _); refine call_gives F.slot_int_pow hT F.entry_int_pow (pv_args_pow3 _ _ _) hg ?_; dsimp only [Made.post]) | wp_step))
  all_goals first | exact ⟨_, rfl, h⟩ | exact h | skip
/-- b to the e, modulo 3329 -/
@[irreducible] def pwI (b e : Int) : Int := ((Builtin.powMod (b % 3329).toNat e.natAbs 3329 : Nat) : Int)
theorem pwI_eq (b e : Int) : ((Builtin.powMod (b % 3329).toNat e.natAbs 3329 : Nat) : Int) = pwI b e := by unfold pwI; rfl
theorem call_pow3 {a b : Int} {t u v : Tok} (hb : 0 ≤ b) (h : Q (.int (pwI a b) s.toks) { s with toks := s.toks + 1 }) :
    wpAny (model prog w) A (call (.builtin "pow") [.int a t, .int b u, .int 3329 v]) Q E s :=
  call_pow_via (gives_pow3 a t b u v (by omega)) (by rw [pwI_eq]; exact h)
theorem call_powInv {t u v : Tok} (h : Q (.int 3303 s.toks) { s with toks := s.toks + 1 }) :
    wpAny (model prog w) A (call (.builtin "pow") [.int 128 t, .int (-1) u, .int 3329 v]) Q E s :=
  call_pow_via (gives_powInv t u v) h
end
end PartPowL
section PartIntL
/-- the seven bits of n from behind -/
def br7 (n : Nat) : Nat := (n % 2) * 64 + (n / 2 % 2) * 32 + (n / 4 % 2) * 16 + (n / 8 % 2) * 8 + (n / 16 % 2) * 4 + (n / 32 % 2) * 2 + n / 64 % 2
@[irreducible] def brI (i : Int) : Int := ((br7 i.toNat : Nat) : Int)
theorem brI_nat (n : Nat) : brI (n : Int) = ((br7 n : Nat) : Int) := by unfold brI; rfl
theorem br7_lt (n : Nat) : br7 n < 128 := by unfold br7; omega
theorem brI_nonneg (i : Int) : 0 ≤ brI i := by unfold brI; omega
theorem brI_lt (i : Int) : brI i < 128 := by unfold brI; have := br7_lt i.toNat; omega
@[irreducible] def T1 (n : Nat) : PySem.Str := baseText "0b" 2 (Builtin.bitAnd (n : Int) (2 ^ Int.toNat 7 - 1))
@[irreducible] def T2 (n : Nat) : PySem.Str := Txt.slice (T1 n) (some 2) none
@[irreducible] def T3 (n : Nat) : PySem.Str := Txt.zfill (T2 n) 7
@[irreducible] def T4 (n : Nat) : PySem.Str := Txt.sliceBy (T3 n) none none (-1, 0)
theorem T1_eq (n : Nat) : baseText "0b" 2 (Builtin.bitAnd (n : Int) (2 ^ Int.toNat 7 - 1)) = T1 n := by unfold T1; rfl
theorem T2_eq (n : Nat) : Txt.slice (T1 n) (some 2) none = T2 n := by unfold T2; rfl
theorem T3_eq (n : Nat) : Txt.zfill (T2 n) 7 = T3 n := by unfold T3; rfl
theorem T4_eq (n : Nat) (u : Tok) : Txt.sliceBy (T3 n) none none (-1, u) = T4 n := by unfold T4; rfl
theorem wp_text2 {M : Model} {A : Around} {E : Value → Shared → Prop} {s : Shared} {Q : Value → Shared → Prop} {v : Value} {text : List Nat} {n : Int}
    (hs : (text.takeWhile (· != 0)).length ≤ 640) (hr : (int_private% "readNumeral") 0 2 (text.takeWhile (· != 0)) = (int_private% "Numeral.value") n)
    (ha : ((text.takeWhile (· != 0)).length == text.length) = true) (h : Q (.int n s.toks) { s with toks := s.toks + 1 }) :
    wpAny M A ((int_private% "intFromText") v text 2) Q E s := by
  obtain ⟨hp, g, d, tk, os⟩ := s
  repeat (any_goals (first
    | assumption
    | (with_reducible refine wpAny_ite_true (decide_eq_true hs) ?_)
    | (with_reducible refine wpAny_ite_true (decide_eq_true ha) ?_)
    | wp_step))
  all_goals (try rw [hr])
  all_goals (try dsimp only)
  repeat (any_goals (first
    | assumption
    | (with_reducible refine wpAny_ite_true (decide_eq_true hs) ?_)
    | (with_reducible refine wpAny_ite_true (decide_eq_true ha) ?_)
    | wp_step))
theorem gives_text2 {x : PySem.Str} {u v : Tok} {n : Int} (hs : (numSeenOf x).length ≤ 640) (hr : (int_private% "readNumeral") 0 2 (numSeenOf x) = (int_private% "Numeral.value") n)
    (ha : ((numSeenOf x).length == (numTextOf x).length) = true) : Gives (Builtin.«int.__new__» ⟨[.type "int", .str x u, .int 2 v], []⟩) (.int n) :=
  .of_wp fun M A E s Q h => by
    obtain ⟨hp, g, d, tk, os⟩ := s
    have f1 := F.conv_sub_int
    have f2 := F.madeHere_int
    have f6 : typeOf (.str x u) = pure (.type "str") := rfl
    have hk := KIN.Hid.mk (And.intro hs (And.intro hr ha))
    clear hs hr ha
    repeat (any_goals (first
      | assumption
      | ((with_reducible show wpAny _ _ ((int_private% "intFromText") _ _ _) _ _ _); refine wp_text2 hk.out.1 hk.out.2.1 hk.out.2.2 ?_)
      | wp_step))
    all_goals first | exact ⟨_, rfl, h⟩ | skip
theorem typeCall_int_2 (a b : Value) : checkTypeCall "int" ⟨[a, b], []⟩ = pure () := by kernel_rfl
theorem newCall_int_2 (a b : Value) : checkBuiltinCall "int.__new__" ⟨[.type "int", a, b], []⟩ = pure () := by kernel_rfl
section
variable {prog : Program} {w : World} {A : Around} {E : Value → Shared → Prop} {s : Shared} {Q : Value → Shared → Prop}
theorem call_int_2 {x y : Value} {S : PySem.Spec} (g : Meets (Builtin.«int.__new__» ⟨[.type "int", x, y], []⟩) S) (h : S A.in1 (wants (fun obj s₁ => s₁.TypeIs obj "int" ∧ Q obj s₁) E) s) :
    wpAny (model prog w) A (call (.type "int") [x, y]) Q E s :=
  callType_new F.called_int F.newNe_int (typeCall_int_2 x y) (newCall_int_2 x y) (fun obj => F.args_object_init_3 obj x y) F.entry_int_new g h
theorem call_text2 {x : PySem.Str} {u v : Tok} {n : Int} (hs : (numSeenOf x).length ≤ 640) (hr : (int_private% "readNumeral") 0 2 (numSeenOf x) = (int_private% "Numeral.value") n)
    (ha : ((numSeenOf x).length == (numTextOf x).length) = true) (h : Q (.int n s.toks) { s with toks := s.toks + 1 }) : wpAny (model prog w) A (call (.type "int") [.str x u, .int 2 v]) Q E s :=
  call_int_2 (gives_text2 hs hr ha).meets (show (Made.int n).post _ s from ⟨rfl, h⟩)
end
theorem at128 {α : Type} {f g : Nat → α} (h : (List.range 128).map f = (List.range 128).map g) {n : Nat} (hn : n < 128) : f n = g n := by
  have e := congrArg (fun l => l[n]?) h
  simpa [hn] using e
theorem T1_len {n : Nat} (h : n < 128) : (T1 n).length ≤ 16 := by
  have e := at128 (f := fun n => decide ((T1 n).length ≤ 16)) (g := fun _ => true) (by decide +kernel) h
  exact of_decide_eq_true e
theorem T2_len {n : Nat} (h : n < 128) : (T2 n).length ≤ 16 := of_decide_eq_true (at128 (f := fun n => decide ((T2 n).length ≤ 16)) (g := fun _ => true) (by decide +kernel) h)
theorem T3_len {n : Nat} (h : n < 128) : (T3 n).length ≤ 16 := of_decide_eq_true (at128 (f := fun n => decide ((T3 n).length ≤ 16)) (g := fun _ => true) (by decide +kernel) h)
theorem T4_seen {n : Nat} (h : n < 128) : (numSeenOf (T4 n)).length ≤ 640 := of_decide_eq_true (at128 (f := fun n => decide ((numSeenOf (T4 n)).length ≤ 640)) (g := fun _ => true) (by decide +kernel) h)
theorem T4_all {n : Nat} (h : n < 128) : ((numSeenOf (T4 n)).length == (numTextOf (T4 n)).length) = true := at128 (f := fun n => ((numSeenOf (T4 n)).length == (numTextOf (T4 n)).length)) (g := fun _ => true) (by decide +kernel) h
theorem T4_reads {n : Nat} (h : n < 128) : (int_private% "readNumeral") 0 2 (numSeenOf (T4 n)) = (int_private% "Numeral.value") ((br7 n : Nat) : Int) :=
  at128 (f := fun n => (int_private% "readNumeral") 0 2 (numSeenOf (T4 n))) (g := fun n => (int_private% "Numeral.value") ((br7 n : Nat) : Int)) (by kernel_rfl) h
section
variable {prog : Program} {w : World} {A : Around} {E : Value → Shared → Prop} {s : Shared} {Q : Value → Shared → Prop} {h₀ : Heap} {L : Addr} {m : Str → Option Value} {news : List (Addr × Obj)} {n : Nat} {t u : Tok}
theorem bin_T (hn : n < 128) (h : Q (.str (T1 n) s.toks) { s with toks := s.toks + 1 }) : wpAny (model prog w) A (call (.builtin "bin") [.int (Builtin.bitAnd (n : Int) (2 ^ Int.toNat 7 - 1)) t]) Q E s :=
  P.bin_of_int (by rw [T1_eq]; exact h) (by rw [T1_eq]; exact Nat.le_trans (T1_len hn) (by rw [sizeLine_eq]; decide))
theorem drop_T {value slice : PySem.Expr} (hn : n < 128) (hF : Fr h₀ L s.heap m) (hN : News h₀ L s.heap news) (h : ∀ h' t' k, Fr h₀ L h' m → News h₀ L h' news → Q (.str (T2 n) t') { s with heap := h', toks := k })
    (hs : subscripted slice false (.str (T1 n) t) (.ref s.heap.objs.size) = operate [.ref s.heap.objs.size, .str (T1 n) t] (getItem (.str (T1 n) t) (.ref s.heap.objs.size)) := by with_unfolding_all rfl)
    (ht : ∀ r, letTemporaryGo value (.str (T1 n) t) r = pure () := by intro _; with_unfolding_all rfl) :
    wpAny (model prog w) A (subscriptTail value slice (.str (T1 n) t) (.ref s.heap.objs.size)) Q E { s with heap := s.heap.push { cls := .type "slice", data := .fields #[.int 2 u, .none, .none] } } :=
  slice_strN_sn hF hN (by rw [T2_eq]; exact h) hs ht (Nat.le_trans (T1_len hn) (by rw [sizeLine_eq]; decide))
theorem zfill_T (h : ∀ t' k, Q (.str (T3 n) t') { s with toks := k }) : wpAny (model prog w) A (call (.builtin "str.zfill") [.str (T2 n) t, .int 7 u]) Q E s := SC.zfill (by decide) (by rw [T3_eq]; exact h)
theorem rev_T {value slice : PySem.Expr} (hn : n < 128) (hF : Fr h₀ L s.heap m) (hN : News h₀ L s.heap news) (h : ∀ h' t' k, Fr h₀ L h' m → News h₀ L h' news → Q (.str (T4 n) t') { s with heap := h', toks := k })
    (hs : subscripted slice false (.str (T3 n) t) (.ref s.heap.objs.size) = operate [.ref s.heap.objs.size, .str (T3 n) t] (getItem (.str (T3 n) t) (.ref s.heap.objs.size)) := by with_unfolding_all rfl)
    (ht : ∀ r, letTemporaryGo value (.str (T3 n) t) r = pure () := by intro _; with_unfolding_all rfl) :
    wpAny (model prog w) A (subscriptTail value slice (.str (T3 n) t) (.ref s.heap.objs.size)) Q E { s with heap := s.heap.push { cls := .type "slice", data := .fields #[.none, .none, .int (-1) u] } } :=
  slice_strK_nn hF hN (by decide) (by rw [T4_eq]; exact h) hs ht (Nat.le_trans (T3_len hn) (by rw [sizeLine_eq]; decide))
theorem int_T (hn : n < 128) (h : Q (.int ((br7 n : Nat) : Int) s.toks) { s with toks := s.toks + 1 }) : wpAny (model prog w) A (call (.type "int") [.str (T4 n) t, .int 2 u]) Q E s :=
  call_text2 (T4_seen hn) (T4_reads hn) (T4_all hn) h
end
end PartIntL
section
variable {M : Model} {A : Around} {E : Value → Shared → Prop} {s : Shared} {K : Frag} {env : Env} {pos : Pos} {x C : Addr} {ox : Obj} {od : Option Obj} {first : List Value} {Q : Value → Shared → Prop}
theorem kcoKW {f : Addr} {e : PySem.Expr} {rest : List PySem.Expr} {kws : List Keyword} (_X : K.In s.heap) (_I : InstAt s.heap x ox C od) (hd : ox.data = .plain) (_hs : findIn K (.ref C) "__call__" = some (some (.ref f))) (hall : (backToKw pos (keywordEach kws env)).all (·.1.isSome) = true)
    (h : wpAny M A (spliced (backTo pos (starEach (e :: rest) env))) (fun vs s₁ => wpAny M A (evalAll ((backToKw pos (keywordEach kws env)).map (·.2)))
      (fun ks s₂ => kco_P K x C ox od s₂.heap ∧ wpAny M A (call (.ref x) (first ++ vs) (((backToKw pos (keywordEach kws env)).filterMap (·.1)).zip ks)) Q E s₂) E s₁) E s)
    (hplain : ((backTo pos (starEach (e :: rest) env)).any (·.1) || (backToKw pos (keywordEach kws env)).any (·.1.isNone)) = false := by rfl) (he : starEach (e :: rest) env = (false, eval e env) :: starEach rest env := by rfl) :
    wpAny M A (callWith pos (.ref x) first (backTo pos (starEach (e :: rest) env)) (backToKw pos (keywordEach kws env))) Q E s :=
  kco_callWith_of hplain hd (evalArgs_kw2 hall h he)
end
theorem rec_is : recursionLimit = 1000 := rfl
theorem neAll_of_lt {l : List (Addr × Obj)} {d b : Nat} (h : ∀ p ∈ l, p.1 < d) (hb : d ≤ b) : ∀ p ∈ l, p.1 ≠ b := fun p hp e => by
  have q := h p hp
  have q' : @LT.lt Nat _ p.1 d := q
  have e' : @Eq Nat p.1 b := e
  omega
theorem neAll_of_allLt {l : List (Addr × Obj)} {d b : Nat} (h : AllLt d l) (hb : d ≤ b) : ∀ p ∈ l, p.1 ≠ b := by
  induction l with
  | nil => intro p hp; cases hp
  | cons q r ih =>
    intro p hp
    cases hp with
    | head =>
      intro e
      have q1 : @LT.lt Nat _ q.1 d := h.1
      have e' : @Eq Nat q.1 b := e
      omega
    | tail _ hp => exact ih h.2 p hp
theorem news_sub {h₀ h : Heap} {L : Addr} {l l' : List (Addr × Obj)} (N : News h₀ L h l) (hs : ∀ p ∈ l', p ∈ l) : News h₀ L h l' := fun p hp => N p (hs p hp)
theorem news_tail {h₀ h : Heap} {L : Addr} {q : Addr × Obj} {l : List (Addr × Obj)} (N : News h₀ L h (q :: l)) : News h₀ L h l := fun p hp => N p (.tail _ hp)
theorem sub_nil {l : List (Addr × Obj)} : ∀ p ∈ ([] : List (Addr × Obj)), p ∈ l := fun _ hp => nomatch hp
theorem sub_cons {q : Addr × Obj} {l' l : List (Addr × Obj)} (h1 : q ∈ l) (h2 : ∀ p ∈ l', p ∈ l) : ∀ p ∈ q :: l', p ∈ l := fun p hp => by
  cases hp with
  | head => exact h1
  | tail _ hp => exact h2 p hp
theorem sub_app {l₁ l₂ l : List (Addr × Obj)} (h1 : ∀ p ∈ l₁, p ∈ l) (h2 : ∀ p ∈ l₂, p ∈ l) : ∀ p ∈ l₁ ++ l₂, p ∈ l := fun p hp => (List.mem_append.mp hp).elim (h1 p) (h2 p)
theorem sub_tail {q : Addr × Obj} {l' l : List (Addr × Obj)} (h : ∀ p ∈ l', p ∈ l) : ∀ p ∈ l', p ∈ q :: l := fun p hp => .tail _ (h p hp)
theorem sub_left {l' l r : List (Addr × Obj)} (h : ∀ p ∈ l', p ∈ l) : ∀ p ∈ l', p ∈ l ++ r := fun p hp => List.mem_append_left _ (h p hp)
theorem sub_right {l' l r : List (Addr × Obj)} (h : ∀ p ∈ l', p ∈ r) : ∀ p ∈ l', p ∈ l ++ r := fun p hp => List.mem_append_right _ (h p hp)
theorem sub_refl {l : List (Addr × Obj)} : ∀ p ∈ l, p ∈ l := fun _ hp => hp
theorem neAll_app {l r : List (Addr × Obj)} {b : Addr} (h1 : ∀ p ∈ l, p.1 ≠ b) (h2 : ∀ p ∈ r, p.1 ≠ b) : ∀ p ∈ l ++ r, p.1 ≠ b := fun p hp => (List.mem_append.mp hp).elim (h1 p) (h2 p)
local macro_rules | `(tactic| k_allIn) => `(tactic| first
  | exact sub_nil
  | (refine sub_cons ?a ?b; (case a => k_mem); (case b => k_allIn))
  | (refine sub_app ?a ?b; (case a => k_allIn); (case b => k_allIn))
  | exact sub_refl
  | (refine sub_tail ?_; k_allIn)
  | (refine sub_left ?_; k_allIn)
  | (refine sub_right ?_; k_allIn))
local macro_rules | `(tactic| k_room) => `(tactic| ((try simp only [depth_mark, depth_under_make, depth_under_kw, depth_in1, depth_deeper, depth_caller, rec_is]); (try dsimp only [ktrTop]); omega))
local macro_rules | `(tactic| k_units) => `(tactic| ((try simp only [units_in1, units_deeper, units_under_make, Around.mark_units, units_caller, cLine_is]); (try dsimp only [ktrTop]); omega))
local macro_rules | `(tactic| k_enter) => `(tactic| (refine' code_defC ?k1 ?k2 ?k3 ?k4 ?k5 ?kA ?kF ?kK ?k6 ?k7 ?k8 ?k9 ?kB ?kD ?_ ?c2 ?c3 ?c4; (case kA => exact rfl); (case kF => exact rfl); (case kK => first | exact rfl | assumption); (case k1 => k_asm); (case k2 => k_asm); (case k3 => k_asm); (case k4 => k_asm); (case k5 => k_asm); (case k6 => k_is); (case k7 => k_is); (case k8 => k_room); (case k9 => first | exact BindsTo.of_eq rfl | exact binds_K (by k_in) rfl (by k_is) rfl rfl rfl); (case kB => exact rfl); (case kD => decide +kernel); (case c2 => exact rfl); (case c3 => exact rfl); (case c4 => exact rfl); k_whole; intro g' L' h' tk' cells' FG' F' N' Y' B' X' T' l1; (try k_lt l1); k_cells Y'; (try simp only [List.cons_append, List.nil_append] at N'); (try dsimp only); (try k_lift B'); (try k_fold)))
local macro_rules | `(tactic| k_enter) => `(tactic| ktr_enter)
local macro_rules | `(tactic| k_all) => `(tactic| with_reducible assumption)
local macro_rules | `(tactic| walk_at "callWith ref") => `(tactic| (k_here; kco_here; k_dflt (refine' kcoKW ?k1 ?k2 ?k3 ?k4 ?k5 ?_; (case k1 => k_in); (case k2 => k_inst); (case k3 => rfl); (case k4 => k_is); (case k5 => exact rfl); k_whole)))
local macro_rules | `(tactic| k_all) => `(tactic| (refine neAll_of_lt (by with_reducible assumption) ?_; omega))
local macro_rules | `(tactic| k_all) => `(tactic| (refine neAll_of_allLt (by with_reducible assumption) ?_; omega))
local macro_rules | `(tactic| k_all) => `(tactic| (refine neAll_app ?a ?b; (case a => k_all); (case b => k_all)))
local macro_rules | `(tactic| k_in) => `(tactic| (refine' Frag.In.keeps ?kiX (Fr.keep ?kiF); (case kiF => with_reducible assumption); (case kiX => with_reducible assumption)))
local macro_rules | `(tactic| k_in) => `(tactic| with_reducible assumption)
section PartBr
local macro_rules | `(tactic| walk_at "call builtin:bin") => `(tactic| (k_here; k_dflt (refine bin_T (by assumption) ?_)))
local macro_rules | `(tactic| walk_at "subscriptTail") => `(tactic| (k_here; (with_reducible show wpAny _ _ (subscriptTail _ _ (Value.str (T1 _) _) _) _ _ _); k_dflt (refine drop_T (s := ⟨_, _, _, _, _⟩) (by assumption) (by k_asm) (by k_asm) ?_); intro h' t' k F' N'))
local macro_rules | `(tactic| walk_at "call builtin:str.zfill") => `(tactic| (k_here; k_dflt (refine zfill_T ?_); intro t' k))
local macro_rules | `(tactic| walk_at "subscriptTail") => `(tactic| (k_here; (with_reducible show wpAny _ _ (subscriptTail _ _ (Value.str (T3 _) _) _) _ _ _); k_dflt (refine rev_T (s := ⟨_, _, _, _, _⟩) (by assumption) (by k_asm) (by k_asm) ?_); intro h' t' k F' N'))
local macro_rules | `(tactic| walk_at "call type:int") => `(tactic| (k_here; k_dflt (refine int_T (by assumption) ?_)))
theorem br_spec {w : World} {mean : ExcName → Option Value} {mg mb : Str → Option Value} {dp un : Nat} {gd : Option (List Code)} {cn : Str} {cs : Scope} {a : Addr} {ccd : Value} {cl : List (Str × Addr)} {outer : List Env} {A₀ : Around} {base h₀ : Heap} {L : Addr} {m : Str → Option Value} {s : Shared} {Q E : Value → Shared → Prop}
    {news : List (Addr × Obj)} {i : Int} {t1 t2 : Tok}
    (B : Below A₀ base outer h₀) (F : Fr h₀ L s.heap m) (X : (KF w.params).In h₀)
    (N : News h₀ L s.heap news)
    (T : Top vw (looseW vw LS) mean mg mb h₀) (hk : cs.kind = .function) (hd : dp + 8 < 1000) (hu : un + 100 < 9900)
    (h0 : 0 ≤ i) (h1 : i < 128)
    (ret : ∀ tv h' tk', Fr h₀ L h' m → News h₀ L h' news → Q (.int (brI i) tv) { s with heap := h', toks := tk' }) :
    wpAny (model PySem.Challenge.rw_yi0041_01.row.prog w) (ktrTop dp un gd cn cs L a ccd cl outer) (call (.ref 245) [.int i t1, .int 7 t2]) Q E s := by
  obtain ⟨n, rfl⟩ := Int.eq_ofNat_of_zero_le h0
  have hn : n < 128 := by omega
  refine wpAny_call ?_
  k_dflt ktr_enter
  k_steps
  all_goals (rw [← brI_nat]; exact ret _ _ _ (by assumption) (by assumption))
end PartBr
section PartRing
local macro_rules | `(tactic| walk_at "call ref") => `(tactic| (k_here; (with_reducible show wpAny _ _ (call (Value.ref 245) [Value.int _ _, Value.int _ _]) _ _ _); k_dflt (refine' br_spec ?k1 ?k2 ?k3 ?k4 ?k5 ?kK ?kd ?ku ?h0 ?h1 ?_; (case k1 => k_asm); (case k2 => k_asm); (case k3 => k_asm); (case k4 => k_asm); (case k5 => k_asm); (case kK => first | exact rfl | assumption); (case kd => k_room); (case ku => k_units); (case h0 => omega); (case h1 => omega)); intro t9 h9 tk9 F9 N9; (try dsimp only); (try k_fold)))
local macro_rules | `(tactic| walk_at "call builtin:pow") => `(tactic| (k_here; k_dflt (first
  | (refine call_powInv ?_)
  | (refine call_pow3 (brI_nonneg _) ?_))))

theorem of_off1 {l : List (Addr × Obj)} {D : Addr} (h : LCg.Off1 D l) : ∀ p ∈ l, p.1 ≠ D := by
  induction l with
  | nil => intro p hp; cases hp
  | cons q r ih =>
    intro p hp
    cases hp with
    | head => exact h.1
    | tail _ hp => exact ih h.2 p hp
/-- the ring's table of powers -/
@[irreducible] def zetaL : List Int := (rangeKs 0 128).map fun k => pwI 17 (brI k)
theorem zetaL_eq : (rangeKs 0 (128 - 0 : Int).toNat).map (fun k => pwI 17 (brI k)) = zetaL := by unfold zetaL; rfl
theorem ring_spec {w : World} {mean : ExcName → Option Value} {mg mb : Str → Option Value} {dp un : Nat} {gd : Option (List Code)} {cn : Str} {cs : Scope} {a : Addr} {ccd : Value} {cl : List (Str × Addr)} {outer : List Env} {A₀ : Around} {base h₀ : Heap} {L : Addr} {m : Str → Option Value} {s : Shared} {Q E : Value → Shared → Prop}
    {news : List (Addr × Obj)}
    (B : Below A₀ base outer h₀) (F : Fr h₀ L s.heap m) (X : (KF w.params).In h₀)
    (N : News h₀ L s.heap news)
    (T : Top vw (looseW vw LS) mean mg mb h₀) (hk : cs.kind = .function) (hd : dp + 30 < 1000) (hu : un + 300 < 9900)
    (ret : ∀ x d z ys t1 t2 t3 t4 t5 t6 t7 h' tk', Fr h₀ L h' m →
      News h₀ L h' ((x, instObj 282 d) :: (d, dictOf [⟨PyData.keyHash w.params (PySem.Str.ofString "q"), .str (PySem.Str.ofString "q") t1, .int 3329 t2⟩, ⟨PyData.keyHash w.params (PySem.Str.ofString "n"), .str (PySem.Str.ofString "n") t3, .int 256 t4⟩, ⟨PyData.keyHash w.params (PySem.Str.ofString "ntt_zetas"), .str (PySem.Str.ofString "ntt_zetas") t5, .ref z⟩, ⟨PyData.keyHash w.params (PySem.Str.ofString "ntt_f"), .str (PySem.Str.ofString "ntt_f") t6, .int 3303 t7⟩] 4) :: (z, listOf ys.toArray ys.length) :: news) →
      IntsAre ys zetaL → (∀ p ∈ news, p.1 < d) → @LT.lt Nat _ d x → @Ne Nat z x → @Ne Nat z d → (∀ p ∈ news, p.1 ≠ z) → Q (.ref x) { s with heap := h', toks := tk' }) :
    wpAny (model PySem.Challenge.rw_yi0041_01.row.prog w) (ktrTop dp un gd cn cs L a ccd cl outer) (call (.ref 282) []) Q E s := by
  k_steps
  rw [zetaL_eq] at *
  refine' ret _ _ _ _ _ _ _ _ _ _ _ _ _ ?e1 (news_sub ?e2 ?e3) ?e4 ?e5 ?e6 ?e7 ?e8 ?e9
  (case e1 => assumption)
  (case e2 => assumption)
  (case e3 => k_allIn)
  (case e4 => assumption)
  (case e5 => assumption)
  (case e6 => omega)
  (case e7 => omega)
  (case e8 => omega)
  case e9 =>
    exact of_off1 (And.right (And.right (And.right (And.right (by assumption)))))
end PartRing
section PartLoopL
/-- what a range loop's turn leaves: the ledger of a state, its facts, the loop's own name, all other names as they were -/
def ForS {σ : Type} (Led : σ → List (Addr × Obj)) (P : Nat → σ → Prop) (x : Str) (stored : List Str) (m₀ : Str → Option Value) (i : Nat) (k : Int) (m : Str → Option Value) (nx : List (Addr × Obj)) : Prop :=
  ∃ c : σ, nx = Led c ∧ P i c ∧ (∃ t, m x = some (.int k t)) ∧ ∀ z, stored.contains z = false → m z = m₀ z
section
variable {prog : Program} {w : World} {A : Around} {E : Value → Shared → Prop} {s : Shared} {env : Env} {h₀ : Heap} {x : Str} {body : List Stmt} {Q : Flow → Shared → Prop}
theorem forS_end {σ : Type} {Led : σ → List (Addr × Obj)} {P : Nat → σ → Prop} {stored : List Str} {m₀ m' : Str → Option Value} {i : Nat} {k : Int} {L : Addr} {own news' : List (Addr × Obj)} {adr : List Addr} {s₁ : Shared} {h' : Heap} {tk : Nat} (c : σ)
    (F : Fr h₀ L h' m') (N : News h₀ L h' news') (hn : ∀ p ∈ Led c, p ∈ news') (ho : ∀ p ∈ own, p ∈ news') (ha : (Led c).map (·.1) = adr) (hp : P i c) (hx : ∃ t, m' x = some (.int k t)) (hr : ∀ z, stored.contains z = false → m' z = m₀ z) :
    InvEndN h₀ L (ForS Led P x stored m₀ i k) own adr s₁ { s₁ with heap := h', toks := tk } :=
  InvEndN.intro F N ⟨c, rfl, hp, hx, hr⟩ ha hn ho
theorem forR {σ : Type} {r : Addr} {a₀ b₀ : Int} {t₀ u₀ v₀ : Tok} {m₀ : Str → Option Value} (n : Nat) (Led : σ → List (Addr × Obj)) (stored : List Str) (P : Nat → σ → Prop) (c₀ : σ)
    (hh : A.handled = none) (hr : IsRange s.heap r a₀ b₀ 1 t₀ u₀ v₀) (hsmall : Builtin.Range.small a₀ b₀ 1 = true) (hn : Builtin.Range.rangeSize a₀ b₀ 1 = (n : Int)) (hpos : 0 < n) (F : Fr h₀ env.locals s.heap m₀) (N : News h₀ env.locals s.heap (Led c₀)) (hp : P 0 c₀)
    (turn : ∀ (c : σ) (i : Nat) t (u : Str → Option Value) h tk own, i < n → OwnOff own ((Led c₀).map (·.1)) → (Led c).map (·.1) = (Led c₀).map (·.1) → P i c →
      Fr h₀ env.locals h (fun y => if y = x then some (.int (a₀ + (i : Int)) t) else if stored.contains y then u y else m₀ y) → News h₀ env.locals h (Led c ++ own) →
      wpAny (model prog w) A (execs body env) (InvPostN h₀ env.locals (ForS Led P x stored m₀ (i + 1) (a₀ + (i : Int))) own ((Led c₀).map (·.1)) { s with heap := h, toks := tk } Q) E { s with heap := h, toks := tk })
    (done : ∀ (c : σ) t (u : Str → Option Value) h tk, P n c → Fr h₀ env.locals h (fun y => if y = x then some (.int (a₀ + (n : Int) - 1) t) else if stored.contains y then u y else m₀ y) → News h₀ env.locals h (Led c) → Q .next { s with heap := h, toks := tk }) :
    wpAny (model prog w) A (pyIter (.ref r)) (fun it s₂ => LoopAtV prog w A h₀ env x body Q E it s₂) E s := by
  refine wpAny_pyIter_range hr hsmall ?_
  have W : Walks prog w A s.heap.objs.size [s.heap.objs.size] [s.heap.objs.size] n (fun i v => i < n ∧ ∃ t, v = .int (a₀ + i * 1) t)
      (fun i h => IsRangeIter h s.heap.objs.size (a₀ + (i : Nat) * 1) ((n : Int) - (i : Nat)) 1) := (Walks.range hh _ a₀ 1 n).bound
  refine loop_invN (fun i m nx => ∃ c : σ, nx = Led c ∧ P i c ∧ (0 < i → ∃ t, m x = some (.int (a₀ + (i : Int) - 1) t)) ∧ ∀ z, stored.contains z = false → m z = m₀ z) W ?_ ?_ ?_ ?_ (by show IsRangeIter _ _ _ _ _; rw [hn]; simpa using Heap.get?_push_size _ rfl) (F.push _) (fun p hp => ⟨Heap.get?_push_of_some _ (N p hp).1, (N p hp).2⟩) ⟨c₀, rfl, hp, fun h => absurd h (Nat.lt_irrefl _), fun _ _ => rfl⟩ ?_ ?_
  · intro hm
    exact absurd F.ns.lt ((List.mem_singleton.mp hm) ▸ Nat.lt_irrefl _)
  · intro b hb
    rw [List.mem_singleton.mp hb]
    exact next_is_new F
  · intro p hp hI
    exact absurd (Heap.lt_size (N p hp).1) ((List.mem_singleton.mp hI) ▸ Nat.lt_irrefl _)
  · intro p hp hI
    exact absurd (Heap.lt_size (N p hp).1) ((List.mem_singleton.mp hI) ▸ Nat.lt_irrefl _)
  · rintro i v m₁ nx h tk own hi ⟨_, t, rfl⟩ hadr hoff ⟨c, rfl, hp', h1, h2⟩ F₁ N₁
    have e1 : a₀ + (i : Int) * 1 = a₀ + (i : Int) := by omega
    rw [e1] at F₁
    have em : (fun y => if y = x then some (Value.int (a₀ + (i : Int)) t) else if stored.contains y then m₁ y else m₀ y) = fun y => if y = x then some (Value.int (a₀ + (i : Int)) t) else m₁ y := by
      funext y
      by_cases hy : y = x
      · rw [if_pos hy, if_pos hy]
      · rw [if_neg hy, if_neg hy]
        cases hs : stored.contains y with
        | true => simp
        | false => simp only [Bool.false_eq_true, if_false]; exact (h2 y hs).symm
    refine wpAny_mono (turn c i t m₁ h tk own hi hoff hadr hp' (em ▸ F₁) N₁) (fun f s₂ p => ?_) fun _ _ x => x
    have up : InvEndN h₀ env.locals (ForS Led P x stored m₀ (i + 1) (a₀ + (i : Int))) own ((Led c₀).map (·.1)) { s with heap := h, toks := tk } s₂ →
        InvEndN h₀ env.locals (fun m nx => ∃ c : σ, nx = Led c ∧ P (i + 1) c ∧ (0 < i + 1 → ∃ t, m x = some (.int (a₀ + ((i + 1 : Nat) : Int) - 1) t)) ∧ ∀ z, stored.contains z = false → m z = m₀ z) own ((Led c₀).map (·.1)) { s with heap := h, toks := tk } s₂ := by
      rintro ⟨h', tk', m', news', nx', e', F', N', hn', ho', ha, c', hc1, hc2, ⟨t', hc3⟩, hc4⟩
      refine ⟨h', tk', m', news', nx', e', F', N', hn', ho', ha, c', hc1, hc2, fun _ => ⟨t', ?_⟩, hc4⟩
      rw [hc3]
      congr 2
      omega
    cases f with
    | ret v => exact p
    | brk => exact p
    | next => exact up p
    | cont => exact up p
  · rintro m₁ nx h tk ⟨c, rfl, hp', h1, h2⟩ F₁ N₁
    obtain ⟨t, h1⟩ := h1 hpos
    have em : (fun y => if y = x then some (Value.int (a₀ + (n : Int) - 1) t) else if stored.contains y then m₁ y else m₀ y) = m₁ := by
      funext y
      by_cases hy : y = x
      · rw [if_pos hy, hy, h1]
      · rw [if_neg hy]
        cases hs : stored.contains y with
        | true => simp
        | false => simp only [Bool.false_eq_true, if_false]; exact (h2 y hs).symm
    refine done c t m₁ h tk hp' ?_ N₁
    rw [em]
    exact F₁
end
end PartLoopL
section PartNttL
/-- one turn of the inner loop, as the walk reads it off -/
@[irreducible] def bflyI (z j l : Int) (ns : List Int) : List Int :=
  (ns.set (j + l).toNat (ns.getD j.toNat 0 - z * ns.getD (j + l).toNat 0)).set j.toNat
    ((ns.set (j + l).toNat (ns.getD j.toNat 0 - z * ns.getD (j + l).toNat 0)).getD j.toNat 0 + z * ns.getD (j + l).toNat 0)
theorem bflyI_eq (z j l : Int) (ns : List Int) : (ns.set (j + l).toNat (ns.getD j.toNat 0 - z * ns.getD (j + l).toNat 0)).set j.toNat
    ((ns.set (j + l).toNat (ns.getD j.toNat 0 - z * ns.getD (j + l).toNat 0)).getD j.toNat 0 + z * ns.getD (j + l).toNat 0) = bflyI z j l ns := by unfold bflyI; rfl
theorem bflyI_len (z j l : Int) (ns : List Int) : (bflyI z j l ns).length = ns.length := by unfold bflyI; simp
def innerI (z l start : Int) : Nat → List Int → List Int
  | 0, ns => ns
  | i + 1, ns => bflyI z (start + (i : Int)) l (innerI z l start i ns)
theorem innerI_len (z l start : Int) (i : Nat) (ns : List Int) : (innerI z l start i ns).length = ns.length := by
  induction i with
  | zero => rfl
  | succ i ih => rw [innerI, bflyI_len, ih]
/-- b blocks of the layer with the half length l, the table read from k on -/
def midI (l k : Nat) : Nat → List Int → List Int
  | 0, ns => ns
  | b + 1, ns => innerI (zetaL.getD (k + b) 0) (l : Int) ((2 * l * b : Nat) : Int) l (midI l k b ns)
theorem midI_len (l k b : Nat) (ns : List Int) : (midI l k b ns).length = ns.length := by
  induction b with
  | zero => rfl
  | succ b ih => rw [midI, innerI_len, ih]
def outI : Nat → List Int → List Int
  | 0, ns => ns
  | e + 1, ns => midI (128 >>> e) (2 ^ e) (2 ^ e) (outI e ns)
theorem outI_len (e : Nat) (ns : List Int) : (outI e ns).length = ns.length := by
  induction e with
  | zero => rfl
  | succ e ih => rw [outI, midI_len, ih]
@[irreducible] def modI (j : Int) (ns : List Int) : List Int := ns.set j.toNat ((ns.getD j.toNat 0).fmod 3329)
theorem modI_eq (j : Int) (ns : List Int) : ns.set j.toNat ((ns.getD j.toNat 0).fmod 3329) = modI j ns := by unfold modI; rfl
theorem modI_len (j : Int) (ns : List Int) : (modI j ns).length = ns.length := by unfold modI; simp
def restI : Nat → List Int → List Int
  | 0, ns => ns
  | j + 1, ns => modI (0 + (j : Int)) (restI j ns)
theorem restI_len (j : Nat) (ns : List Int) : (restI j ns).length = ns.length := by
  induction j with
  | zero => rfl
  | succ e ih => rw [restI, modI_len, ih]
@[irreducible] def outA (ns : List Int) : List Int := outI 7 ns
@[irreducible] def restA (ns : List Int) : List Int := restI 256 ns
theorem outA_eq (ns : List Int) : outI 7 ns = outA ns := by unfold outA; rfl
theorem restA_eq (ns : List Int) : restI 256 ns = restA ns := by unfold restA; rfl
theorem outA_len (ns : List Int) : (outA ns).length = ns.length := by rw [← outA_eq]; exact outI_len 7 ns
theorem restA_len (ns : List Int) : (restA ns).length = ns.length := by rw [← restA_eq]; exact restI_len 256 ns
theorem zetaL_len : zetaL.length = 128 := by unfold zetaL; simp [rangeKs]
theorem pwI_lo (b e : Int) : 0 ≤ pwI b e := by unfold pwI; omega

theorem powMod_lt (b e : Nat) : Builtin.powMod b e 3329 < 3329 := by
  unfold Builtin.powMod
  have h : ∀ (l : List Nat) (p : Nat), p < 3329 → l.foldl (fun p i => if e.testBit i then p * p % 3329 * b % 3329 else p * p % 3329) p < 3329 := by
    intro l
    induction l with
    | nil => intro p hp; exact hp
    | cons i l ih =>
      intro p _
      refine ih _ ?_
      dsimp only
      split <;> exact Nat.mod_lt _ (by decide)
  exact h _ _ (by decide)
theorem pwI_hi (b e : Int) : pwI b e < 3329 := by
  unfold pwI
  have := powMod_lt (b % 3329).toNat e.natAbs
  omega
theorem zeta_mem {x : Int} (h : x ∈ zetaL) : 0 ≤ x ∧ x < 3329 := by
  unfold zetaL at h
  obtain ⟨k, _, rfl⟩ := List.mem_map.mp h
  exact ⟨pwI_lo _ _, pwI_hi _ _⟩
theorem zeta_lo (i : Nat) : 0 ≤ zetaL.getD i 0 := by
  rw [List.getD_eq_getElem?_getD]
  cases h : zetaL[i]? with
  | none => exact Int.le_refl _
  | some x => exact (zeta_mem (List.mem_of_getElem? h)).1
theorem zeta_hi (i : Nat) : zetaL.getD i 0 < 3329 := by
  rw [List.getD_eq_getElem?_getD]
  cases h : zetaL[i]? with
  | none => show (0 : Int) < 3329; omega
  | some x => exact (zeta_mem (List.mem_of_getElem? h)).2
theorem range_small {a b : Int} (h0 : 0 ≤ a) (h1 : a ≤ b) (h2 : b ≤ 100000) : Builtin.Range.small a b 1 = true := small_one (by omega) (by omega) (by omega) (by omega)
def InnJ (c : Addr) (nc : Nat) (rest : List (Addr × Obj)) (m₀ : Str → Option Value) (j : Int) (ns : List Int) (m : Str → Option Value) (nx : List (Addr × Obj)) : Prop :=
  ∃ vs : List Value, nx = (c, listOf vs.toArray nc) :: rest ∧ IntsAre vs ns ∧ (∃ t, m (PySem.Str.ofString "j") = some (.int j t)) ∧ ∀ z, ([PySem.Str.ofString "t", PySem.Str.ofString "j"] : List Str).contains z = false → m z = m₀ z
theorem innJ_end {c : Addr} {nc : Nat} {rest : List (Addr × Obj)} {m₀ m' : Str → Option Value} {j : Int} {ns : List Int} {h₀ : Heap} {L : Addr} {own news' : List (Addr × Obj)} {adr : List Addr} {s₁ : Shared} {h' : Heap} {tk : Nat} {vs : List Value}
    (F : Fr h₀ L h' m') (N : News h₀ L h' news') (hi : IntsAre vs ns) (hn : ∀ p ∈ (c, listOf vs.toArray nc) :: rest, p ∈ news') (ho : ∀ p ∈ own, p ∈ news') (ha : c :: rest.map (·.1) = adr) (hx : ∃ t, m' (PySem.Str.ofString "j") = some (.int j t))
    (hr : ∀ z, ([PySem.Str.ofString "t", PySem.Str.ofString "j"] : List Str).contains z = false → m' z = m₀ z) :
    InvEndN h₀ L (InnJ c nc rest m₀ j ns) own adr s₁ { s₁ with heap := h', toks := tk } :=
  InvEndN.intro F N ⟨vs, rfl, hi, hx, hr⟩ ha hn ho
section
variable {prog : Program} {w : World} {A : Around} {E : Value → Shared → Prop} {s : Shared} {env : Env} {h₀ : Heap} {body : List Stmt} {Q : Flow → Shared → Prop}
theorem innerW {r c : Addr} {a₀ b₀ : Int} {t₀ u₀ v₀ : Tok} {m₀ : Str → Option Value} {rest : List (Addr × Obj)} {vs : List Value} {ns : List Int} {nc : Nat} {tz : Tok} (zz : Int) (l : Nat) (hl : 0 < l) (_hzz : m₀ (PySem.Str.ofString "zeta") = some (.int zz tz))
    (hh : A.handled = none) (hr : IsRange s.heap r a₀ b₀ 1 t₀ u₀ v₀) (hb : b₀ = a₀ + (l : Int)) (h0 : 0 ≤ a₀) (h256 : a₀ + 2 * (l : Int) ≤ 256)
    (F : Fr h₀ env.locals s.heap m₀) (N : News h₀ env.locals s.heap ((c, listOf vs.toArray nc) :: rest)) (hi : IntsAre vs ns) (hlen : ns.length = 256)
    (turn : ∀ (vs' : List Value) (ns' : List Int) (j : Int) t (u : Str → Option Value) h tk own, IntsAre vs' ns' → ns'.length = 256 → 0 ≤ j → j + (l : Int) < 256 → OwnOff own (c :: rest.map (·.1)) →
      Fr h₀ env.locals h (fun y => if y = PySem.Str.ofString "j" then some (.int j t) else if ([PySem.Str.ofString "t", PySem.Str.ofString "j"] : List Str).contains y then u y else m₀ y) → News h₀ env.locals h ((c, listOf vs'.toArray nc) :: (rest ++ own)) →
      wpAny (model prog w) A (execs body env) (InvPostN h₀ env.locals (InnJ c nc rest m₀ j (bflyI zz j l ns')) own (c :: rest.map (·.1)) { s with heap := h, toks := tk } Q) E { s with heap := h, toks := tk })
    (done : ∀ (vs' : List Value) t (u : Str → Option Value) h tk, IntsAre vs' (innerI zz l a₀ l ns) → Fr h₀ env.locals h (fun y => if y = PySem.Str.ofString "j" then some (.int (a₀ + (l : Int) - 1) t) else if ([PySem.Str.ofString "t", PySem.Str.ofString "j"] : List Str).contains y then u y else m₀ y) →
      News h₀ env.locals h ((c, listOf vs'.toArray nc) :: rest) → Q .next { s with heap := h, toks := tk }) :
    wpAny (model prog w) A (pyIter (.ref r)) (fun it s₂ => LoopAtV prog w A h₀ env (PySem.Str.ofString "j") body Q E it s₂) E s := by
  subst hb
  refine forR (σ := List Value) l (fun vs => (c, listOf vs.toArray nc) :: rest) [PySem.Str.ofString "t", PySem.Str.ofString "j"] (fun i vs => IntsAre vs (innerI zz l a₀ i ns)) vs hh hr (range_small h0 (by omega) (by omega)) (by rw [rangeSize_nat]; omega) hl F N hi ?_ ?_
  · intro vs' i t u h tk own hil hoff _ hP F' N'
    refine wpAny_mono (turn vs' _ (a₀ + (i : Int)) t u h tk own hP (by rw [innerI_len]; exact hlen) (by omega) (by omega) hoff F' N') (fun f s₂ p => ?_) fun _ _ x => x
    have up : InvEndN h₀ env.locals (InnJ c nc rest m₀ (a₀ + (i : Int)) (bflyI zz (a₀ + (i : Int)) l (innerI zz l a₀ i ns))) own (c :: rest.map (·.1)) { s with heap := h, toks := tk } s₂ →
        InvEndN h₀ env.locals (ForS (fun vs : List Value => (c, listOf vs.toArray nc) :: rest) (fun i vs => IntsAre vs (innerI zz l a₀ i ns)) (PySem.Str.ofString "j") [PySem.Str.ofString "t", PySem.Str.ofString "j"] m₀ (i + 1) (a₀ + (i : Int))) own (c :: rest.map (·.1)) { s with heap := h, toks := tk } s₂ := by
      rintro ⟨h', tk', m', news', nx', e', F', N', hn', ho', ha, vs', hc1, hc2, hc3, hc4⟩
      exact ⟨h', tk', m', news', nx', e', F', N', hn', ho', ha, vs', hc1, hc2, hc3, hc4⟩
    cases f with
    | ret v => exact p
    | brk => exact p
    | next => exact up p
    | cont => exact up p
  · intro vs' t u h tk hP F' N'
    exact done vs' t u h tk hP F' N'

theorem restW {r c : Addr} {t₀ u₀ v₀ : Tok} {m₀ : Str → Option Value} {rest : List (Addr × Obj)} {vs : List Value} {ns : List Int} {nc : Nat}
    (hh : A.handled = none) (hr : IsRange s.heap r 0 256 1 t₀ u₀ v₀)
    (F : Fr h₀ env.locals s.heap m₀) (N : News h₀ env.locals s.heap ((c, listOf vs.toArray nc) :: rest)) (hi : IntsAre vs ns) (hlen : ns.length = 256)
    (turn : ∀ (vs' : List Value) (ns' : List Int) (j : Int) t (u : Str → Option Value) h tk own, IntsAre vs' ns' → ns'.length = 256 → 0 ≤ j → j < 256 → OwnOff own (c :: rest.map (·.1)) →
      Fr h₀ env.locals h (fun y => if y = PySem.Str.ofString "j" then some (.int j t) else if ([PySem.Str.ofString "t", PySem.Str.ofString "j"] : List Str).contains y then u y else m₀ y) → News h₀ env.locals h ((c, listOf vs'.toArray nc) :: (rest ++ own)) →
      wpAny (model prog w) A (execs body env) (InvPostN h₀ env.locals (InnJ c nc rest m₀ j (modI j ns')) own (c :: rest.map (·.1)) { s with heap := h, toks := tk } Q) E { s with heap := h, toks := tk })
    (done : ∀ (vs' : List Value) t (u : Str → Option Value) h tk, IntsAre vs' (restA ns) → (restA ns).length = 256 → Fr h₀ env.locals h (fun y => if y = PySem.Str.ofString "j" then some (.int (0 + ((256 : Nat) : Int) - 1) t) else if ([PySem.Str.ofString "t", PySem.Str.ofString "j"] : List Str).contains y then u y else m₀ y) →
      News h₀ env.locals h ((c, listOf vs'.toArray nc) :: rest) → Q .next { s with heap := h, toks := tk }) :
    wpAny (model prog w) A (pyIter (.ref r)) (fun it s₂ => LoopAtV prog w A h₀ env (PySem.Str.ofString "j") body Q E it s₂) E s := by
  refine forR (σ := List Value) 256 (fun vs => (c, listOf vs.toArray nc) :: rest) [PySem.Str.ofString "t", PySem.Str.ofString "j"] (fun i vs => IntsAre vs (restI i ns)) vs hh hr (range_small (by omega) (by omega) (by omega)) (by rw [rangeSize_nat]; rfl) (by omega) F N hi ?_ ?_
  · intro vs' i t u h tk own hil hoff _ hP F' N'
    refine wpAny_mono (turn vs' _ (0 + (i : Int)) t u h tk own hP (by rw [restI_len]; exact hlen) (by omega) (by omega) hoff F' N') (fun f s₂ p => ?_) fun _ _ x => x
    have up : InvEndN h₀ env.locals (InnJ c nc rest m₀ (0 + (i : Int)) (modI (0 + (i : Int)) (restI i ns))) own (c :: rest.map (·.1)) { s with heap := h, toks := tk } s₂ →
        InvEndN h₀ env.locals (ForS (fun vs : List Value => (c, listOf vs.toArray nc) :: rest) (fun i vs => IntsAre vs (restI i ns)) (PySem.Str.ofString "j") [PySem.Str.ofString "t", PySem.Str.ofString "j"] m₀ (i + 1) (0 + (i : Int))) own (c :: rest.map (·.1)) { s with heap := h, toks := tk } s₂ := by
      rintro ⟨h', tk', m', news', nx', e', F', N', hn', ho', ha, vs', hc1, hc2, hc3, hc4⟩
      exact ⟨h', tk', m', news', nx', e', F', N', hn', ho', ha, vs', hc1, hc2, hc3, hc4⟩
    cases f with
    | ret v => exact p
    | brk => exact p
    | next => exact up p
    | cont => exact up p
  · intro vs' t u h tk hP F' N'
    exact done vs' t u h tk (by rw [← restA_eq]; exact hP) (by rw [restA_len]; exact hlen) F' N'

/-- a layer's numbers: half length l, blocks p -/
structure Lay (l p : Nat) : Prop where
  prod : l * p = 128
  two : 2 ≤ l
def MidE (h₀ : Heap) (L : Addr) (s : Shared) (c : Addr) (nc : Nat) (rest : List (Addr × Obj)) (m₀ : Str → Option Value) (K S : Int) (ns : List Int) (s₂ : Shared) : Prop :=
  ∃ (vs : List Value) (h' : Heap) (tk : Nat) (m' : Str → Option Value) (news' : List (Addr × Obj)) (t1 t2 : Tok), s₂ = { s with heap := h', toks := tk } ∧ Fr h₀ L h' m' ∧ News h₀ L h' news' ∧ (∀ p ∈ (c, listOf vs.toArray nc) :: rest, p ∈ news') ∧ IntsAre vs ns ∧
    m' (PySem.Str.ofString "k") = some (.int K t1) ∧ m' (PySem.Str.ofString "start") = some (.int S t2) ∧
    ∀ z, ([PySem.Str.ofString "k", PySem.Str.ofString "start", PySem.Str.ofString "zeta", PySem.Str.ofString "j", PySem.Str.ofString "t"] : List Str).contains z = false → m' z = m₀ z
def MidPost (h₀ : Heap) (L : Addr) (s : Shared) (c : Addr) (nc : Nat) (rest : List (Addr × Obj)) (m₀ : Str → Option Value) (K S : Int) (ns : List Int) (f : Flow) (s₂ : Shared) : Prop := f = .next ∧ MidE h₀ L s c nc rest m₀ K S ns s₂
theorem midPost_end {h₀ : Heap} {L : Addr} {s : Shared} {c : Addr} {nc : Nat} {rest : List (Addr × Obj)} {m₀ m' : Str → Option Value} {K S S' : Int} {ns : List Int} {vs : List Value} {h' : Heap} {tk : Nat} {news' : List (Addr × Obj)} {t1 t2 : Tok}
    (F : Fr h₀ L h' m') (N : News h₀ L h' news') (hn : ∀ p ∈ (c, listOf vs.toArray nc) :: rest, p ∈ news') (hi : IntsAre vs ns) (h1 : m' (PySem.Str.ofString "k") = some (.int K t1)) (h2 : m' (PySem.Str.ofString "start") = some (.int S' t2)) (hS : S' = S)
    (hr : ∀ z, ([PySem.Str.ofString "k", PySem.Str.ofString "start", PySem.Str.ofString "zeta", PySem.Str.ofString "j", PySem.Str.ofString "t"] : List Str).contains z = false → m' z = m₀ z) :
    MidPost h₀ L s c nc rest m₀ K S ns .next { s with heap := h', toks := tk } := ⟨rfl, vs, h', tk, m', news', t1, t2, rfl, F, N, hn, hi, h1, hS ▸ h2, hr⟩
theorem midW {L c : Addr} {test : Expr} {pos : Pos} {m₀ : Str → Option Value} {rest : List (Addr × Obj)} {vs : List Value} {ns : List Int} {nc : Nat} {tk₀ ts₀ : Tok} (l p : Nat) (hlay : Lay l p)
    (F : Fr h₀ L s.heap m₀) (N : News h₀ L s.heap ((c, listOf vs.toArray nc) :: rest)) (hi : IntsAre vs ns) (hlen : ns.length = 256)
    (hk : m₀ (PySem.Str.ofString "k") = some (.int (p : Int) tk₀)) (hs : m₀ (PySem.Str.ofString "start") = some (.int 0 ts₀))
    (turn : ∀ (vs' : List Value) (ns' : List Int) (k : Nat) (S : Int) t1 t2 (u : Str → Option Value) h tk, IntsAre vs' ns' → ns'.length = 256 → (k : Int) < 128 → 0 ≤ S → S + 2 * (l : Int) ≤ 256 → 0 ≤ zetaL.getD ((k : Int)).toNat 0 → zetaL.getD ((k : Int)).toNat 0 < 3329 →
      Fr h₀ L h (fun y => if y = PySem.Str.ofString "k" then some (.int (k : Int) t1) else if y = PySem.Str.ofString "start" then some (.int S t2) else if ([PySem.Str.ofString "k", PySem.Str.ofString "start", PySem.Str.ofString "zeta", PySem.Str.ofString "j", PySem.Str.ofString "t"] : List Str).contains y then u y else m₀ y) →
      News h₀ L h ((c, listOf vs'.toArray nc) :: rest) →
      wpAny (model prog w) A (isTrue test env (eval test env)) (fun b s₂ => if b = true then wpAny (model prog w) A (execs body env) (MidPost h₀ L s c nc rest m₀ ((k : Int) + 1) (S + 2 * (l : Int)) (innerI (zetaL.getD ((k : Int)).toNat 0) l S l ns')) E s₂ else False) E { s with heap := h, toks := tk })
    (done : ∀ (vs' : List Value) t1 t2 (u : Str → Option Value) h tk, IntsAre vs' (midI l p p ns) →
      Fr h₀ L h (fun y => if y = PySem.Str.ofString "k" then some (.int ((2 * p : Nat) : Int) t1) else if y = PySem.Str.ofString "start" then some (.int 256 t2) else if ([PySem.Str.ofString "k", PySem.Str.ofString "start", PySem.Str.ofString "zeta", PySem.Str.ofString "j", PySem.Str.ofString "t"] : List Str).contains y then u y else m₀ y) →
      News h₀ L h ((c, listOf vs'.toArray nc) :: rest) → wpAny (model prog w) A (isTrue test env (eval test env)) (fun b s₂ => if b = true then False else Q .next s₂) E { s with heap := h, toks := tk })
    (hE : PassesOwn (model prog w) A env E := by passes_own) :
    wpAny (model prog w) A (exec (.While test body [] pos) env) Q E s := by
  have hp : 0 < p := by
    have := hlay.prod
    rcases Nat.eq_zero_or_pos p with h | h
    · rw [h] at this; omega
    · exact h
  refine ksw_while (σ := Nat × List Value × Tok × Tok) (fun q => (c, listOf q.2.1.toArray nc) :: rest) (fun q => [(PySem.Str.ofString "k", .int ((p + q.1 : Nat) : Int) q.2.2.1), (PySem.Str.ofString "start", .int ((2 * l * q.1 : Nat) : Int) q.2.2.2)])
    (fun q => IntsAre q.2.1 (midI l p q.1 ns)) [PySem.Str.ofString "k", PySem.Str.ofString "start", PySem.Str.ofString "zeta", PySem.Str.ofString "j", PySem.Str.ofString "t"] (fun q => q.1 ≤ p) (fun q => p - q.1) (0, vs, tk₀, ts₀) F N hi ?_ (Nat.zero_le _) ?_ hE
  · intro q hq
    rcases List.mem_cons.mp hq with rfl | hq
    · simpa using hk
    · rcases List.mem_cons.mp hq with rfl | hq
      · simpa using hs
      · cases hq
  · rintro ⟨b, vs', t1, t2⟩ u h tk hf hb F' N'
    dsimp only at hf hb F' N' ⊢
    have F'' : Fr h₀ L h (fun y => if y = PySem.Str.ofString "k" then some (.int ((p + b : Nat) : Int) t1) else if y = PySem.Str.ofString "start" then some (.int ((2 * l * b : Nat) : Int) t2) else if ([PySem.Str.ofString "k", PySem.Str.ofString "start", PySem.Str.ofString "zeta", PySem.Str.ofString "j", PySem.Str.ofString "t"] : List Str).contains y then u y else m₀ y) := F'
    by_cases hbp : b = p
    · subst hbp
      have e1 : ((b + b : Nat) : Int) = ((2 * b : Nat) : Int) := by omega
      have e2 : ((2 * l * b : Nat) : Int) = 256 := by
        have h1 : 2 * l * b = 2 * (l * b) := Nat.mul_assoc 2 l b
        rw [h1, hlay.prod]; rfl
      rw [e1, e2] at F''
      refine wpAny_mono (done vs' t1 t2 u h tk hf F'' N') (fun r s₂ x => ?_) fun _ _ x => x
      cases r with
      | true => simp at x
      | false => simpa using x
    · have hlt : b < p := by omega
      have h1 : 2 * l * (b + 1) ≤ 2 * l * p := Nat.mul_le_mul_left _ hlt
      have h2 : 2 * l * (b + 1) = 2 * l * b + 2 * l := by rw [Nat.mul_add, Nat.mul_one]
      have h3 : 2 * l * p = 256 := by
        have h1 : 2 * l * p = 2 * (l * p) := Nat.mul_assoc 2 l p
        rw [h1, hlay.prod]
      have h4 : p + b < 128 := by
        have h5 : 2 * p ≤ l * p := Nat.mul_le_mul_right _ hlay.two
        rw [hlay.prod] at h5
        omega
      refine wpAny_mono (turn vs' _ (p + b) ((2 * l * b : Nat) : Int) t1 t2 u h tk hf (by rw [midI_len]; exact hlen) (by omega) (by omega) (by omega) (zeta_lo _) (zeta_hi _) F'' N') (fun r s₂ x => ?_) fun _ _ x => x
      cases r with
      | false => simp at x
      | true =>
        simp only [if_true] at x ⊢
        refine wpAny_mono x (fun f s₃ y => ?_) fun _ _ z => z
        obtain ⟨rfl, vs'', h', tk', m', news', t3, t4, rfl, Fz, Nz, hn, hI, e1, e2, hr⟩ := y
        refine ⟨(b + 1, vs'', t3, t4), h', tk', m', news', rfl, Fz, Nz, hn, hI, ?_, ?_, hlt, by show p - (b + 1) < p - b; omega⟩
        · intro q hq
          rcases List.mem_cons.mp hq with rfl | hq
          · show m' _ = _
            rw [e1]; congr 2 <;> omega
          · rcases List.mem_cons.mp hq with rfl | hq
            · show m' _ = _
              rw [e2]; congr 2 <;> omega
            · cases hq
        · intro z _ hz
          exact hr z hz
def OutPost (h₀ : Heap) (L : Addr) (s : Shared) (c : Addr) (nc : Nat) (rest : List (Addr × Obj)) (m₀ : Str → Option Value) (p l : Nat) (ns : List Int) (f : Flow) (s₂ : Shared) : Prop :=
  f = .next ∧ ∃ (vs : List Value) (h' : Heap) (tk : Nat) (m' : Str → Option Value) (news' : List (Addr × Obj)) (K l' : Int) (t1 t2 : Tok), s₂ = { s with heap := h', toks := tk } ∧ Fr h₀ L h' m' ∧ News h₀ L h' news' ∧ (∀ p ∈ (c, listOf vs.toArray nc) :: rest, p ∈ news') ∧ IntsAre vs ns ∧
    m' (PySem.Str.ofString "k") = some (.int K t1) ∧ K = ((2 * p : Nat) : Int) ∧ m' (PySem.Str.ofString "l") = some (.int l' t2) ∧ l' = ((l / 2 : Nat) : Int) ∧
    ∀ z, ([PySem.Str.ofString "k", PySem.Str.ofString "l", PySem.Str.ofString "start", PySem.Str.ofString "zeta", PySem.Str.ofString "j", PySem.Str.ofString "t"] : List Str).contains z = false → m' z = m₀ z
theorem outPost_end {h₀ : Heap} {L : Addr} {s : Shared} {c : Addr} {nc : Nat} {rest : List (Addr × Obj)} {m₀ m' : Str → Option Value} {p l : Nat} {ns : List Int} {vs : List Value} {h' : Heap} {tk : Nat} {news' : List (Addr × Obj)} {K l' : Int} {t1 t2 : Tok}
    (F : Fr h₀ L h' m') (N : News h₀ L h' news') (hn : ∀ p ∈ (c, listOf vs.toArray nc) :: rest, p ∈ news') (hi : IntsAre vs ns) (h1 : m' (PySem.Str.ofString "k") = some (.int K t1)) (h2 : K = ((2 * p : Nat) : Int)) (h3 : m' (PySem.Str.ofString "l") = some (.int l' t2)) (h4 : l' = ((l / 2 : Nat) : Int))
    (hr : ∀ z, ([PySem.Str.ofString "k", PySem.Str.ofString "l", PySem.Str.ofString "start", PySem.Str.ofString "zeta", PySem.Str.ofString "j", PySem.Str.ofString "t"] : List Str).contains z = false → m' z = m₀ z) :
    OutPost h₀ L s c nc rest m₀ p l ns .next { s with heap := h', toks := tk } := ⟨rfl, vs, h', tk, m', news', K, l', t1, t2, rfl, F, N, hn, hi, h1, h2, h3, h4, hr⟩
theorem lay_at : ∀ e : Nat, e < 7 → Lay (128 >>> e) (2 ^ e) := fun e he => by
  have h1 : (128 >>> e) * 2 ^ e = 128 ∧ 2 ≤ 128 >>> e := by
    match e, he with
    | 0, _ => decide
    | 1, _ => decide
    | 2, _ => decide
    | 3, _ => decide
    | 4, _ => decide
    | 5, _ => decide
    | 6, _ => decide
  exact ⟨h1.1, h1.2⟩
theorem outW {L c : Addr} {test : Expr} {pos : Pos} {m₀ : Str → Option Value} {rest : List (Addr × Obj)} {vs : List Value} {ns : List Int} {nc : Nat} {tk₀ ts₀ : Tok}
    (F : Fr h₀ L s.heap m₀) (N : News h₀ L s.heap ((c, listOf vs.toArray nc) :: rest)) (hi : IntsAre vs ns) (hlen : ns.length = 256)
    (hk : m₀ (PySem.Str.ofString "k") = some (.int 1 tk₀)) (hs : m₀ (PySem.Str.ofString "l") = some (.int 128 ts₀))
    (turn : ∀ (vs' : List Value) (ns' : List Int) (l p : Nat) t1 t2 (u : Str → Option Value) h tk, Lay l p → l ≤ 128 → IntsAre vs' ns' → ns'.length = 256 →
      Fr h₀ L h (fun y => if y = PySem.Str.ofString "k" then some (.int (p : Int) t1) else if y = PySem.Str.ofString "l" then some (.int (l : Int) t2) else if ([PySem.Str.ofString "k", PySem.Str.ofString "l", PySem.Str.ofString "start", PySem.Str.ofString "zeta", PySem.Str.ofString "j", PySem.Str.ofString "t"] : List Str).contains y then u y else m₀ y) →
      News h₀ L h ((c, listOf vs'.toArray nc) :: rest) →
      wpAny (model prog w) A (isTrue test env (eval test env)) (fun b s₂ => if b = true then wpAny (model prog w) A (execs body env) (OutPost h₀ L s c nc rest m₀ p l (midI l p p ns')) E s₂ else False) E { s with heap := h, toks := tk })
    (done : ∀ (vs' : List Value) t1 t2 (u : Str → Option Value) h tk, IntsAre vs' (outA ns) → (outA ns).length = 256 →
      Fr h₀ L h (fun y => if y = PySem.Str.ofString "k" then some (.int 128 t1) else if y = PySem.Str.ofString "l" then some (.int 1 t2) else if ([PySem.Str.ofString "k", PySem.Str.ofString "l", PySem.Str.ofString "start", PySem.Str.ofString "zeta", PySem.Str.ofString "j", PySem.Str.ofString "t"] : List Str).contains y then u y else m₀ y) →
      News h₀ L h ((c, listOf vs'.toArray nc) :: rest) → wpAny (model prog w) A (isTrue test env (eval test env)) (fun b s₂ => if b = true then False else Q .next s₂) E { s with heap := h, toks := tk })
    (hE : PassesOwn (model prog w) A env E := by passes_own) :
    wpAny (model prog w) A (exec (.While test body [] pos) env) Q E s := by
  refine ksw_while (σ := Nat × List Value × Tok × Tok) (fun q => (c, listOf q.2.1.toArray nc) :: rest) (fun q => [(PySem.Str.ofString "k", .int ((2 ^ q.1 : Nat) : Int) q.2.2.1), (PySem.Str.ofString "l", .int ((128 >>> q.1 : Nat) : Int) q.2.2.2)])
    (fun q => IntsAre q.2.1 (outI q.1 ns)) [PySem.Str.ofString "k", PySem.Str.ofString "l", PySem.Str.ofString "start", PySem.Str.ofString "zeta", PySem.Str.ofString "j", PySem.Str.ofString "t"] (fun q => q.1 ≤ 7) (fun q => 7 - q.1) (0, vs, tk₀, ts₀) F N hi ?_ (Nat.zero_le _) ?_ hE
  · intro q hq
    rcases List.mem_cons.mp hq with rfl | hq
    · exact hk
    · rcases List.mem_cons.mp hq with rfl | hq
      · exact hs
      · cases hq
  · rintro ⟨e, vs', t1, t2⟩ u h tk hf he F' N'
    dsimp only at hf he F' N' ⊢
    have F'' : Fr h₀ L h (fun y => if y = PySem.Str.ofString "k" then some (.int ((2 ^ e : Nat) : Int) t1) else if y = PySem.Str.ofString "l" then some (.int ((128 >>> e : Nat) : Int) t2) else if ([PySem.Str.ofString "k", PySem.Str.ofString "l", PySem.Str.ofString "start", PySem.Str.ofString "zeta", PySem.Str.ofString "j", PySem.Str.ofString "t"] : List Str).contains y then u y else m₀ y) := F'
    by_cases he7 : e = 7
    · subst he7
      refine wpAny_mono (done vs' t1 t2 u h tk (by rw [← outA_eq]; exact hf) (by rw [outA_len]; exact hlen) F'' N') (fun r s₂ x => ?_) fun _ _ x => x
      cases r with
      | true => simp at x
      | false => simpa using x
    · have hlt : e < 7 := by omega
      refine wpAny_mono (turn vs' _ (128 >>> e) (2 ^ e) t1 t2 u h tk (lay_at e hlt) (by rw [Nat.shiftRight_eq_div_pow]; exact Nat.div_le_self _ _) hf (by rw [outI_len]; exact hlen) F'' N') (fun r s₂ x => ?_) fun _ _ x => x
      cases r with
      | false => simp at x
      | true =>
        simp only [if_true] at x ⊢
        refine wpAny_mono x (fun f s₃ y => ?_) fun _ _ z => z
        obtain ⟨rfl, vs'', h', tk', m', news', K, l', t3, t4, rfl, Fz, Nz, hn, hI, e1, rfl, e2, rfl, hr⟩ := y
        refine ⟨(e + 1, vs'', t3, t4), h', tk', m', news', rfl, Fz, Nz, hn, hI, ?_, ?_, hlt, by show 7 - (e + 1) < 7 - e; omega⟩
        · intro q hq
          rcases List.mem_cons.mp hq with rfl | hq
          · show m' _ = _
            rw [e1, Nat.pow_succ, Nat.mul_comm]
          · rcases List.mem_cons.mp hq with rfl | hq
            · show m' _ = _
              rw [e2, Nat.shiftRight_succ]
            · cases hq
        · intro z _ hz
          exact hr z hz
end
end PartNttL
section PartNtt
local macro_rules | `(tactic| walk_at "exec While Compare") => `(tactic| (k_here; (with_reducible show wpAny _ _ (exec (Stmt.While (Expr.Compare (Expr.Name (PySem.Str.ofString "l") _) _ _ _) _ _ _) _) _ _ _); (rename Fr _ _ _ _ => lF'); (rename News _ _ _ _ => lN'); k_dflt (refine' outW lF' (news_tail lN') ?hi ?hl ?hk ?hs ?_ ?_; (case hi => assumption); (case hl => assumption); (case hk => exact rfl); (case hs => exact rfl)); (all_goals (clear lF' lN')); (all_goals (first | (intro vs' ns' l' p' t1' t2' u' h' tk' hlay' hle' hi' hlen' F' N'; (have h2' : (2 : Int) ≤ (l' : Int) := by (have := hlay'.two; omega))) | (intro vs' t1' t2' u' h' tk' hi' hlen' F' N'))); (all_goals (try k_fold))))
local macro_rules | `(tactic| walk_at "exec While Compare") => `(tactic| (k_here; (with_reducible show wpAny _ _ (exec (Stmt.While (Expr.Compare (Expr.Name (PySem.Str.ofString "start") _) _ _ _) _ _ _) _) _ _ _); (rename Fr _ _ _ _ => lF'); (rename News _ _ _ _ => lN'); (rename Lay _ _ => lLay); k_dflt (refine' midW _ _ lLay lF' lN' ?hi ?hl ?hk ?hs ?_ ?_; (case hi => assumption); (case hl => assumption); (case hk => exact rfl); (case hs => exact rfl)); (all_goals (clear lF' lN')); (all_goals (first | (intro vs' ns' k' S' t1' t2' u' h' tk' hi' hlen' hk' hS' hSl' hzl' hzh' F' N') | (intro vs' t1' t2' u' h' tk' hi' F' N'))); (all_goals (try k_fold))))
local macro_rules | `(tactic| walk_at "exec For Name Call cons nil") => `(tactic| (k_here; (rename Fr _ _ _ _ => lF'); (with_unfolding_all refine' For_invVF lF' ?k1 ?k2 ?_; (case k1 => exact rfl); (case k2 => exact rfl); k_whole)))
local macro_rules | `(tactic| walk_at "pyIter ref") => `(tactic| (k_here; (with_reducible show wpAny _ _ (pyIter (Value.ref _)) (fun it s₂ => LoopAtV _ _ _ _ _ (PySem.Str.ofString "j") _ _ _ it s₂) _ _); (rename Fr _ _ _ _ => lF'); (rename News _ _ _ _ => lN'); (rename IsRange _ _ _ _ _ _ _ _ => lR'); k_dflt (refine' restW ?hh lR' lF' lN' ?hi ?hlen ?_ ?_; (case hh => exact rfl); (case hi => assumption); (case hlen => assumption)); (all_goals (clear lF' lN')); (all_goals (first | (intro vs' ns' j' t' u' h' tk' own' hi' hlen' hj0' hj1' hoff' F' N'; (try dsimp only [List.cons_append] at N')) | (intro vs' t' u' h' tk' hi' hlen' F' N'))); (all_goals (try k_fold))))
local macro_rules | `(tactic| walk_at "pyIter ref") => `(tactic| (k_here; (with_reducible show wpAny _ _ (pyIter (Value.ref _)) (fun it s₂ => LoopAtV _ _ _ _ _ (PySem.Str.ofString "j") _ _ _ it s₂) _ _); (rename Lay _ _ => lLay); (rename Fr _ _ _ _ => lF'); (rename News _ _ _ _ => lN'); (rename IsRange _ _ _ _ _ _ _ _ => lR'); k_dflt (refine' innerW _ _ ?hl0 ?hzz ?hh lR' ?hb ?h0 ?h256 lF' lN' ?hi ?hlen ?_ ?_; (case hzz => exact rfl); (case hb => exact rfl); (case hl0 => exact Nat.lt_of_lt_of_le (by decide) lLay.two); (case hh => exact rfl); (case h0 => assumption); (case h256 => assumption); (case hi => assumption); (case hlen => assumption)); (all_goals (clear lF' lN')); (all_goals (first | (intro vs' ns' j' t' u' h' tk' own' hi' hlen' hj0' hj1' hoff' F' N'; (try dsimp only [List.cons_append] at N')) | (intro vs' t' u' h' tk' hi' F' N'))); (all_goals (try k_fold))))

theorem half_eq (l : Nat) : ((l : Int)).fdiv (2 ^ Int.toNat 1) = ((l / 2 : Nat) : Int) := by
  show ((l : Int)).fdiv 2 = _
  rw [Int.fdiv_eq_ediv_of_nonneg _ (by omega)]
  omega
theorem ntt_spec {w : World} {mean : ExcName → Option Value} {mg mb : Str → Option Value} {dp un : Nat} {gd : Option (List Code)} {cn : Str} {cs : Scope} {a : Addr} {ccd : Value} {cl : List (Str × Addr)} {outer : List Env} {A₀ : Around} {base h₀ : Heap} {L : Addr} {m : Str → Option Value} {s : Shared} {Q E : Value → Shared → Prop}
    {rest : List (Addr × Obj)} {px pd rx rd z c : Addr} {ys vs : List Value} {ns : List Int} {nc : Nat} {t1 t2 t3 t4 t5 t6 t7 u1 u2 : Tok}
    (B : Below A₀ base outer h₀) (F : Fr h₀ L s.heap m) (X : (KF w.params).In h₀)
    (N : News h₀ L s.heap ((c, listOf vs.toArray nc) :: (z, listOf ys.toArray ys.length) :: (px, instObj 350 pd) :: (pd, dictOf [⟨PyData.keyHash w.params (PySem.Str.ofString "parent"), .str (PySem.Str.ofString "parent") u1, .ref rx⟩, ⟨PyData.keyHash w.params (PySem.Str.ofString "coeffs"), .str (PySem.Str.ofString "coeffs") u2, .ref c⟩] 2) ::
      (rx, instObj 282 rd) :: (rd, dictOf [⟨PyData.keyHash w.params (PySem.Str.ofString "q"), .str (PySem.Str.ofString "q") t1, .int 3329 t2⟩, ⟨PyData.keyHash w.params (PySem.Str.ofString "n"), .str (PySem.Str.ofString "n") t3, .int 256 t4⟩, ⟨PyData.keyHash w.params (PySem.Str.ofString "ntt_zetas"), .str (PySem.Str.ofString "ntt_zetas") t5, .ref z⟩, ⟨PyData.keyHash w.params (PySem.Str.ofString "ntt_f"), .str (PySem.Str.ofString "ntt_f") t6, .int 3303 t7⟩] 4) :: rest))
    (T : Top vw (looseW vw LS) mean mg mb h₀) (hk : cs.kind = .function) (hd : dp + 30 < 1000) (hu : un + 300 < 9900)
    (hi : IntsAre vs ns) (hl : ns.length = 256) (hz : IntsAre ys zetaL) (n1 : @Ne Nat z c) (n2 : @Ne Nat px c) (n3 : @Ne Nat pd c) (n4 : @Ne Nat rx c) (n5 : @Ne Nat rd c) (off : ∀ p ∈ rest, p.1 ≠ c)
    (ret : ∀ y d v1 v2 vs' h' tk', Fr h₀ L h' m → News h₀ L h' ((y, instObj 426 d) :: (d, dictOf [⟨PyData.keyHash w.params (PySem.Str.ofString "parent"), .str (PySem.Str.ofString "parent") v1, .ref rx⟩, ⟨PyData.keyHash w.params (PySem.Str.ofString "coeffs"), .str (PySem.Str.ofString "coeffs") v2, .ref c⟩] 2) :: (c, listOf vs'.toArray nc) :: rest) →
      IntsAre vs' (restA (outA ns)) → AllLt d rest → @LT.lt Nat _ c d → @LT.lt Nat _ d y → Q (.ref y) { s with heap := h', toks := tk' }) :
    wpAny (model PySem.Challenge.rw_yi0041_01.row.prog w) (ktrTop dp un gd cn cs L a ccd cl outer) (call (.ref 340) [.ref px]) Q E s := by
  have hzl := zetaL_len
  refine wpAny_call ?_
  k_dflt k_enter
  k_steps
  · refine' innJ_end ?F ?N ?hi ?hn ?ho ?ha ?hx ?hr
    (case F => assumption)
    (case hi => rw [← bflyI_eq]; assumption)
    (case N => assumption)
    (case hn => k_allIn)
    (case ho => k_allIn)
    (case ha => rfl)
    (case hx => exact ⟨_, rfl⟩)
    (case hr => intro z hz; simp only [List.contains_cons, List.contains_nil, Bool.or_false, Bool.or_eq_false_iff, beq_eq_false_iff_ne, ne_eq] at hz; simp [hz])
  · refine' midPost_end ?F ?N ?hn ?hi ?h1 ?h2 ?hS ?hr
    (case F => assumption)
    (case hi => assumption)
    (case N => assumption)
    (case hn => k_allIn)
    (case h1 => rfl)
    (case h2 => rfl)
    (case hS => omega)
    (case hr => intro z hz; simp only [List.contains_cons, List.contains_nil, Bool.or_false, Bool.or_eq_false_iff, beq_eq_false_iff_ne, ne_eq] at hz; simp [hz])
  · refine' outPost_end ?F ?N ?hn ?hi ?h1 ?h2 ?h3 ?h4 ?hr
    (case F => assumption)
    (case hi => assumption)
    (case N => assumption)
    (case hn => k_allIn)
    (case h1 => rfl)
    (case h2 => rfl)
    (case h3 => rfl)
    (case h4 => exact half_eq _)
    (case hr => intro z hz; simp only [List.contains_cons, List.contains_nil, Bool.or_false, Bool.or_eq_false_iff, beq_eq_false_iff_ne, ne_eq] at hz; simp [hz])
  · refine' innJ_end ?F ?N ?hi ?hn ?ho ?ha ?hx ?hr
    (case F => assumption)
    (case hi => rw [← modI_eq]; assumption)
    (case N => assumption)
    (case hn => k_allIn)
    (case ho => k_allIn)
    (case ha => rfl)
    (case hx => exact ⟨_, rfl⟩)
    (case hr => intro z hz; simp only [List.contains_cons, List.contains_nil, Bool.or_false, Bool.or_eq_false_iff, beq_eq_false_iff_ne, ne_eq] at hz; simp [hz])
  · refine' ret _ _ _ _ _ _ _ ?e1 (news_sub ?e2 ?e3) ?e4 ?e5 ?e6 ?e7
    (case e1 => assumption)
    (case e2 => assumption)
    (case e3 => k_allIn)
    (case e4 => assumption)
    (case e5 => exact And.right (And.right (And.right (And.right (And.right (And.right (by assumption))))))) 
    (case e6 => omega)
    (case e7 => omega)
end PartNtt
section PartTake
/-- the drawing state: a place, the cells -/
structure TakeOk (pos : Int) (vs : List Value) (ns : List Int) : Prop where
  q1 : IntsAre vs ns
  q2 : ∀ n ∈ ns, 0 ≤ n
  q3 : 0 < ns.length
  q4 : ns.length ≤ 63
  q5 : 0 ≤ pos
theorem take_spec {w : World} {mean : ExcName → Option Value} {mg mb : Str → Option Value} {dp un : Nat} {gd : Option (List Code)} {cn : Str} {cs : Scope} {a : Addr} {ccd : Value} {cl : List (Str × Addr)} {outer : List Env} {A₀ : Around} {base h₀ : Heap} {L : Addr} {m : Str → Option Value} {s : Shared} {Q E : Value → Shared → Prop}
    {rest : List (Addr × Obj)} {sa ca : Addr} {pos most : Int} {tp tm : Tok} {ns : List Int} {vs : List Value} {n1 n2 : Nat}
    (B : Below A₀ base outer h₀) (F : Fr h₀ L s.heap m) (X : (KF w.params).In h₀)
    (N : News h₀ L s.heap ((sa, listOf #[.int pos tp, .ref ca] n1) :: (ca, listOf vs.toArray n2) :: rest))
    (T : Top vw (looseW vw LS) mean mg mb h₀) (hk : cs.kind = .function) (hd : dp + 8 < 1000) (hu : un + 100 < 9900)
    (hne : @Ne Nat sa ca) (off : OwnOff rest [sa, ca]) (ok : TakeOk pos vs ns) (hp2 : pos < 1000) (hm : 1 ≤ most) (hm2 : most ≤ 10 ^ 9)
    (ret : ∀ v tv pos' tp' vs' ns' h' tk', Fr h₀ L h' m → News h₀ L h' ((sa, listOf #[.int pos' tp', .ref ca] n1) :: (ca, listOf vs'.toArray n2) :: rest) → TakeOk pos' vs' ns' → pos' ≤ pos + 1 → 0 ≤ v → v < most → Q (.int v tv) { s with heap := h', toks := tk' }) :
    wpAny (model PySem.Challenge.rw_yi0041_01.row.prog w) (ktrTop dp un gd cn cs L a ccd cl outer) (call (.ref 440) [.ref sa, .int most tm]) Q E s := by
  obtain ⟨hi, h0, hl, hl63, hp⟩ := ok
  refine wpAny_call ?_
  k_dflt k_enter
  k_steps
  · refine ret _ _ _ _ _ _ _ _ (by assumption) (by assumption) ⟨by assumption, ?_, ?_, ?_, hp⟩ (by omega) ?_ ?_
    · intro n hn
      rcases List.mem_or_eq_of_mem_set hn with h | h
      · exact h0 n h
      · subst h
        rw [Int.fdiv_eq_ediv_of_nonneg _ (by omega)]
        exact Int.ediv_nonneg (by omega) (by omega)
    · rw [List.length_set]; exact hl
    · rw [List.length_set]; exact hl63
    · rw [Int.fmod_eq_emod_of_nonneg _ (by omega)]
      exact Int.emod_nonneg _ (by omega)
    · rw [Int.fmod_eq_emod_of_nonneg _ (by omega)]
      exact Int.emod_lt_of_pos _ (by omega)
  · refine ret _ _ _ _ _ _ _ _ (by assumption) (by assumption) ⟨hi, h0, hl, hl63, by omega⟩ (by omega) ?_ ?_
    · rw [Int.fmod_eq_emod_of_nonneg _ (by omega)]
      exact Int.emod_nonneg _ (by omega)
    · rw [Int.fmod_eq_emod_of_nonneg _ (by omega)]
      exact Int.emod_lt_of_pos _ (by omega)
theorem updF_mem {d : Addr} {o : Obj} {l : List (Addr × Obj)} {g : Obj → List (Addr × Obj)} (U : UpdF d o l g) (o' : Obj) : ∀ p ∈ g o', p = (d, o') ∨ (p ∈ l ∧ p.1 ≠ d) := by
  obtain ⟨pre, post, e1, e2, h1, h2⟩ := U.split
  intro p hp
  rw [e2] at hp
  rw [e1]
  rcases List.mem_append.mp hp with h | h
  · exact .inr ⟨List.mem_append_left _ h, h1 p h⟩
  · rcases List.mem_cons.mp h with h | h
    · exact .inl h
    · exact .inr ⟨List.mem_append_right _ (.tail _ h), h2 p h⟩
theorem updF_here {d : Addr} {o : Obj} {l : List (Addr × Obj)} {g : Obj → List (Addr × Obj)} (U : UpdF d o l g) : (d, o) ∈ l := by
  obtain ⟨pre, post, e1, _, _, _⟩ := U.split
  rw [e1]
  exact List.mem_append_right _ (.head _)
theorem take_gen {w : World} {mean : ExcName → Option Value} {mg mb : Str → Option Value} {dp un : Nat} {gd : Option (List Code)} {cn : Str} {cs : Scope} {a : Addr} {ccd : Value} {cl : List (Str × Addr)} {outer : List Env} {A₀ : Around} {base h₀ : Heap} {L : Addr} {m : Str → Option Value} {s : Shared} {Q E : Value → Shared → Prop}
    {news : List (Addr × Obj)} {u1 : Obj → List (Addr × Obj)} {u2 : Obj → Obj → List (Addr × Obj)} {sa ca : Addr} {pos most : Int} {tp tm : Tok} {ns : List Int} {vs : List Value} {n1 n2 : Nat}
    (B : Below A₀ base outer h₀) (F : Fr h₀ L s.heap m) (X : (KF w.params).In h₀)
    (N : News h₀ L s.heap news)
    (T : Top vw (looseW vw LS) mean mg mb h₀) (hk : cs.kind = .function) (hd : dp + 8 < 1000) (hu : un + 100 < 9900)
    (U1 : UpdF sa (listOf #[.int pos tp, .ref ca] n1) news u1) (U2 : ∀ o, UpdF ca (listOf vs.toArray n2) (u1 o) (u2 o)) (hne : @Ne Nat sa ca)
    (ok : TakeOk pos vs ns) (hp2 : pos < 1000) (hm : 1 ≤ most) (hm2 : most ≤ 10 ^ 9)
    (ret : ∀ v tv pos' tp' vs' ns' h' tk', Fr h₀ L h' m → News h₀ L h' (u2 (listOf #[.int pos' tp', .ref ca] n1) (listOf vs'.toArray n2)) → TakeOk pos' vs' ns' → pos' ≤ pos + 1 → 0 ≤ v → v < most → Q (.int v tv) { s with heap := h', toks := tk' }) :
    wpAny (model PySem.Challenge.rw_yi0041_01.row.prog w) (ktrTop dp un gd cn cs L a ccd cl outer) (call (.ref 440) [.ref sa, .int most tm]) Q E s := by
  have hm1 : (ca, listOf vs.toArray n2) ∈ news := by
    rcases updF_mem U1 (listOf #[] 0) _ (updF_here (U2 (listOf #[] 0))) with h | h
    · exact absurd (congrArg Prod.fst h).symm hne
    · exact h.1
  refine take_spec (rest := news.filter fun p => decide (p.1 ≠ sa) && decide (p.1 ≠ ca)) (n1 := n1) (n2 := n2) (tp := tp) B F X (fun p hp => ?_) T hk hd hu hne ?_ ok hp2 hm hm2 ?_
  · cases hp with
    | head => exact N _ (updF_here U1)
    | tail _ hp =>
      cases hp with
      | head => exact N _ hm1
      | tail _ hp => exact N _ (List.mem_filter.mp hp).1
  · intro p hp b hb
    have h := (List.mem_filter.mp hp).2
    simp only [Bool.and_eq_true, decide_eq_true_eq] at h
    cases hb with
    | head => exact h.1
    | tail _ hb =>
      cases hb with
      | head => exact h.2
      | tail _ hb => cases hb
  · intro v tv pos' tp' vs' ns' h' tk' F' N' ok' h1 h2 h3
    refine ret v tv pos' tp' vs' ns' h' tk' F' (fun p hp => ?_) ok' h1 h2 h3
    rcases updF_mem (U2 _) _ p hp with h | ⟨h, hc⟩
    · rw [h]
      exact N' _ (.tail _ (.head _))
    · rcases updF_mem U1 _ p h with h | ⟨h, hs⟩
      · rw [h]
        exact N' _ (.head _)
      · exact N' _ (.tail _ (.tail _ (List.mem_filter.mpr ⟨h, by simp [hs, hc]⟩)))
end PartTake
section PartKeysL
/-- what a turn over a dict's keys leaves -/
def KeyS {σ : Type} (Led : σ → List (Addr × Obj)) (P : Nat → σ → Prop) (stored : List Str) (m₀ : Str → Option Value) (i : Nat) (m : Str → Option Value) (nx : List (Addr × Obj)) : Prop :=
  ∃ c : σ, nx = Led c ∧ P i c ∧ ∀ z, stored.contains z = false → m z = m₀ z
section
variable {prog : Program} {w : World} {A : Around} {E : Value → Shared → Prop} {s : Shared} {env : Env} {h₀ : Heap} {x : Str} {body : List Stmt} {Q : Flow → Shared → Prop}
theorem keyS_end {σ : Type} {Led : σ → List (Addr × Obj)} {P : Nat → σ → Prop} {stored : List Str} {m₀ m' : Str → Option Value} {i : Nat} {L : Addr} {own news' : List (Addr × Obj)} {adr : List Addr} {s₁ : Shared} {h' : Heap} {tk : Nat} (c : σ)
    (F : Fr h₀ L h' m') (N : News h₀ L h' news') (hn : ∀ p ∈ Led c, p ∈ news') (ho : ∀ p ∈ own, p ∈ news') (ha : (Led c).map (·.1) = adr) (hp : P i c) (hr : ∀ z, stored.contains z = false → m' z = m₀ z) :
    InvEndN h₀ L (KeyS Led P stored m₀ i) own adr s₁ { s₁ with heap := h', toks := tk } :=
  InvEndN.intro F N ⟨c, rfl, hp, hr⟩ ha hn ho
theorem forKeys {σ : Type} {d : Addr} {o : Obj} {kvs : List (Int × Value)} {m₀ : Str → Option Value} (Led : σ → List (Addr × Obj)) (stored : List Str) (P : Nat → σ → Prop) (c₀ : σ)
    (hh : A.handled = none) (hin : ∀ c, (d, o) ∈ Led c) (hd : o.IsDictOf (PySem.intKind prog w) kvs) (lo : (d == sysModules) = false) (F : Fr h₀ env.locals s.heap m₀) (N : News h₀ env.locals s.heap (Led c₀)) (hp : P 0 c₀)
    (turn : ∀ (c : σ) (i : Nat) (k : Int) (v : Value) t (u : Str → Option Value) h tk own, kvs[i]? = some (k, v) → OwnOff own ((Led c₀).map (·.1)) → (Led c).map (·.1) = (Led c₀).map (·.1) → P i c →
      Fr h₀ env.locals h (fun y => if y = x then some (.int k t) else if stored.contains y then u y else m₀ y) → News h₀ env.locals h (Led c ++ own) →
      wpAny (model prog w) A (execs body env) (InvPostN h₀ env.locals (KeyS Led P stored m₀ (i + 1)) own ((Led c₀).map (·.1)) { s with heap := h, toks := tk } Q) E { s with heap := h, toks := tk })
    (done : ∀ (c : σ) (u : Str → Option Value) h tk, P kvs.length c → Fr h₀ env.locals h (fun y => if stored.contains y then u y else m₀ y) → News h₀ env.locals h (Led c) → Q .next { s with heap := h, toks := tk }) :
    wpAny (model prog w) A (pyIter (.ref d)) (fun it s₂ => LoopAtV prog w A h₀ env x body Q E it s₂) E s := by
  obtain ⟨ep, ka⟩ := KdkAt.of hd
  have hod : s.heap.get? d = some o := (N _ (hin c₀)).1
  have hm : s.heap.DictAt (PySem.intKind prog w) d kvs ep := ka.dictAt hod
  have hdI : d ≠ s.heap.objs.size := Nat.ne_of_lt (Heap.lt_size hod)
  refine wpAny_pyIter_dict lo hm ?_
  have W : Walks prog w A s.heap.objs.size [s.heap.objs.size, d] [s.heap.objs.size] kvs.length _ _ := Walks.dictKeys (knd := PySem.intKind prog w) hh s.heap.objs.size d hdI kvs ep
  have same : ∀ m₁ : Str → Option Value, (∀ z, stored.contains z = false → m₁ z = m₀ z) → (fun y => if stored.contains y then m₁ y else m₀ y) = m₁ := fun m₁ hr => by
    funext y
    cases hs : stored.contains y with
    | true => simp
    | false => simp only [Bool.false_eq_true, if_false]; exact (hr y hs).symm
  refine ⟨s.heap.objs.size, _, _, kvs.length, _, _, m₀, Led c₀, (fun i m nx => nx.map (·.1) = (Led c₀).map (·.1) ∧ KeyS Led P stored m₀ i m nx), rfl, W, ?_, ?_, ?_, ⟨⟨_, Heap.get?_push_size _ rfl, rfl, rfl⟩, hm.push _⟩, F.push _, (fun p hp => ⟨Heap.get?_push_of_some _ (N p hp).1, (N p hp).2⟩), ⟨rfl, c₀, rfl, hp, fun _ _ => rfl⟩, ?_, ?_⟩
  · intro hm
    rcases List.mem_cons.mp hm with e | e
    · exact absurd F.ns.lt (e ▸ Nat.lt_irrefl _)
    · exact (N _ (hin c₀)).2.1 (List.mem_singleton.mp e).symm
  · intro b hb
    rw [List.mem_singleton.mp hb]
    exact next_is_new F
  · intro p hp hI
    exact absurd (Heap.lt_size (N p hp).1) ((List.mem_singleton.mp hI) ▸ Nat.lt_irrefl _)
  · rintro i v m₁ news₁ s₁ own ⟨hh', tk', rfl⟩ hi ⟨k, xv, hk, hkey⟩ ⟨hadr, c, rfl, hP, hr⟩ hoff hown hget _ _ F₁ N₁
    obtain ⟨t, rfl⟩ := Value.isInt_shape hkey
    -- the walk's own part: the iterator alone
    have hsep : OwnOff (own.filter fun p => decide (p.1 = s.heap.objs.size)) ((Led c₀).map (·.1)) := fun p hp b hb e => by
      obtain ⟨q, hq, rfl⟩ := List.mem_map.mp hb
      have h1 : p.1 = s.heap.objs.size := by simpa using (List.mem_filter.mp hp).2
      exact absurd (Heap.lt_size (N q hq).1) (by rw [← e, h1]; exact Nat.lt_irrefl _)
    have hkeep : ∀ p ∈ own, p.1 = s.heap.objs.size ∨ p = (d, o) := fun p hp => by
      rcases List.mem_cons.mp (hown p hp) with h1 | h1
      · exact .inl h1
      · have h2 : p.1 = d := List.mem_singleton.mp h1
        have h3 := hget p hp
        have h4 := (N₁ _ (List.mem_append.mpr (.inr (hin c)))).1
        rw [h2] at h3
        rw [h4] at h3
        exact .inr (Prod.ext h2 (Option.some.inj h3).symm)
    have F₂ : Fr h₀ env.locals hh' (fun y => if y = x then some (Value.int k t) else if stored.contains y then m₁ y else m₀ y) := by
      have e := same m₁ hr
      have e' : (fun y => if y = x then some (Value.int k t) else if stored.contains y then m₁ y else m₀ y) = fun y => if y = x then some (Value.int k t) else m₁ y := by
        funext y
        by_cases hy : y = x
        · rw [if_pos hy, if_pos hy]
        · rw [if_neg hy, if_neg hy]; exact congrFun e y
      rw [e']
      exact F₁
    have N₂ : News h₀ env.locals hh' (Led c ++ own.filter fun p => decide (p.1 = s.heap.objs.size)) := fun p hp => N₁ p (by
      rcases List.mem_append.mp hp with h1 | h1
      · exact List.mem_append.mpr (.inr h1)
      · exact List.mem_append.mpr (.inl (List.mem_filter.mp h1).1))
    refine wpAny_mono (turn c i k xv t m₁ hh' tk' _ hk hsep hadr hP F₂ N₂) (fun f s₂ p => ?_) fun _ _ e => e
    have fin : InvEndN h₀ env.locals (KeyS Led P stored m₀ (i + 1)) (own.filter fun p => decide (p.1 = s.heap.objs.size)) ((Led c₀).map (·.1)) { s with heap := hh', toks := tk' } s₂ →
        LoopStepU h₀ env.locals [s.heap.objs.size] own (fun m nx => nx.map (·.1) = (Led c₀).map (·.1) ∧ KeyS Led P stored m₀ (i + 1) m nx) { s with heap := hh', toks := tk' } .next s₂ := by
      rintro ⟨h', tk, m', news', nx, e, F', N', hn, ho, ha, hK⟩
      refine ⟨rfl, h', tk, m', nx, e, F', fun p hp => ?_, fun p hp => ?_, ha, hK⟩
      · rcases List.mem_append.mp hp with h1 | h1
        · rcases hkeep p h1 with h2 | h2
          · exact N' p (ho p (List.mem_filter.mpr ⟨h1, by simpa using h2⟩))
          · obtain ⟨c', rfl, _⟩ := hK
            rw [h2]
            exact N' _ (hn _ (hin c'))
        · exact N' p (hn p h1)
      · intro hI
        have h1 : p.1 ∈ nx.map (·.1) := List.mem_map.mpr ⟨p, hp, rfl⟩
        rw [ha] at h1
        obtain ⟨q, hq, e⟩ := List.mem_map.mp h1
        exact absurd (Heap.lt_size (N q hq).1) (by rw [e, List.mem_singleton.mp hI]; exact Nat.lt_irrefl _)
    cases f with
    | ret v => exact .ret p
    | brk => exact .brk p
    | next => exact .next (fin p)
    | cont => exact .cont (fin p)
  · rintro h' tk m' news' F' N' _ ⟨_, c, rfl, hP, hr⟩
    refine done c m' h' tk hP ?_ N'
    rw [same m' hr]
    exact F'
end
end PartKeysL
section PartTerms
local macro_rules | `(tactic| walk_at "call ref") => `(tactic| (k_here; (with_reducible show wpAny _ _ (call (Value.ref 440) [Value.ref _, Value.int _ _]) _ _ _); k_dflt (refine' take_gen ?k1 ?k2 ?k3 ?k4 ?k5 ?kK ?kd ?ku ?U1 ?U2 ?ne ?ok ?hp ?hm ?hm2 ?_; (case k1 => k_asm); (case k2 => k_asm); (case k3 => k_asm); (case k4 => k_asm); (case k5 => k_asm); (case kK => first | exact rfl | assumption); (case kd => k_room); (case ku => k_units); (case U1 => k_updF); (case U2 => (intro _; k_updF)); (case ok => assumption); (case ne => omega); (case hp => omega); (case hm => omega); (case hm2 => omega)); intro v9 tv9 pos9 tp9 vs9 ns9 h9 tk9 F9 N9 ok9 hp9 lo9 hi9; (try dsimp only at N9); (try dsimp only); (try k_sweep); (try k_fold)))

/-- a polynomial's terms: degrees in bounds, each once -/
structure TermOk (c : List (Int × Int)) : Prop where
  nod : (c.map (·.1)).Nodup
  rng : ∀ p ∈ c, 0 ≤ p.1 ∧ p.1 < 256
theorem termOk_nil : TermOk [] := ⟨List.nodup_nil, fun _ h => nomatch h⟩
theorem termOk_put {c : List (Int × Int)} {k v : Int} (h : TermOk c) (h0 : 0 ≤ k) (h1 : k < 256) : TermOk (kdfPut c k v) := by
  unfold kdfPut
  split
  · rename_i hc
    have e : (c.map (fun p => if decide (p.1 = k) then (p.1, v) else p)).map (·.1) = c.map (·.1) := by
      rw [List.map_map]
      refine List.map_congr_left fun p _ => ?_
      show (if decide (p.1 = k) = true then (p.1, v) else p).1 = p.1
      split <;> rfl
    refine ⟨by rw [e]; exact h.nod, fun p hp => ?_⟩
    have hm : p.1 ∈ c.map (·.1) := by rw [← e]; exact List.mem_map.mpr ⟨p, hp, rfl⟩
    obtain ⟨q, hq, e2⟩ := List.mem_map.mp hm
    rw [← e2]
    exact h.rng q hq
  · rename_i hc
    refine ⟨?_, fun p hp => ?_⟩
    · rw [List.map_append]
      refine List.nodup_append.mpr ⟨h.nod, by simp, ?_⟩
      intro a ha b hb e
      have hb' : b = k := by simpa using hb
      obtain ⟨q, hq, e2⟩ := List.mem_map.mp ha
      refine hc (List.any_eq_true.mpr ⟨q, hq, ?_⟩)
      rw [decide_eq_true_eq, e2, e, hb']
    · rcases List.mem_append.mp hp with h2 | h2
      · exact h.rng p h2
      · rw [List.mem_singleton.mp h2]; exact ⟨h0, h1⟩
theorem menu6 {a b : Int} (a0 : 0 ≤ a) (a1 : a < 256) (b0 : 0 ≤ b) (b1 : b < 256) (i : Nat) : 0 ≤ ([0, 255, 1, 128, a, b] : List Int).getD i 0 ∧ ([0, 255, 1, 128, a, b] : List Int).getD i 0 < 256 := by
  match i with
  | 0 => exact ⟨by show (0 : Int) ≤ 0; decide, by show (0 : Int) < 256; decide⟩
  | 1 => exact ⟨by show (0 : Int) ≤ 255; decide, by show (255 : Int) < 256; decide⟩
  | 2 => exact ⟨by show (0 : Int) ≤ 1; decide, by show (1 : Int) < 256; decide⟩
  | 3 => exact ⟨by show (0 : Int) ≤ 128; decide, by show (128 : Int) < 256; decide⟩
  | 4 => exact ⟨a0, a1⟩
  | 5 => exact ⟨b0, b1⟩
  | _ + 6 => exact ⟨Int.le_refl _, by show (0 : Int) < 256; decide⟩
structure TS where
  pos : Int
  tp : Tok
  vs : List Value
  ns : List Int
  o : Obj
  kvs : List (Int × Value)
  c : List (Int × Int)
section
variable {prog : Program} {w : World} {A : Around} {E : Value → Shared → Prop} {s : Shared} {env : Env} {h₀ : Heap} {body : List Stmt} {Q : Flow → Shared → Prop}
abbrev tsLed (dd sa ca : Addr) (n1 n2 : Nat) (rest : List (Addr × Obj)) (q : TS) : List (Addr × Obj) := (dd, q.o) :: (sa, listOf #[.int q.pos q.tp, .ref ca] n1) :: (ca, listOf q.vs.toArray n2) :: rest
def TsP (prog : Program) (w : World) (i : Nat) (q : TS) : Prop := TakeOk q.pos q.vs q.ns ∧ q.pos ≤ 20 * (i : Int) + 100 ∧ q.o.IsDictOf (PySem.intKind prog w) q.kvs ∧ PyProof.V.FlatPairs PyData.int q.kvs (kdfD q.c) ∧ TermOk q.c ∧ q.c.length ≤ i
theorem tsP_mk {i : Nat} {pos : Int} {tp : Tok} {vs : List Value} {ns : List Int} {o : Obj} {kvs : List (Int × Value)} {c : List (Int × Int)} (h3 : o.IsDictOf (PySem.intKind prog w) kvs) (h4 : PyProof.V.FlatPairs PyData.int kvs (kdfD c)) (h1 : TakeOk pos vs ns) (h2 : pos ≤ 20 * (i : Int) + 100) (h5 : TermOk c) (h6 : c.length ≤ i) :
    TsP prog w i ⟨pos, tp, vs, ns, o, kvs, c⟩ := ⟨h1, h2, h3, h4, h5, h6⟩
abbrev tsStored : List Str := [PySem.Str.ofString "k", PySem.Str.ofString "degree", PySem.Str.ofString "number"]
theorem termsW {r dd sa ca : Addr} {n1 n2 : Nat} {b₀ : Int} {t₀ u₀ v₀ : Tok} {m₀ : Str → Option Value} {rest : List (Addr × Obj)} {pos : Int} {tp : Tok} {vs : List Value} {ns : List Int} {o : Obj} {kvs : List (Int × Value)}
    (hh : A.handled = none) (hr : IsRange s.heap r 0 b₀ 1 t₀ u₀ v₀) (hb0 : 1 ≤ b₀) (hb1 : b₀ ≤ 4)
    (F : Fr h₀ env.locals s.heap m₀) (N : News h₀ env.locals s.heap (tsLed dd sa ca n1 n2 rest ⟨pos, tp, vs, ns, o, kvs, []⟩)) (ok : TakeOk pos vs ns) (hpos : pos ≤ 100) (hd : o.IsDictOf (PySem.intKind prog w) kvs) (hf : PyProof.V.FlatPairs PyData.int kvs (kdfD []))
    (turn : ∀ (q : TS) (i : Nat) (kk : Int) t (u : Str → Option Value) h tk own, (i : Int) < 4 → OwnOff own (dd :: sa :: ca :: rest.map (·.1)) → TakeOk q.pos q.vs q.ns → q.pos ≤ 20 * (i : Int) + 100 → q.o.IsDictOf (PySem.intKind prog w) q.kvs → PyProof.V.FlatPairs PyData.int q.kvs (kdfD q.c) → TermOk q.c → q.c.length ≤ i →
      Fr h₀ env.locals h (fun y => if y = PySem.Str.ofString "k" then some (.int kk t) else if tsStored.contains y then u y else m₀ y) → News h₀ env.locals h ((dd, q.o) :: (sa, listOf #[.int q.pos q.tp, .ref ca] n1) :: (ca, listOf q.vs.toArray n2) :: (rest ++ own)) →
      wpAny (model prog w) A (execs body env) (InvPostN h₀ env.locals (ForS (tsLed dd sa ca n1 n2 rest) (TsP prog w) (PySem.Str.ofString "k") tsStored m₀ (i + 1) kk) own (dd :: sa :: ca :: rest.map (·.1)) { s with heap := h, toks := tk } Q) E { s with heap := h, toks := tk })
    (done : ∀ (q : TS) (u : Str → Option Value) h tk, TakeOk q.pos q.vs q.ns → q.pos ≤ 180 → q.o.IsDictOf (PySem.intKind prog w) q.kvs → PyProof.V.FlatPairs PyData.int q.kvs (kdfD q.c) → TermOk q.c → q.c.length ≤ 4 →
      Fr h₀ env.locals h (fun y => if tsStored.contains y then u y else m₀ y) → News h₀ env.locals h ((dd, q.o) :: (sa, listOf #[.int q.pos q.tp, .ref ca] n1) :: (ca, listOf q.vs.toArray n2) :: rest) → Q .next { s with heap := h, toks := tk }) :
    wpAny (model prog w) A (pyIter (.ref r)) (fun it s₂ => LoopAtV prog w A h₀ env (PySem.Str.ofString "k") body Q E it s₂) E s := by
  refine forR (σ := TS) b₀.toNat (tsLed dd sa ca n1 n2 rest) tsStored (TsP prog w) ⟨pos, tp, vs, ns, o, kvs, []⟩ hh hr (range_small (by omega) (by omega) (by omega)) (by rw [rangeSize_nat]; omega) (by omega) F N ⟨ok, by simpa using hpos, hd, hf, termOk_nil, Nat.le_refl _⟩ ?_ ?_
  · intro q i t u h tk own hil hoff _ ⟨p1, p2, p3, p4, p5, p6⟩ F' N'
    exact turn q i _ t u h tk own (by omega) hoff p1 p2 p3 p4 p5 p6 F' N'
  · intro q t u h tk ⟨p1, p2, p3, p4, p5, p6⟩ F' N'
    refine done q (fun y => if y = PySem.Str.ofString "k" then some (.int (0 + (b₀.toNat : Int) - 1) t) else u y) h tk p1 (by omega) p3 p4 p5 (by omega) ?_ N'
    have e : (fun y => if tsStored.contains y then (if y = PySem.Str.ofString "k" then some (Value.int (0 + (b₀.toNat : Int) - 1) t) else u y) else m₀ y) = fun y => if y = PySem.Str.ofString "k" then some (Value.int (0 + (b₀.toNat : Int) - 1) t) else if tsStored.contains y then u y else m₀ y := by
      funext y
      by_cases hy : y = PySem.Str.ofString "k"
      · subst hy; simp
      · simp only [if_neg hy]
    rw [e]
    exact F'
end

local macro_rules | `(tactic| walk_at "exec For Name Call cons nil") => `(tactic| (k_here; (rename Fr _ _ _ _ => lF'); (with_unfolding_all refine' For_invVF lF' ?k1 ?k2 ?_; (case k1 => exact rfl); (case k2 => exact rfl); k_whole)))
local macro_rules | `(tactic| walk_at "pyIter ref") => `(tactic| (k_here; (with_reducible show wpAny _ _ (pyIter (Value.ref _)) (fun it s₂ => LoopAtV _ _ _ _ _ (PySem.Str.ofString "k") _ _ _ it s₂) _ _); (rename Fr _ _ _ _ => lF'); (rename News _ _ _ _ => lN'); (rename IsRange _ _ _ _ _ _ _ _ => lR'); k_dflt (refine' termsW ?hh lR' ?hb0 ?hb1 lF' lN' ?ok ?hpos ?hd ?hf ?_ ?_; (case hh => exact rfl); (case hb0 => omega); (case hb1 => omega); (case ok => assumption); (case hpos => omega); (case hd => assumption); (case hf => assumption)); (all_goals (clear lF' lN')); (all_goals (first | (intro q9 i9 kk9 t9 u9 h9 tk9 own9 hi9 hoff9 ok9 hpos9 hd9 hf9 ht9 hl9 F9 N9) | (intro q9 u9 h9 tk9 ok9 hpos9 hd9 hf9 ht9 hl9 F9 N9))); (all_goals (try k_fold))))
theorem terms_spec {w : World} {mean : ExcName → Option Value} {mg mb : Str → Option Value} {dp un : Nat} {gd : Option (List Code)} {cn : Str} {cs : Scope} {a : Addr} {ccd : Value} {cl : List (Str × Addr)} {outer : List Env} {A₀ : Around} {base h₀ : Heap} {L : Addr} {m : Str → Option Value} {s : Shared} {Q E : Value → Shared → Prop}
    {rest : List (Addr × Obj)} {sa ca : Addr} {pos : Int} {tp tm : Tok} {ns : List Int} {vs : List Value} {n1 n2 : Nat}
    (B : Below A₀ base outer h₀) (F : Fr h₀ L s.heap m) (X : (KF w.params).In h₀)
    (N : News h₀ L s.heap ((sa, listOf #[.int pos tp, .ref ca] n1) :: (ca, listOf vs.toArray n2) :: rest))
    (T : Top vw (looseW vw LS) mean mg mb h₀) (hk : cs.kind = .function) (hd : dp + 30 < 1000) (hu : un + 300 < 9900)
    (hne : @Ne Nat sa ca) (off : OwnOff rest [sa, ca]) (ok : TakeOk pos vs ns) (hp2 : pos ≤ 50)
    (ret : ∀ d o kvs c pos' tp' vs' ns' h' tk', Fr h₀ L h' m → News h₀ L h' ((d, o) :: (sa, listOf #[.int pos' tp', .ref ca] n1) :: (ca, listOf vs'.toArray n2) :: rest) → TakeOk pos' vs' ns' → pos' ≤ 180 →
      o.IsDictOf (PySem.intKind PySem.Challenge.rw_yi0041_01.row.prog w) kvs → PyProof.V.FlatPairs PyData.int kvs (kdfD c) → TermOk c → c.length ≤ 4 → (d == sysModules) = false → @LT.lt Nat _ sa d → @LT.lt Nat _ ca d → AllLt d rest → Q (.ref d) { s with heap := h', toks := tk' }) :
    wpAny (model PySem.Challenge.rw_yi0041_01.row.prog w) (ktrTop dp un gd cn cs L a ccd cl outer) (call (.ref 447) [.ref sa, .int 4 tm]) Q E s := by
  refine wpAny_call ?_
  k_dflt k_enter
  k_steps
  · refine' forS_end ⟨_, _, _, _, _, _, _⟩ ?F ?N ?hn ?ho ?ha ?hp ?hx ?hr
    (case F => assumption)
    (case N => assumption)
    (case hn => k_allIn)
    (case ho => k_allIn)
    (case hp => (refine' tsP_mk ?a ?b ?c ?d ?e ?f; (case a => assumption); (case b => assumption); (case c => assumption); (case d => omega); (case e => (refine' termOk_put ?g (menu6 ?x ?y ?z ?u _).1 (menu6 ?x ?y ?z ?u _).2; all_goals assumption)); (case f => exact Nat.le_trans (kdfPut_len _ _ _) (by omega))))
    (case ha => rfl)
    (case hx => exact ⟨_, rfl⟩)
    (case hr => intro z hz; simp only [List.contains_cons, List.contains_nil, Bool.or_false, Bool.or_eq_false_iff, beq_eq_false_iff_ne, ne_eq] at hz; simp [hz])
  · refine' forS_end ⟨_, _, _, _, _, _, _⟩ ?F ?N ?hn ?ho ?ha ?hp ?hx ?hr
    (case F => assumption)
    (case N => assumption)
    (case hn => k_allIn)
    (case ho => k_allIn)
    (case hp => (refine' tsP_mk ?a ?b ?c ?d ?e ?f; (case a => assumption); (case b => assumption); (case c => assumption); (case d => omega); (case e => (refine' termOk_put ?g (menu6 ?x ?y ?z ?u _).1 (menu6 ?x ?y ?z ?u _).2; all_goals assumption)); (case f => exact Nat.le_trans (kdfPut_len _ _ _) (by omega))))
    (case ha => rfl)
    (case hx => exact ⟨_, rfl⟩)
    (case hr => intro z hz; simp only [List.contains_cons, List.contains_nil, Bool.or_false, Bool.or_eq_false_iff, beq_eq_false_iff_ne, ne_eq] at hz; simp [hz])
  · refine' ret _ _ _ _ _ _ _ _ _ _ ?e1 ?e2 ?e3 ?e4 ?e5 ?e6 ?e7 ?e8 ?e9 ?e10 ?e11 ?e12
    (case e1 => assumption)
    (case e2 => assumption)
    (case e3 => assumption)
    (case e4 => omega)
    (case e5 => assumption)
    (case e6 => assumption)
    (case e7 => assumption)
    (case e8 => assumption)
    (case e9 => assumption)
    (case e10 => omega)
    (case e11 => omega)
    (case e12 => exact And.right (And.right (by assumption)))
end PartTerms
section PartRowL
local macro_rules | `(tactic| walk_at "no such key 0") => `(tactic| fail)
@[irreducible] def zeroL : List Int := List.replicate 256 0
theorem zeroL_len : zeroL.length = 256 := by unfold zeroL; simp
theorem ints_rep (t : Tok) : ∀ n : Nat, IntsAre (List.replicate n (.int 0 t)) (List.replicate n 0)
  | 0 => .nil
  | n + 1 => .cons 0 t (ints_rep t n)
theorem flat_rep {α : Type} (v : α) : ∀ n : Nat, (List.replicate n [v]).flatten = List.replicate n v
  | 0 => rfl
  | n + 1 => by rw [List.replicate_succ, List.flatten_cons, flat_rep v n]; rfl
/-- a row's step: the degree's number to its place -/
@[irreducible] def rowStep (c : List (Int × Int)) (ns : List Int) (k : Int) : List Int := ns.set k.toNat (kdfLook c k 0)
theorem rowStep_eq (c : List (Int × Int)) (ns : List Int) (k : Int) : ns.set k.toNat (kdfLook c k 0) = rowStep c ns k := by unfold rowStep; rfl
theorem rowStep_len (c : List (Int × Int)) (ns : List Int) (k : Int) : (rowStep c ns k).length = ns.length := by unfold rowStep; simp
@[irreducible] def rowI (c : List (Int × Int)) : List Int := (c.map (·.1)).foldl (rowStep c) zeroL
theorem rowI_eq (c : List (Int × Int)) : (c.map (·.1)).foldl (rowStep c) zeroL = rowI c := by unfold rowI; rfl
theorem fold_len (c : List (Int × Int)) (ks : List Int) (ns : List Int) : (ks.foldl (rowStep c) ns).length = ns.length := by
  induction ks generalizing ns with
  | nil => rfl
  | cons k ks ih => rw [List.foldl_cons, ih, rowStep_len]
theorem rowI_len (c : List (Int × Int)) : (rowI c).length = 256 := by rw [← rowI_eq, fold_len, zeroL_len]
/-- the remainder's step -/
@[irreducible] def leftStep (c : List (Int × Int)) (root : Int) (ns : List Int) (k : Int) : List Int := ns.set (k.fmod 2).toNat (ns.getD (k.fmod 2).toNat 0 + kdfLook c k 0 * pwI root (k.fdiv 2))
theorem leftStep_eq (c : List (Int × Int)) (root : Int) (ns : List Int) (k : Int) : ns.set (k.fmod 2).toNat (ns.getD (k.fmod 2).toNat 0 + kdfLook c k 0 * pwI root (k.fdiv 2)) = leftStep c root ns k := by unfold leftStep; rfl
theorem leftStep_len (c : List (Int × Int)) (root : Int) (ns : List Int) (k : Int) : (leftStep c root ns k).length = ns.length := by unfold leftStep; simp
@[irreducible] def leftI (c : List (Int × Int)) (root : Int) : List Int := (c.map (·.1)).foldl (leftStep c root) [0, 0]
theorem leftI_eq (c : List (Int × Int)) (root : Int) : (c.map (·.1)).foldl (leftStep c root) [0, 0] = leftI c root := by unfold leftI; rfl
theorem foldL_len (c : List (Int × Int)) (root : Int) (ks : List Int) (ns : List Int) : (ks.foldl (leftStep c root) ns).length = ns.length := by
  induction ks generalizing ns with
  | nil => rfl
  | cons k ks ih => rw [List.foldl_cons, ih, leftStep_len]
theorem leftI_len (c : List (Int × Int)) (root : Int) : (leftI c root).length = 2 := by rw [← leftI_eq, foldL_len]; rfl
theorem flat_at {kvs : List (Int × Value)} {c : List (Int × Int)} (hf : PyProof.V.FlatPairs PyData.int kvs (kdfD c)) : kvs.map (·.1) = c.map (·.1) := by
  generalize hD : kdfD c = D at hf
  induction hf generalizing c with
  | nil =>
    cases c with
    | nil => rfl
    | cons p c => cases hD
  | cons _ _ ih =>
    cases c with
    | nil => cases hD
    | cons p c =>
      simp only [kdfD, List.map_cons, List.cons.injEq, Prod.mk.injEq, PyData.int.injEq] at hD
      obtain ⟨⟨h1, _⟩, h2⟩ := hD
      simp only [List.map_cons]
      rw [ih h2, h1]
theorem has_of {c : List (Int × Int)} {k : Int} (h : k ∈ c.map (·.1)) : kdfHas c k = true := by
  obtain ⟨q, hq, e⟩ := List.mem_map.mp h
  exact List.any_eq_true.mpr ⟨q, hq, by simp [e]⟩
section
variable {prog : Program} {w : World} {A : Around} {E : Value → Shared → Prop} {s : Shared} {env : Env} {h₀ : Heap} {x : Str} {body : List Stmt} {Q : Flow → Shared → Prop}
/-- a loop over the terms' degrees that turns one list of ints by a step -/
theorem keysW {dd ra : Addr} {o : Obj} {nc : Nat} {m₀ : Str → Option Value} {rest : List (Addr × Obj)} {kvs : List (Int × Value)} {c : List (Int × Int)} {vs : List Value} {ns : List Int} {step : List Int → Int → List Int} (n : Nat) (stored : List Str)
    (hh : A.handled = none) (hd : o.IsDictOf (PySem.intKind prog w) kvs) (hf : PyProof.V.FlatPairs PyData.int kvs (kdfD c)) (ht : TermOk c) (lo : (dd == sysModules) = false) (hstep : ∀ ns k, (step ns k).length = ns.length)
    (F : Fr h₀ env.locals s.heap m₀) (N : News h₀ env.locals s.heap ((ra, listOf vs.toArray nc) :: (dd, o) :: rest)) (hi : IntsAre vs ns) (hlen : ns.length = n)
    (turn : ∀ (vs' : List Value) (ns' : List Int) (k : Int) t (u : Str → Option Value) h tk own, IntsAre vs' ns' → ns'.length = n → kdfHas c k = true → 0 ≤ k → k < 256 → OwnOff own (ra :: dd :: rest.map (·.1)) →
      Fr h₀ env.locals h (fun y => if y = x then some (.int k t) else if stored.contains y then u y else m₀ y) → News h₀ env.locals h ((ra, listOf vs'.toArray nc) :: (dd, o) :: (rest ++ own)) →
      wpAny (model prog w) A (execs body env) (InvPostN h₀ env.locals (KeyS (fun vs : List Value => (ra, listOf vs.toArray nc) :: (dd, o) :: rest) (fun _ vs => IntsAre vs (step ns' k)) stored m₀ 0) own (ra :: dd :: rest.map (·.1)) { s with heap := h, toks := tk } Q) E { s with heap := h, toks := tk })
    (done : ∀ (vs' : List Value) (u : Str → Option Value) h tk, IntsAre vs' ((c.map (·.1)).foldl step ns) → Fr h₀ env.locals h (fun y => if stored.contains y then u y else m₀ y) → News h₀ env.locals h ((ra, listOf vs'.toArray nc) :: (dd, o) :: rest) → Q .next { s with heap := h, toks := tk }) :
    wpAny (model prog w) A (pyIter (.ref dd)) (fun it s₂ => LoopAtV prog w A h₀ env x body Q E it s₂) E s := by
  have hk := flat_at hf
  have hkl : kvs.length = (c.map (·.1)).length := by rw [← hk, List.length_map]
  have hfl : ∀ (ks : List Int) (l : List Int), (ks.foldl step l).length = l.length := fun ks => by
    induction ks with
    | nil => intro l; rfl
    | cons k ks ih => intro l; rw [List.foldl_cons, ih, hstep]
  refine forKeys (σ := List Value) (fun vs => (ra, listOf vs.toArray nc) :: (dd, o) :: rest) stored (fun i vs => IntsAre vs (((c.map (·.1)).take i).foldl step ns)) vs hh (fun _ => .tail _ (.head _)) hd lo F N (by simpa using hi) ?_ ?_
  · intro vs' i k v t u h tk own hkv hoff _ hP F' N'
    have hck : (c.map (·.1))[i]? = some k := by rw [← hk, List.getElem?_map, hkv]; rfl
    have hmem : k ∈ c.map (·.1) := List.mem_of_getElem? hck
    obtain ⟨q, hq, e⟩ := List.mem_map.mp hmem
    have hrng := ht.rng q hq
    have hq1 : q.1 = k := e
    rw [hq1] at hrng
    refine wpAny_mono (turn vs' _ k t u h tk own hP (by rw [hfl]; exact hlen) (has_of hmem) hrng.1 hrng.2 hoff F' N') (fun f s₂ p => ?_) fun _ _ x => x
    have hs : ((c.map (·.1)).take (i + 1)).foldl step ns = step (((c.map (·.1)).take i).foldl step ns) k := by
      rw [List.take_add_one, hck]; simp
    have up : InvEndN h₀ env.locals (KeyS (fun vs : List Value => (ra, listOf vs.toArray nc) :: (dd, o) :: rest) (fun _ vs => IntsAre vs (step (((c.map (·.1)).take i).foldl step ns) k)) stored m₀ 0) own (ra :: dd :: rest.map (·.1)) { s with heap := h, toks := tk } s₂ →
        InvEndN h₀ env.locals (KeyS (fun vs : List Value => (ra, listOf vs.toArray nc) :: (dd, o) :: rest) (fun i vs => IntsAre vs (((c.map (·.1)).take i).foldl step ns)) stored m₀ (i + 1)) own (ra :: dd :: rest.map (·.1)) { s with heap := h, toks := tk } s₂ := by
      rintro ⟨h', tk', m', news', nx', e', F', N', hn', ho', ha, c', hc1, hc2, hc3⟩
      exact ⟨h', tk', m', news', nx', e', F', N', hn', ho', ha, c', hc1, by show IntsAre c' _; rw [hs]; exact hc2, hc3⟩
    cases f with
    | ret v => exact p
    | brk => exact p
    | next => exact up p
    | cont => exact up p
  · intro vs' u h tk hP F' N'
    rw [hkl, List.take_length] at hP
    exact done vs' u h tk hP F' N'
theorem rowW {dd ra : Addr} {o : Obj} {nc : Nat} {m₀ : Str → Option Value} {rest : List (Addr × Obj)} {kvs : List (Int × Value)} {c : List (Int × Int)} {vs : List Value}
    (hh : A.handled = none) (hd : o.IsDictOf (PySem.intKind prog w) kvs) (hf : PyProof.V.FlatPairs PyData.int kvs (kdfD c)) (ht : TermOk c) (lo : (dd == sysModules) = false)
    (F : Fr h₀ env.locals s.heap m₀) (N : News h₀ env.locals s.heap ((ra, listOf vs.toArray nc) :: (dd, o) :: rest)) (hi : IntsAre vs zeroL)
    (turn : ∀ (vs' : List Value) (ns' : List Int) (k : Int) t (u : Str → Option Value) h tk own, IntsAre vs' ns' → ns'.length = 256 → kdfHas c k = true → 0 ≤ k → k < 256 → OwnOff own (ra :: dd :: rest.map (·.1)) →
      Fr h₀ env.locals h (fun y => if y = x then some (.int k t) else if ([x] : List Str).contains y then u y else m₀ y) → News h₀ env.locals h ((ra, listOf vs'.toArray nc) :: (dd, o) :: (rest ++ own)) →
      wpAny (model prog w) A (execs body env) (InvPostN h₀ env.locals (KeyS (fun vs : List Value => (ra, listOf vs.toArray nc) :: (dd, o) :: rest) (fun _ vs => IntsAre vs (rowStep c ns' k)) [x] m₀ 0) own (ra :: dd :: rest.map (·.1)) { s with heap := h, toks := tk } Q) E { s with heap := h, toks := tk })
    (done : ∀ (vs' : List Value) (u : Str → Option Value) h tk, IntsAre vs' (rowI c) → Fr h₀ env.locals h (fun y => if ([x] : List Str).contains y then u y else m₀ y) → News h₀ env.locals h ((ra, listOf vs'.toArray nc) :: (dd, o) :: rest) → Q .next { s with heap := h, toks := tk }) :
    wpAny (model prog w) A (pyIter (.ref dd)) (fun it s₂ => LoopAtV prog w A h₀ env x body Q E it s₂) E s :=
  keysW (step := rowStep c) 256 [x] hh hd hf ht lo (rowStep_len c) F N hi zeroL_len turn fun vs' u h tk hI F' N' => done vs' u h tk (by rw [← rowI_eq]; exact hI) F' N'
theorem leftW {dd ra : Addr} {o : Obj} {nc : Nat} {m₀ : Str → Option Value} {rest : List (Addr × Obj)} {kvs : List (Int × Value)} {c : List (Int × Int)} {vs : List Value} {root : Int} {tr : Tok}
    (hh : A.handled = none) (hd : o.IsDictOf (PySem.intKind prog w) kvs) (hf : PyProof.V.FlatPairs PyData.int kvs (kdfD c)) (ht : TermOk c) (lo : (dd == sysModules) = false) (_hroot : m₀ (PySem.Str.ofString "root") = some (.int root tr))
    (F : Fr h₀ env.locals s.heap m₀) (N : News h₀ env.locals s.heap ((ra, listOf vs.toArray nc) :: (dd, o) :: rest)) (hi : IntsAre vs [0, 0])
    (turn : ∀ (vs' : List Value) (ns' : List Int) (k : Int) t (u : Str → Option Value) h tk own, IntsAre vs' ns' → ns'.length = 2 → kdfHas c k = true → 0 ≤ k → k < 256 → OwnOff own (ra :: dd :: rest.map (·.1)) →
      Fr h₀ env.locals h (fun y => if y = x then some (.int k t) else if ([x] : List Str).contains y then u y else m₀ y) → News h₀ env.locals h ((ra, listOf vs'.toArray nc) :: (dd, o) :: (rest ++ own)) →
      wpAny (model prog w) A (execs body env) (InvPostN h₀ env.locals (KeyS (fun vs : List Value => (ra, listOf vs.toArray nc) :: (dd, o) :: rest) (fun _ vs => IntsAre vs (leftStep c root ns' k)) [x] m₀ 0) own (ra :: dd :: rest.map (·.1)) { s with heap := h, toks := tk } Q) E { s with heap := h, toks := tk })
    (done : ∀ (vs' : List Value) (u : Str → Option Value) h tk, IntsAre vs' (leftI c root) → (leftI c root).length = 2 → Fr h₀ env.locals h (fun y => if ([x] : List Str).contains y then u y else m₀ y) → News h₀ env.locals h ((ra, listOf vs'.toArray nc) :: (dd, o) :: rest) → Q .next { s with heap := h, toks := tk }) :
    wpAny (model prog w) A (pyIter (.ref dd)) (fun it s₂ => LoopAtV prog w A h₀ env x body Q E it s₂) E s :=
  keysW (step := leftStep c root) 2 [x] hh hd hf ht lo (leftStep_len c root) F N hi rfl turn fun vs' u h tk hI F' N' => done vs' u h tk (by rw [← leftI_eq]; exact hI) (leftI_len _ _) F' N'
end
section
variable {prog : Program} {w : World} {A : Around} {E : Value → Shared → Prop} {s : Shared} {h₀ : Heap} {L l : Addr} {m : Str → Option Value} {news : List (Addr × Obj)} {n : Nat} {t u : Tok} {Q : Value → Shared → Prop}
theorem mul256 (F : Fr h₀ L s.heap m) (N : News h₀ L s.heap news) (hm : (l, listOf #[.int 0 t] n) ∈ news)
    (h : ∀ D h' ws, Fr h₀ L h' m → News h₀ L h' ((D, listOf ws.toArray 0) :: news) → IntsAre ws zeroL → (∀ p ∈ news, p.1 < D) → Q (.ref D) { s with heap := h' }) :
    wpAny (model prog w) A (binaryOp .Mult (.ref l) (.int 256 u)) Q E s :=
  KMa.mul (vs := [.int 0 t]) (ws := List.replicate 256 (.int 0 t)) F N (PySem.IsL.isList (n := n) (N _ hm).1) (by decide) (by decide) (by show 1 * 256 ≤ 256; decide) (flat_rep _ 256) fun D h' F' N' hl =>
    h D h' _ F' N' (by unfold zeroL; exact ints_rep t 256) hl
end

theorem news_drop2 {h₀ h : Heap} {L : Addr} {q r : Addr × Obj} {l : List (Addr × Obj)} (N : News h₀ L h (q :: r :: l)) : News h₀ L h (q :: l) := news_sub N (sub_cons (.head _) (sub_tail (sub_tail sub_refl)))
local macro_rules | `(tactic| walk_at "binaryOp Mult ref int") => `(tactic| (k_here; (with_reducible show wpAny _ _ (binaryOp Operator.Mult (Value.ref _) (Value.int 256 _)) _ _ _); k_dflt (refine' mul256 ?F ?N ?m ?_; (case F => k_asm); (case N => k_asm); (case m => k_mem)); intro D' h' ws' F' N' hz' l1; (try k_lt l1); (try k_sweep)))
local macro_rules | `(tactic| walk_at "exec For Name Name cons nil") => `(tactic| (k_here; (rename Fr _ _ _ _ => lF'); (with_unfolding_all refine' For_invVF lF' ?k1 ?k2 ?_; (case k1 => exact rfl); (case k2 => exact rfl); k_whole)))
local macro_rules | `(tactic| walk_at "pyIter ref") => `(tactic| (k_here; (with_reducible show wpAny _ _ (pyIter (Value.ref _)) (fun it s₂ => LoopAtV _ _ _ _ _ (PySem.Str.ofString "degree") _ _ _ it s₂) _ _); (rename Fr _ _ _ _ => lF'); (rename News _ _ _ _ => lN'); k_dflt (first | (refine' rowW ?hh ?hd ?hf ?ht ?lo lF' lN' ?hi ?_ ?_; (case hh => exact rfl); (case hd => assumption); (case hf => assumption); (case ht => assumption); (case lo => assumption); (case hi => assumption)) | (refine' rowW ?hh ?hd ?hf ?ht ?lo lF' (news_drop2 lN') ?hi ?_ ?_; (case hh => exact rfl); (case hd => assumption); (case hf => assumption); (case ht => assumption); (case lo => assumption); (case hi => assumption))); (all_goals (clear lF' lN')); (all_goals (first | (intro vs9 ns9 k9 t9 u9 h9 tk9 own9 hi9 hl9 hh9 hlo9 hhi9 hoff9 F9 N9; (try dsimp only [List.cons_append] at N9)) | (intro vs9 u9 h9 tk9 hi9 F9 N9))); (all_goals (try k_fold))))

theorem row_spec {w : World} {mean : ExcName → Option Value} {mg mb : Str → Option Value} {dp un : Nat} {gd : Option (List Code)} {cn : Str} {cs : Scope} {a : Addr} {ccd : Value} {cl : List (Str × Addr)} {outer : List Env} {A₀ : Around} {base h₀ : Heap} {L : Addr} {m : Str → Option Value} {s : Shared} {Q E : Value → Shared → Prop}
    {rest : List (Addr × Obj)} {dd : Addr} {o : Obj} {kvs : List (Int × Value)} {c : List (Int × Int)}
    (B : Below A₀ base outer h₀) (F : Fr h₀ L s.heap m) (X : (KF w.params).In h₀)
    (N : News h₀ L s.heap ((dd, o) :: rest))
    (T : Top vw (looseW vw LS) mean mg mb h₀) (hk : cs.kind = .function) (hd : dp + 30 < 1000) (hu : un + 300 < 9900)
    (hd0 : o.IsDictOf (PySem.intKind PySem.Challenge.rw_yi0041_01.row.prog w) kvs) (hf0 : PyProof.V.FlatPairs PyData.int kvs (kdfD c)) (ht0 : TermOk c) (lo0 : (dd == sysModules) = false)
    (ret : ∀ ra vs' h' tk', Fr h₀ L h' m → News h₀ L h' ((ra, listOf vs'.toArray 0) :: (dd, o) :: rest) → IntsAre vs' (rowI c) → @LT.lt Nat _ dd ra → AllLt ra rest → Q (.ref ra) { s with heap := h', toks := tk' }) :
    wpAny (model PySem.Challenge.rw_yi0041_01.row.prog w) (ktrTop dp un gd cn cs L a ccd cl outer) (call (.ref 454) [.ref dd]) Q E s := by
  refine wpAny_call ?_
  k_dflt k_enter
  k_steps
  · refine' keyS_end _ ?F ?N ?hn ?ho ?ha ?hp ?hr
    (case hp => (rw [← rowStep_eq]; assumption))
    (case F => assumption)
    (case N => assumption)
    (case hn => k_allIn)
    (case ho => k_allIn)
    (case ha => rfl)
    (case hr => intro z hz; simp only [List.contains_cons, List.contains_nil, Bool.or_false, Bool.or_eq_false_iff, beq_eq_false_iff_ne, ne_eq] at hz; simp [hz])
  · refine' ret _ _ _ _ ?e1 (news_sub ?e2 ?e2b) ?e3 ?e4 ?e5
    (case e1 => assumption)
    (case e3 => assumption)
    (case e2 => assumption)
    (case e2b => k_allIn)
    (case e4 => omega)
    (case e5 => exact And.right (And.right (by assumption)))
end PartRowL
section PartLeftL
@[irreducible] def rootI (p : Int) : Int := pwI 17 (2 * brI p + 1)
theorem rootI_eq (p : Int) : pwI 17 (2 * brI p + 1) = rootI p := by unfold rootI; rfl
/-- the turned bits and what is left of a place, behind i turns -/
def turnI (p : Int) : Nat → Int × Int
  | 0 => (0, p)
  | i + 1 => (2 * (turnI p i).1 + (turnI p i).2.fmod 2, (turnI p i).2.fdiv 2)
abbrev rtStored : List Str := [PySem.Str.ofString "k", PySem.Str.ofString "turned", PySem.Str.ofString "place"]
def RootJ (news : List (Addr × Obj)) (m₀ : Str → Option Value) (a b : Int) (m' : Str → Option Value) (nx : List (Addr × Obj)) : Prop :=
  nx = news ∧ (∃ ta, m' (PySem.Str.ofString "turned") = some (.int a ta)) ∧ (∃ tb, m' (PySem.Str.ofString "place") = some (.int b tb)) ∧ ∀ z, rtStored.contains z = false → m' z = m₀ z
theorem rootJ_end {news : List (Addr × Obj)} {m₀ m' : Str → Option Value} {a b : Int} {h₀ : Heap} {L : Addr} {own news' : List (Addr × Obj)} {adr : List Addr} {s₁ : Shared} {h' : Heap} {tk : Nat}
    (F : Fr h₀ L h' m') (N : News h₀ L h' news') (hn : ∀ p ∈ news, p ∈ news') (ho : ∀ p ∈ own, p ∈ news') (ha : news.map (·.1) = adr) (h1 : ∃ ta, m' (PySem.Str.ofString "turned") = some (.int a ta)) (h2 : ∃ tb, m' (PySem.Str.ofString "place") = some (.int b tb)) (hr : ∀ z, rtStored.contains z = false → m' z = m₀ z) :
    InvEndN h₀ L (RootJ news m₀ a b) own adr s₁ { s₁ with heap := h', toks := tk } := InvEndN.intro F N ⟨rfl, h1, h2, hr⟩ ha hn ho
section
variable {prog : Program} {w : World} {A : Around} {E : Value → Shared → Prop} {s : Shared} {env : Env} {h₀ : Heap} {body : List Stmt} {Q : Flow → Shared → Prop}
theorem rootW {r : Addr} {t₀ u₀ v₀ : Tok} {m₀ : Str → Option Value} {news : List (Addr × Obj)} {p : Int} {ta₀ tb₀ : Tok}
    (hh : A.handled = none) (hr : IsRange s.heap r 0 7 1 t₀ u₀ v₀) (F : Fr h₀ env.locals s.heap m₀) (N : News h₀ env.locals s.heap news) (h1 : m₀ (PySem.Str.ofString "turned") = some (.int 0 ta₀)) (h2 : m₀ (PySem.Str.ofString "place") = some (.int p tb₀))
    (turn : ∀ (a b kk : Int) ta tb t (u : Str → Option Value) h tk own, OwnOff own (news.map (·.1)) →
      Fr h₀ env.locals h (fun y => if y = PySem.Str.ofString "k" then some (.int kk t) else if y = PySem.Str.ofString "turned" then some (.int a ta) else if y = PySem.Str.ofString "place" then some (.int b tb) else if rtStored.contains y then u y else m₀ y) → News h₀ env.locals h (news ++ own) →
      wpAny (model prog w) A (execs body env) (InvPostN h₀ env.locals (RootJ news m₀ (2 * a + b.fmod 2) (b.fdiv 2)) own (news.map (·.1)) { s with heap := h, toks := tk } Q) E { s with heap := h, toks := tk })
    (done : ∀ ta (u : Str → Option Value) h tk, Fr h₀ env.locals h (fun y => if y = PySem.Str.ofString "turned" then some (.int (2 * (turnI p 6).1 + (turnI p 6).2.fmod 2) ta) else if rtStored.contains y then u y else m₀ y) → News h₀ env.locals h news → Q .next { s with heap := h, toks := tk }) :
    wpAny (model prog w) A (pyIter (.ref r)) (fun it s₂ => LoopAtV prog w A h₀ env (PySem.Str.ofString "k") body Q E it s₂) E s := by
  refine kst_range (σ := Int × Tok × Int × Tok) (n := 7) (fun _ => news) (fun c => [(PySem.Str.ofString "turned", .int c.1 c.2.1), (PySem.Str.ofString "place", .int c.2.2.1 c.2.2.2)]) (fun _ => True) rtStored (fun pre c => (c.1, c.2.2.1) = turnI p pre.length) (0, ta₀, p, tb₀)
    hh hr (range_small (by omega) (by omega) (by omega)) (by rw [rangeSize_nat]; rfl) F N trivial ?_ rfl ?_ ?_
  · intro q hq
    rcases List.mem_cons.mp hq with rfl | hq
    · exact h1
    · rcases List.mem_cons.mp hq with rfl | hq
      · exact h2
      · cases hq
  · rintro ⟨a, ta, b, tb⟩ pre k t u h tk own _ _ hoff _ hP F' N'
    refine wpAny_mono (turn a b k ta tb t u h tk own hoff F' N') (fun f s₂ q => ?_) fun _ _ x => x
    have up : InvEndN h₀ env.locals (RootJ news m₀ (2 * a + b.fmod 2) (b.fdiv 2)) own (news.map (·.1)) { s with heap := h, toks := tk } s₂ →
        InvEndN h₀ env.locals (KstS (fun _ : Int × Tok × Int × Tok => news) (fun c => [(PySem.Str.ofString "turned", .int c.1 c.2.1), (PySem.Str.ofString "place", .int c.2.2.1 c.2.2.2)]) (fun _ => True) (PySem.Str.ofString "k") rtStored m₀ (fun pre c => (c.1, c.2.2.1) = turnI p pre.length) (pre ++ [k])) own (news.map (·.1)) { s with heap := h, toks := tk } s₂ := by
      rintro ⟨h', tk', m', news', nx', e', F'', N'', hn', ho', ha, e0, ⟨ta', e1⟩, ⟨tb', e2⟩, hr'⟩
      subst e0
      refine ⟨h', tk', m', news', _, e', F'', N'', hn', ho', ha, (2 * a + b.fmod 2, ta', b.fdiv 2, tb'), rfl, trivial, ?_, ?_, ?_⟩
      · intro q hq
        rcases List.mem_cons.mp hq with rfl | hq
        · exact e1
        · rcases List.mem_cons.mp hq with rfl | hq
          · exact e2
          · cases hq
      · intro z hz _ hs
        exact hr' z hs
      · have hP' : (a, b) = turnI p pre.length := hP
        show (2 * a + b.fmod 2, b.fdiv 2) = turnI p (pre ++ [k]).length
        rw [List.length_append, List.length_singleton, turnI, ← hP']
    cases f with
    | ret v => exact q
    | brk => exact q
    | next => exact up q
    | cont => exact up q
  · rintro ⟨a, ta, b, tb⟩ u h tk _ hP F' N'
    have hP' : (a, b) = turnI p 7 := by
      have e : (rangeKs 0 7).length = 7 := rangeKs_length _ _
      rw [← e]; exact hP
    have ha : a = 2 * (turnI p 6).1 + (turnI p 6).2.fmod 2 := congrArg Prod.fst hP'
    subst ha
    refine done ta (fun y => if y = PySem.Str.ofString "k" then u y else if y = PySem.Str.ofString "place" then some (.int b tb) else u y) h tk ?_ N'
    have e : (fun y => if y = PySem.Str.ofString "turned" then some (Value.int (2 * (turnI p 6).1 + (turnI p 6).2.fmod 2) ta) else if rtStored.contains y then (if y = PySem.Str.ofString "k" then u y else if y = PySem.Str.ofString "place" then some (.int b tb) else u y) else m₀ y)
        = fun y => if y = PySem.Str.ofString "k" then u y else kstB (fun z => if rtStored.contains z then u z else m₀ z) [(PySem.Str.ofString "turned", .int (2 * (turnI p 6).1 + (turnI p 6).2.fmod 2) ta), (PySem.Str.ofString "place", .int b tb)] y := by
      funext y
      show _ = if y = PySem.Str.ofString "k" then u y else if y = PySem.Str.ofString "turned" then some (Value.int (2 * (turnI p 6).1 + (turnI p 6).2.fmod 2) ta) else if y = PySem.Str.ofString "place" then some (.int b tb) else if rtStored.contains y then u y else m₀ y
      by_cases h1 : y = PySem.Str.ofString "k"
      · subst h1; rfl
      · by_cases h2 : y = PySem.Str.ofString "turned"
        · rw [if_pos h2, if_neg h1, if_pos h2]
        · by_cases h3 : y = PySem.Str.ofString "place"
          · subst h3; rfl
          · simp only [if_neg h1, if_neg h2, if_neg h3]
    rw [e]
    exact F'
end
theorem turnI_nat (n : Nat) (h : n < 128) : 2 * (turnI (n : Int) 6).1 + (turnI (n : Int) 6).2.fmod 2 = brI (n : Int) := by
  rw [brI_nat]
  exact at128 (f := fun n : Nat => 2 * (turnI (n : Int) 6).1 + (turnI (n : Int) 6).2.fmod 2) (g := fun n => ((br7 n : Nat) : Int)) (by decide +kernel) h
local macro_rules | `(tactic| walk_at "exec For Name Call cons nil") => `(tactic| (k_here; (rename Fr _ _ _ _ => lF'); (with_unfolding_all refine' For_invVF lF' ?k1 ?k2 ?_; (case k1 => exact rfl); (case k2 => exact rfl); k_whole)))
local macro_rules | `(tactic| walk_at "pyIter ref") => `(tactic| (k_here; (with_reducible show wpAny _ _ (pyIter (Value.ref _)) (fun it s₂ => LoopAtV _ _ _ _ _ (PySem.Str.ofString "k") _ _ _ it s₂) _ _); (rename Fr _ _ _ _ => lF'); (rename News _ _ _ _ => lN'); (rename IsRange _ _ _ _ _ _ _ _ => lR'); k_dflt (refine' rootW ?hh lR' lF' lN' ?h1 ?h2 ?_ ?_; (case hh => exact rfl); (case h1 => exact rfl); (case h2 => exact rfl)); (all_goals (clear lF' lN')); (all_goals (first | (intro a9 b9 kk9 ta9 tb9 t9 u9 h9 tk9 own9 hoff9 F9 N9) | (intro ta9 u9 h9 tk9 F9 N9))); (all_goals (try k_fold))))
local macro_rules | `(tactic| walk_at "call builtin:pow") => `(tactic| (k_here; k_dflt (refine call_pow3 (by omega) ?_)))
theorem root_spec {w : World} {mean : ExcName → Option Value} {mg mb : Str → Option Value} {dp un : Nat} {gd : Option (List Code)} {cn : Str} {cs : Scope} {a : Addr} {ccd : Value} {cl : List (Str × Addr)} {outer : List Env} {A₀ : Around} {base h₀ : Heap} {L : Addr} {m : Str → Option Value} {s : Shared} {Q E : Value → Shared → Prop}
    {news : List (Addr × Obj)} {p : Int} {t1 : Tok}
    (B : Below A₀ base outer h₀) (F : Fr h₀ L s.heap m) (X : (KF w.params).In h₀)
    (N : News h₀ L s.heap news)
    (T : Top vw (looseW vw LS) mean mg mb h₀) (hk : cs.kind = .function) (hd : dp + 8 < 1000) (hu : un + 100 < 9900)
    (h0 : 0 ≤ p) (h1 : p < 128)
    (ret : ∀ tv h' tk', Fr h₀ L h' m → News h₀ L h' news → Q (.int (rootI p) tv) { s with heap := h', toks := tk' }) :
    wpAny (model PySem.Challenge.rw_yi0041_01.row.prog w) (ktrTop dp un gd cn cs L a ccd cl outer) (call (.ref 461) [.int p t1]) Q E s := by
  have he : 2 * (turnI p 6).1 + (turnI p 6).2.fmod 2 = brI p := by
    obtain ⟨n, rfl⟩ := Int.eq_ofNat_of_zero_le h0
    exact turnI_nat n (by omega)
  have hlo := brI_nonneg p
  refine wpAny_call ?_
  k_dflt k_enter
  k_steps
  · refine' rootJ_end ?F ?N ?hn ?ho ?ha ?h1 ?h2 ?hr
    (case F => assumption)
    (case N => assumption)
    (case hn => k_allIn)
    (case ho => k_allIn)
    (case ha => rfl)
    (case h1 => exact ⟨_, rfl⟩)
    (case h2 => exact ⟨_, rfl⟩)
    (case hr => intro z hz; simp only [List.contains_cons, List.contains_nil, Bool.or_false, Bool.or_eq_false_iff, beq_eq_false_iff_ne, ne_eq] at hz; simp [hz])
  · rw [he, rootI_eq]
    exact ret _ _ _ (by assumption) (by assumption)
local macro_rules | `(tactic| walk_at "call builtin:pow") => `(tactic| (k_here; k_dflt (first | (refine call_pow3 (by first | (rw [Int.fdiv_eq_ediv_of_nonneg _ (by decide)]; omega) | omega) ?_))))
local macro_rules | `(tactic| walk_at "exec For Name Name cons nil") => `(tactic| (k_here; (rename Fr _ _ _ _ => lF'); (with_unfolding_all refine' For_invVF lF' ?k1 ?k2 ?_; (case k1 => exact rfl); (case k2 => exact rfl); k_whole)))
local macro_rules | `(tactic| walk_at "call ref") => `(tactic| (k_here; (with_reducible show wpAny _ _ (call (Value.ref 461) [Value.int _ _]) _ _ _); k_dflt (refine' root_spec ?k1 ?k2 ?k3 ?k4 ?k5 ?kK ?kd ?ku ?h0 ?h1 ?_; (case k1 => k_asm); (case k2 => k_asm); (case k3 => k_asm); (case k4 => k_asm); (case k5 => k_asm); (case kK => first | exact rfl | assumption); (case kd => k_room); (case ku => k_units); (case h0 => omega); (case h1 => omega)); intro t9 h9 tk9 F9 N9; (try dsimp only); (try k_fold)))
local macro_rules | `(tactic| walk_at "pyIter ref") => `(tactic| (k_here; (with_reducible show wpAny _ _ (pyIter (Value.ref _)) (fun it s₂ => LoopAtV _ _ _ _ _ (PySem.Str.ofString "degree") _ _ _ it s₂) _ _); (rename Fr _ _ _ _ => lF'); (rename News _ _ _ _ => lN'); k_dflt (refine' leftW (nc := 0) ?hh ?hd ?hf ?ht ?lo ?hroot lF' lN' ?hi ?_ ?_; (case hh => exact rfl); (case hd => assumption); (case hf => assumption); (case ht => assumption); (case lo => assumption); (case hroot => exact rfl); (case hi => exact IntsAre.cons 0 _ (IntsAre.cons 0 _ IntsAre.nil))); (all_goals (clear lF' lN')); (all_goals (first | (intro vs9 ns9 k9 t9 u9 h9 tk9 own9 hi9 hl9 hh9 hlo9 hhi9 hoff9 F9 N9; (try dsimp only [List.cons_append] at N9)) | (intro vs9 u9 h9 tk9 hi9 hl9 F9 N9))); (all_goals (try k_fold))))
theorem pwI_bits (b e : Int) : Builtin.Int.intBits (pwI b e) ≤ 64 := PySem.intBits_le_64 (by have := pwI_lo b e; omega) (by have := pwI_hi b e; omega)
local macro_rules | `(tactic| walk_at "binaryOp Mult int int") => `(tactic| (k_here; (with_reducible show wpAny _ _ (binaryOp Operator.Mult (Value.int _ _) (Value.int (pwI _ _) _)) _ _ _); k_dflt (refine PyProof.Rows.mul_int ?_ (PySem.IntMulOk.of_right (pwI_bits _ _)))))
@[irreducible] def modL (ns : List Int) : List Int := [(ns.getD 0 0).fmod 3329, (ns.getD 1 0).fmod 3329]
theorem modL_eq (ns : List Int) : [(ns.getD 0 0).fmod 3329, (ns.getD 1 0).fmod 3329] = modL ns := by unfold modL; rfl
theorem left_spec {w : World} {mean : ExcName → Option Value} {mg mb : Str → Option Value} {dp un : Nat} {gd : Option (List Code)} {cn : Str} {cs : Scope} {a : Addr} {ccd : Value} {cl : List (Str × Addr)} {outer : List Env} {A₀ : Around} {base h₀ : Heap} {L : Addr} {m : Str → Option Value} {s : Shared} {Q E : Value → Shared → Prop}
    {rest : List (Addr × Obj)} {dd : Addr} {o : Obj} {kvs : List (Int × Value)} {c : List (Int × Int)} {p : Int} {t1 : Tok}
    (B : Below A₀ base outer h₀) (F : Fr h₀ L s.heap m) (X : (KF w.params).In h₀)
    (N : News h₀ L s.heap ((dd, o) :: rest))
    (T : Top vw (looseW vw LS) mean mg mb h₀) (hk : cs.kind = .function) (hd : dp + 30 < 1000) (hu : un + 300 < 9900)
    (hd0 : o.IsDictOf (PySem.intKind PySem.Challenge.rw_yi0041_01.row.prog w) kvs) (hf0 : PyProof.V.FlatPairs PyData.int kvs (kdfD c)) (ht0 : TermOk c) (lo0 : (dd == sysModules) = false) (h0 : 0 ≤ p) (h1 : p < 128)
    (ret : ∀ l ws h' tk', Fr h₀ L h' m → News h₀ L h' ((l, listOf ws.toArray 0) :: (dd, o) :: rest) → IntsAre ws (modL (leftI c (rootI p))) → AllLt l rest → @LT.lt Nat _ dd l → Q (.ref l) { s with heap := h', toks := tk' }) :
    wpAny (model PySem.Challenge.rw_yi0041_01.row.prog w) (ktrTop dp un gd cn cs L a ccd cl outer) (call (.ref 468) [.ref dd, .int p t1]) Q E s := by
  refine wpAny_call ?_
  k_dflt k_enter
  k_steps
  · refine' keyS_end _ ?F ?N ?hn ?ho ?ha ?hp ?hr
    (case hp => (rw [← leftStep_eq]; assumption))
    (case F => assumption)
    (case N => assumption)
    (case hn => k_allIn)
    (case ho => k_allIn)
    (case ha => rfl)
    (case hr => intro z hz; simp only [List.contains_cons, List.contains_nil, Bool.or_false, Bool.or_eq_false_iff, beq_eq_false_iff_ne, ne_eq] at hz; simp [hz])
  · refine' ret _ [.int (((leftI c (rootI p)).getD 0 0).fmod 3329) _, .int (((leftI c (rootI p)).getD 1 0).fmod 3329) _] _ _ ?e1 (news_sub ?e2 ?e2b) ?e3 ?e4 ?e5
    (case e1 => assumption)
    (case e2 => assumption)
    (case e2b => k_allIn)
    (case e3 => (rw [← modL_eq]; exact .cons _ _ (.cons _ _ .nil)))
    (case e4 => exact And.right (And.right (by assumption)))
    (case e5 => omega)
end PartLeftL
section PartGen
theorem allLt_iff {d : Addr} {l : List (Addr × Obj)} : AllLt d l ↔ ∀ p ∈ l, @LT.lt Nat _ p.1 d := by
  induction l with
  | nil => exact ⟨fun _ p hp => (nomatch hp), fun _ => trivial⟩
  | cons q r ih =>
    refine ⟨fun h p hp => ?_, fun h => ⟨h q (.head _), ih.mpr fun p hp => h p (.tail _ hp)⟩⟩
    cases hp with
    | head => exact h.1
    | tail _ hp => exact ih.mp h.2 p hp
theorem news_dup {h₀ h : Heap} {L : Addr} {q : Addr × Obj} {l : List (Addr × Obj)} (N : News h₀ L h l) (hm : q ∈ l) : News h₀ L h (q :: l) := news_sub N (sub_cons hm sub_refl)
theorem terms_gen {w : World} {mean : ExcName → Option Value} {mg mb : Str → Option Value} {dp un : Nat} {gd : Option (List Code)} {cn : Str} {cs : Scope} {a : Addr} {ccd : Value} {cl : List (Str × Addr)} {outer : List Env} {A₀ : Around} {base h₀ : Heap} {L : Addr} {m : Str → Option Value} {s : Shared} {Q E : Value → Shared → Prop}
    {news : List (Addr × Obj)} {u1 : Obj → List (Addr × Obj)} {u2 : Obj → Obj → List (Addr × Obj)} {sa ca : Addr} {pos : Int} {tp tm : Tok} {ns : List Int} {vs : List Value} {n1 n2 : Nat}
    (B : Below A₀ base outer h₀) (F : Fr h₀ L s.heap m) (X : (KF w.params).In h₀)
    (N : News h₀ L s.heap news)
    (T : Top vw (looseW vw LS) mean mg mb h₀) (hk : cs.kind = .function) (hd : dp + 30 < 1000) (hu : un + 300 < 9900)
    (U1 : UpdF sa (listOf #[.int pos tp, .ref ca] n1) news u1) (U2 : ∀ o, UpdF ca (listOf vs.toArray n2) (u1 o) (u2 o)) (hne : @Ne Nat sa ca)
    (ok : TakeOk pos vs ns) (hp2 : pos ≤ 50)
    (ret : ∀ d o kvs c pos' tp' vs' ns' h' tk', Fr h₀ L h' m → News h₀ L h' ((d, o) :: u2 (listOf #[.int pos' tp', .ref ca] n1) (listOf vs'.toArray n2)) → TakeOk pos' vs' ns' → pos' ≤ 180 →
      o.IsDictOf (PySem.intKind PySem.Challenge.rw_yi0041_01.row.prog w) kvs → PyProof.V.FlatPairs PyData.int kvs (kdfD c) → TermOk c → c.length ≤ 4 → (d == sysModules) = false → AllLt d news → Q (.ref d) { s with heap := h', toks := tk' }) :
    wpAny (model PySem.Challenge.rw_yi0041_01.row.prog w) (ktrTop dp un gd cn cs L a ccd cl outer) (call (.ref 447) [.ref sa, .int 4 tm]) Q E s := by
  have hm1 : (ca, listOf vs.toArray n2) ∈ news := by
    rcases updF_mem U1 (listOf #[] 0) _ (updF_here (U2 (listOf #[] 0))) with h | h
    · exact absurd (congrArg Prod.fst h).symm hne
    · exact h.1
  refine terms_spec (rest := news.filter fun p => decide (p.1 ≠ sa) && decide (p.1 ≠ ca)) (n1 := n1) (n2 := n2) (tp := tp) B F X (fun p hp => ?_) T hk hd hu hne ?_ ok hp2 ?_
  · cases hp with
    | head => exact N _ (updF_here U1)
    | tail _ hp =>
      cases hp with
      | head => exact N _ hm1
      | tail _ hp => exact N _ (List.mem_filter.mp hp).1
  · intro p hp b hb
    have h := (List.mem_filter.mp hp).2
    simp only [Bool.and_eq_true, decide_eq_true_eq] at h
    cases hb with
    | head => exact h.1
    | tail _ hb =>
      cases hb with
      | head => exact h.2
      | tail _ hb => cases hb
  · intro d o kvs c pos' tp' vs' ns' h' tk' F' N' ok' h1 h2 h3 h4 h5 h6 h7 h8 h9
    refine ret d o kvs c pos' tp' vs' ns' h' tk' F' (fun p hp => ?_) ok' h1 h2 h3 h4 h5 h6 ?_
    · rcases List.mem_cons.mp hp with h | hp
      · rw [h]; exact N' _ (.head _)
      rcases updF_mem (U2 _) _ p hp with h | ⟨h, hc⟩
      · rw [h]
        exact N' _ (.tail _ (.tail _ (.head _)))
      · rcases updF_mem U1 _ p h with h | ⟨h, hs⟩
        · rw [h]
          exact N' _ (.tail _ (.head _))
        · exact N' _ (.tail _ (.tail _ (.tail _ (List.mem_filter.mpr ⟨h, by simp [hs, hc]⟩))))
    · refine allLt_iff.mpr fun p hp => ?_
      by_cases hs : p.1 = sa
      · rw [hs]; exact h7
      · by_cases hc : p.1 = ca
        · rw [hc]; exact h8
        · exact allLt_iff.mp h9 p (List.mem_filter.mpr ⟨hp, by simp [hs, hc]⟩)
theorem row_gen {w : World} {mean : ExcName → Option Value} {mg mb : Str → Option Value} {dp un : Nat} {gd : Option (List Code)} {cn : Str} {cs : Scope} {a : Addr} {ccd : Value} {cl : List (Str × Addr)} {outer : List Env} {A₀ : Around} {base h₀ : Heap} {L : Addr} {m : Str → Option Value} {s : Shared} {Q E : Value → Shared → Prop}
    {news : List (Addr × Obj)} {dd : Addr} {o : Obj} {kvs : List (Int × Value)} {c : List (Int × Int)}
    (B : Below A₀ base outer h₀) (F : Fr h₀ L s.heap m) (X : (KF w.params).In h₀)
    (N : News h₀ L s.heap news)
    (T : Top vw (looseW vw LS) mean mg mb h₀) (hk : cs.kind = .function) (hd : dp + 30 < 1000) (hu : un + 300 < 9900)
    (hm : (dd, o) ∈ news) (hd0 : o.IsDictOf (PySem.intKind PySem.Challenge.rw_yi0041_01.row.prog w) kvs) (hf0 : PyProof.V.FlatPairs PyData.int kvs (kdfD c)) (ht0 : TermOk c) (lo0 : (dd == sysModules) = false)
    (ret : ∀ ra vs' h' tk', Fr h₀ L h' m → News h₀ L h' ((ra, listOf vs'.toArray 0) :: news) → IntsAre vs' (rowI c) → (rowI c).length = 256 → AllLt ra news → Q (.ref ra) { s with heap := h', toks := tk' }) :
    wpAny (model PySem.Challenge.rw_yi0041_01.row.prog w) (ktrTop dp un gd cn cs L a ccd cl outer) (call (.ref 454) [.ref dd]) Q E s :=
  row_spec B F X (news_dup N hm) T hk hd hu hd0 hf0 ht0 lo0 fun ra vs' h' tk' F' N' hi _ hl => ret ra vs' h' tk' F' (news_sub N' (sub_cons (.head _) (sub_tail (sub_tail sub_refl)))) hi (rowI_len _) hl
theorem left_gen {w : World} {mean : ExcName → Option Value} {mg mb : Str → Option Value} {dp un : Nat} {gd : Option (List Code)} {cn : Str} {cs : Scope} {a : Addr} {ccd : Value} {cl : List (Str × Addr)} {outer : List Env} {A₀ : Around} {base h₀ : Heap} {L : Addr} {m : Str → Option Value} {s : Shared} {Q E : Value → Shared → Prop}
    {news : List (Addr × Obj)} {dd : Addr} {o : Obj} {kvs : List (Int × Value)} {c : List (Int × Int)} {p : Int} {t1 : Tok}
    (B : Below A₀ base outer h₀) (F : Fr h₀ L s.heap m) (X : (KF w.params).In h₀)
    (N : News h₀ L s.heap news)
    (T : Top vw (looseW vw LS) mean mg mb h₀) (hk : cs.kind = .function) (hd : dp + 30 < 1000) (hu : un + 300 < 9900)
    (hm : (dd, o) ∈ news) (hd0 : o.IsDictOf (PySem.intKind PySem.Challenge.rw_yi0041_01.row.prog w) kvs) (hf0 : PyProof.V.FlatPairs PyData.int kvs (kdfD c)) (ht0 : TermOk c) (lo0 : (dd == sysModules) = false) (h0 : 0 ≤ p) (h1 : p < 128)
    (ret : ∀ l ws h' tk', Fr h₀ L h' m → News h₀ L h' ((l, listOf ws.toArray 0) :: news) → IntsAre ws (modL (leftI c (rootI p))) → (modL (leftI c (rootI p))).length = 2 → AllLt l news → Q (.ref l) { s with heap := h', toks := tk' }) :
    wpAny (model PySem.Challenge.rw_yi0041_01.row.prog w) (ktrTop dp un gd cn cs L a ccd cl outer) (call (.ref 468) [.ref dd, .int p t1]) Q E s :=
  left_spec B F X (news_dup N hm) T hk hd hu hd0 hf0 ht0 lo0 h0 h1 fun l ws h' tk' F' N' hi hl _ => ret l ws h' tk' F' (news_sub N' (sub_cons (.head _) (sub_tail (sub_tail sub_refl)))) hi (by rw [← modL_eq]; rfl) hl
theorem ntt_gen {w : World} {mean : ExcName → Option Value} {mg mb : Str → Option Value} {dp un : Nat} {gd : Option (List Code)} {cn : Str} {cs : Scope} {a : Addr} {ccd : Value} {cl : List (Str × Addr)} {outer : List Env} {A₀ : Around} {base h₀ : Heap} {L : Addr} {m : Str → Option Value} {s : Shared} {Q E : Value → Shared → Prop}
    {news : List (Addr × Obj)} {u : Obj → List (Addr × Obj)} {px pd rx rd z c : Addr} {ys vs : List Value} {ns : List Int} {nc : Nat} {t1 t2 t3 t4 t5 t6 t7 u1 u2 : Tok}
    (B : Below A₀ base outer h₀) (F : Fr h₀ L s.heap m) (X : (KF w.params).In h₀)
    (N : News h₀ L s.heap news)
    (T : Top vw (looseW vw LS) mean mg mb h₀) (hk : cs.kind = .function) (hd : dp + 30 < 1000) (hu : un + 300 < 9900)
    (U : UpdF c (listOf vs.toArray nc) news u) (m1 : (z, listOf ys.toArray ys.length) ∈ news) (m2 : (px, instObj 350 pd) ∈ news) (m3 : (pd, dictOf [⟨PyData.keyHash w.params (PySem.Str.ofString "parent"), .str (PySem.Str.ofString "parent") u1, .ref rx⟩, ⟨PyData.keyHash w.params (PySem.Str.ofString "coeffs"), .str (PySem.Str.ofString "coeffs") u2, .ref c⟩] 2) ∈ news) (m4 : (rx, instObj 282 rd) ∈ news) (m5 : (rd, dictOf [⟨PyData.keyHash w.params (PySem.Str.ofString "q"), .str (PySem.Str.ofString "q") t1, .int 3329 t2⟩, ⟨PyData.keyHash w.params (PySem.Str.ofString "n"), .str (PySem.Str.ofString "n") t3, .int 256 t4⟩, ⟨PyData.keyHash w.params (PySem.Str.ofString "ntt_zetas"), .str (PySem.Str.ofString "ntt_zetas") t5, .ref z⟩, ⟨PyData.keyHash w.params (PySem.Str.ofString "ntt_f"), .str (PySem.Str.ofString "ntt_f") t6, .int 3303 t7⟩] 4) ∈ news)
    (hi : IntsAre vs ns) (hl : ns.length = 256) (hz : IntsAre ys zetaL) (n1 : @Ne Nat z c) (n2 : @Ne Nat px c) (n3 : @Ne Nat pd c) (n4 : @Ne Nat rx c) (n5 : @Ne Nat rd c)
    (ret : ∀ y d v1 v2 vs' h' tk', Fr h₀ L h' m → News h₀ L h' ((y, instObj 426 d) :: (d, dictOf [⟨PyData.keyHash w.params (PySem.Str.ofString "parent"), .str (PySem.Str.ofString "parent") v1, .ref rx⟩, ⟨PyData.keyHash w.params (PySem.Str.ofString "coeffs"), .str (PySem.Str.ofString "coeffs") v2, .ref c⟩] 2) :: u (listOf vs'.toArray nc)) →
      IntsAre vs' (restA (outA ns)) → (restA (outA ns)).length = 256 → AllLt d news → @LT.lt Nat _ d y → Q (.ref y) { s with heap := h', toks := tk' }) :
    wpAny (model PySem.Challenge.rw_yi0041_01.row.prog w) (ktrTop dp un gd cn cs L a ccd cl outer) (call (.ref 340) [.ref px]) Q E s := by
  refine ntt_spec (rest := news.filter fun p => decide (p.1 ≠ c)) (ys := ys) (vs := vs) (nc := nc) (t1 := t1) (t2 := t2) (t3 := t3) (t4 := t4) (t5 := t5) (t6 := t6) (t7 := t7) (u1 := u1) (u2 := u2) B F X
    (news_sub N (sub_cons (updF_here U) (sub_cons m1 (sub_cons m2 (sub_cons m3 (sub_cons m4 (sub_cons m5 fun p hp => (List.mem_filter.mp hp).1))))))) T hk hd hu hi hl hz n1 n2 n3 n4 n5 (fun p hp => by simpa using (List.mem_filter.mp hp).2) ?_
  intro y d v1 v2 vs' h' tk' F' N' hI h1 h2 h3
  refine ret y d v1 v2 vs' h' tk' F' (fun p hp => ?_) hI (by rw [restA_len, outA_len]; exact hl) ?_ h3
  · rcases List.mem_cons.mp hp with h | hp
    · rw [h]; exact N' _ (.head _)
    · rcases List.mem_cons.mp hp with h | hp
      · rw [h]; exact N' _ (.tail _ (.head _))
      · rcases updF_mem U _ p hp with h | ⟨h, hc⟩
        · rw [h]; exact N' _ (.tail _ (.tail _ (.head _)))
        · exact N' _ (.tail _ (.tail _ (.tail _ (List.mem_filter.mpr ⟨h, by simp [hc]⟩))))
  · refine allLt_iff.mpr fun p hp => ?_
    by_cases hc : p.1 = c
    · rw [hc]; exact h2
    · exact allLt_iff.mp h1 p (List.mem_filter.mpr ⟨hp, by simp [hc]⟩)
theorem state_spec {w : World} {mean : ExcName → Option Value} {mg mb : Str → Option Value} {dp un : Nat} {gd : Option (List Code)} {cn : Str} {cs : Scope} {a : Addr} {ccd : Value} {cl : List (Str × Addr)} {outer : List Env} {A₀ : Around} {base h₀ : Heap} {L : Addr} {m : Str → Option Value} {s : Shared} {Q E : Value → Shared → Prop}
    {l : Addr} {vs : List Value} {ns : List Int}
    (B : Below A₀ base outer h₀) (F : Fr h₀ L s.heap m) (X : (KF w.params).In h₀)
    (N : News h₀ L s.heap [])
    (T : Top vw (looseW vw LS) mean mg mb h₀) (hk : cs.kind = .function) (hd : dp + 30 < 1000) (hu : un + 300 < 9900)
    (hL : base.IsList l vs.toArray) (hI : IntsAre vs ns) (h63 : ¬ ((63 : Nat) : Int) < (ns.length : Int))
    (ret : ∀ sa ca tp vs' ns' n2 h' tk', Fr h₀ L h' m → News h₀ L h' ((sa, listOf #[.int 0 tp, .ref ca] 0) :: (ca, listOf vs'.toArray n2) :: []) → TakeOk 0 vs' ns' → @Ne Nat sa ca → Q (.ref sa) { s with heap := h', toks := tk' }) :
    wpAny (model PySem.Challenge.rw_yi0041_01.row.prog w) (ktrTop dp un gd cn cs L a ccd cl outer) (call (.ref 433) [.ref l]) Q E s := by
  refine wpAny_call ?_
  k_dflt k_enter
  have hL' := stays_list (Below.stays (by assumption)) hL
  k_steps
  · refine' ret _ _ _ [.int 0 _] [0] 0 _ _ ?e1 (news_sub ?e2 ?e2b) ?e3 ?e4
    (case e1 => assumption)
    (case e2 => assumption)
    (case e2b => k_allIn)
    (case e3 => exact ⟨.cons 0 _ .nil, (fun n hn => by simp at hn; omega), by simp, by simp, by omega⟩)
    (case e4 => omega)
  · refine' ret _ _ _ _ _ _ _ _ ?e1 (news_sub ?e2 ?e2b) ?e3 ?e4
    (case e1 => assumption)
    (case e2 => assumption)
    (case e2b => k_allIn)
    (case e3 => (refine' ⟨?f1, ?f2, ?f3, ?f4, ?f5⟩; (case f1 => assumption); (case f2 => (intro n hn; obtain ⟨k, _, e⟩ := List.mem_map.mp hn; (split at e) <;> omega)); (case f3 => omega); (case f4 => (rw [List.length_map, List.length_take]; omega)); (case f5 => omega)))
    (case e4 => omega)
end PartGen
section PartCut
/-- the two numbers at a place -/
@[irreducible] def cutI (ns : List Int) (k : Int) : List Int := (ns.drop k.toNat).take (min (k + 2).toNat ns.length - k.toNat)
theorem cutI_eq (ns : List Int) (k : Int) : (ns.drop k.toNat).take (min (k + 2).toNat ns.length - k.toNat) = cutI ns k := by unfold cutI; rfl
section
variable {prog : Program} {w : World} {A : Around} {E : Value → Shared → Prop} {s : Shared} {h₀ : Heap} {L l l2 : Addr} {m : Str → Option Value} {news : List (Addr × Obj)} {value slice : PySem.Expr} {vs ws : List Value} {ns ms : List Int} {n n2 : Nat} {k : Int} {uk ul : Tok} {Q : Value → Shared → Prop}
theorem cut_T (F : Fr h₀ L s.heap m) (N : News h₀ L s.heap news) (hm : (l, listOf vs.toArray n) ∈ news) (hi : IntsAre vs ns) (hlen : ns.length = 256) (h0 : 0 ≤ k)
    (h : ∀ D ws h', Fr h₀ L h' m → News h₀ L h' ((D, listOf (List.toArray ws) 0) :: news) → IntsAre ws (cutI ns k) → AllLt D news → Q (.ref D) { s with heap := h' })
    (hs : subscripted slice false (.ref l) (.ref s.heap.objs.size) = operate [.ref s.heap.objs.size, .ref l] (getItem (.ref l) (.ref s.heap.objs.size))) (ht : ∀ r, letTemporaryGo value (.ref l) r = pure ()) :
    wpAny (model prog w) A (subscriptTail value slice (.ref l) (.ref s.heap.objs.size)) Q E { s with heap := s.heap.push { cls := .type "slice", data := .fields #[.int k uk, .int (k + 2) ul, .none] } } := by
  refine kmk_slice_ints (c := (cutI ns k).length) F N (News.isList N hm) (IsPart.int _ _) (IsPart.int _ _) hi (by rw [← cutI_eq]; exact kmk_run hi h0 (by omega)) rfl (fun D ws h' F' N' l1 hI _ _ => h D ws h' F' N' hI (allLt_of l1)) hs ht ?_
  rw [List.size_toArray, hi.length, hlen, sizeLine_eq]
  decide
theorem ne_T (N : News h₀ L s.heap news) (h1 : (l, listOf vs.toArray n) ∈ news) (h2 : (l2, listOf ws.toArray n2) ∈ news) (hi : IntsAre vs ns) (hj : IntsAre ws ms) (e : ns = ms) (hu : A.units + 64 < cLine) (h : Q (.bool false) s) :
    wpAny (model prog w) A (compareOp .NotEq (.ref l) (.ref l2)) Q E s :=
  ke_ne_ints (News.isList N h1) (News.isList N h2) hi hj hu (by rw [decide_eq_true e]; exact h)
end
end PartCut
section PartPlain
/-- equal modulo 3329 -/
def Cg (a b : Int) : Prop := ∃ k, a = b + 3329 * k
theorem Cg.rfl' (a : Int) : Cg a a := ⟨0, by omega⟩
theorem Cg.symm {a b : Int} (h : Cg a b) : Cg b a := by obtain ⟨k, rfl⟩ := h; exact ⟨-k, by omega⟩
theorem Cg.trans {a b c : Int} (h : Cg a b) (h' : Cg b c) : Cg a c := by obtain ⟨k, rfl⟩ := h; obtain ⟨m, rfl⟩ := h'; exact ⟨k + m, by omega⟩
theorem Cg.add {a b c d : Int} (h : Cg a b) (h' : Cg c d) : Cg (a + c) (b + d) := by obtain ⟨k, rfl⟩ := h; obtain ⟨m, rfl⟩ := h'; exact ⟨k + m, by omega⟩
theorem Cg.neg {a b : Int} (h : Cg a b) : Cg (-a) (-b) := by obtain ⟨k, rfl⟩ := h; exact ⟨-k, by omega⟩
theorem Cg.sub {a b c d : Int} (h : Cg a b) (h' : Cg c d) : Cg (a - c) (b - d) := by obtain ⟨k, rfl⟩ := h; obtain ⟨m, rfl⟩ := h'; exact ⟨k - m, by omega⟩
theorem Cg.mul {a b c d : Int} (h : Cg a b) (h' : Cg c d) : Cg (a * c) (b * d) := by
  obtain ⟨k, rfl⟩ := h; obtain ⟨m, rfl⟩ := h'
  exact ⟨b * m + k * d + 3329 * k * m, by grind⟩
theorem Cg.pow {a b : Int} (h : Cg a b) (n : Nat) : Cg (a ^ n) (b ^ n) := by
  induction n with
  | zero => rw [Int.pow_zero, Int.pow_zero]; exact Cg.rfl' _
  | succ n ih => rw [Int.pow_succ, Int.pow_succ]; exact ih.mul h
theorem Cg.fmod {a b : Int} (h : Cg a b) : a.fmod 3329 = b.fmod 3329 := by
  obtain ⟨k, rfl⟩ := h
  rw [Int.fmod_eq_emod_of_nonneg _ (by decide), Int.fmod_eq_emod_of_nonneg _ (by decide)]
  omega
theorem Cg.of_emod {a b : Int} (h : (a - b) % 3329 = 0) : Cg a b := ⟨(a - b) / 3329, by omega⟩

/-- the value at r of the n first numbers of g -/
def S (g : Nat → Int) (r : Int) : Nat → Int
  | 0 => 0
  | n + 1 => S g r n + g n * r ^ n
theorem S_cg (g : Nat → Int) {r r' : Int} (h : Cg r r') (n : Nat) : Cg (S g r n) (S g r' n) := by
  induction n with
  | zero => exact Cg.rfl' _
  | succ n ih => exact ih.add ((Cg.rfl' _).mul (h.pow n))
theorem S_two (g : Nat → Int) (z : Int) (n : Nat) : S g z (2 * n) = S (fun t => g (2 * t)) (z * z) n + z * S (fun t => g (2 * t + 1)) (z * z) n := by
  induction n with
  | zero => simp [S]
  | succ n ih =>
    have e : 2 * (n + 1) = 2 * n + 1 + 1 := by omega
    rw [e, S, S, ih, S, S]
    have p1 : z ^ (2 * n) = (z * z) ^ n := by
      rw [Int.pow_mul]
      congr 1
      rw [Int.pow_succ, Int.pow_succ, Int.pow_zero, Int.one_mul]
    have p2 : z ^ (2 * n + 1) = (z * z) ^ n * z := by rw [Int.pow_succ, p1]
    rw [p1, p2]
    grind
theorem S_ext {g g' : Nat → Int} (r : Int) (n : Nat) (h : ∀ t, t < n → g t = g' t) : S g r n = S g' r n := by
  induction n with
  | zero => rfl
  | succ n ih => rw [S, S, ih fun t ht => h t (by omega), h n (by omega)]

/-- an item, zero outside -/
abbrev A (ns : List Int) (x : Nat) : Int := ns.getD x 0
theorem A_set (ns : List Int) (i : Nat) (v : Int) (x : Nat) (h : i < ns.length) : A (ns.set i v) x = if x = i then v else A ns x := by
  unfold A
  rw [List.getD_eq_getElem?_getD, List.getD_eq_getElem?_getD, List.getElem?_set]
  by_cases e : i = x
  · subst e; simp [h]
  · rw [if_neg e, if_neg fun q => e q.symm]
theorem A_bfly (z : Int) (j l : Nat) (ns : List Int) (hl : 0 < l) (h : j + l < ns.length) (x : Nat) :
    A (bflyI z (j : Int) (l : Int) ns) x = if x = j then A ns j + z * A ns (j + l) else if x = j + l then A ns j - z * A ns (j + l) else A ns x := by
  unfold bflyI
  have e1 : ((j : Int) + (l : Int)).toNat = j + l := by omega
  have e2 : ((j : Int)).toNat = j := by omega
  rw [e1, e2]
  show A ((ns.set (j + l) (A ns j - z * A ns (j + l))).set j (A (ns.set (j + l) (A ns j - z * A ns (j + l))) j + z * A ns (j + l))) x = _
  rw [A_set _ _ _ _ (by rw [List.length_set]; omega), A_set _ _ _ _ h, A_set _ _ _ _ h]
  by_cases h1 : x = j
  · subst h1
    rw [if_pos rfl, if_pos rfl, if_neg (by omega)]
  · rw [if_neg h1, if_neg h1]
theorem A_inner (z : Int) (l start : Nat) (ns : List Int) (hl : 0 < l) (h : start + 2 * l ≤ ns.length) : ∀ i, i ≤ l → ∀ x,
    A (innerI z (l : Int) (start : Int) i ns) x = if start ≤ x ∧ x < start + i then A ns x + z * A ns (x + l) else if start + l ≤ x ∧ x < start + l + i then A ns (x - l) - z * A ns x else A ns x := by
  intro i
  induction i with
  | zero =>
    intro _ x
    rw [innerI, if_neg (by omega), if_neg (by omega)]
  | succ i ih =>
    intro hi x
    rw [innerI]
    have e : (start : Int) + (i : Int) = ((start + i : Nat) : Int) := by omega
    rw [e, A_bfly z (start + i) l _ hl (by rw [innerI_len]; omega) x]
    have h0 := ih (by omega)
    rw [h0 x, h0 (start + i), h0 (start + i + l)]
    by_cases h1 : x = start + i
    · subst h1
      rw [if_pos rfl, if_neg (by omega), if_neg (by omega), if_neg (by omega), if_neg (by omega), if_pos (by omega)]
    · rw [if_neg h1]
      by_cases h2 : x = start + i + l
      · subst h2
        have e3 : start + i + l - l = start + i := by omega
        rw [if_pos rfl, if_neg (by omega), if_neg (by omega), if_neg (by omega), if_neg (by omega), if_neg (by omega), if_pos (by omega), e3]
      · rw [if_neg h2]
        by_cases h3 : start ≤ x ∧ x < start + i
        · have h5 : start ≤ x ∧ x < start + (i + 1) := by omega
          rw [if_pos h3, if_pos h5]
        · have h5 : ¬ (start ≤ x ∧ x < start + (i + 1)) := by omega
          rw [if_neg h3, if_neg h5]
          by_cases h4 : start + l ≤ x ∧ x < start + l + i
          · have h6 : start + l ≤ x ∧ x < start + l + (i + 1) := by omega
            rw [if_pos h4, if_pos h6]
          · have h6 : ¬ (start + l ≤ x ∧ x < start + l + (i + 1)) := by omega
            rw [if_neg h4, if_neg h6]
theorem A_mid (l k p : Nat) (ns : List Int) (hl : 0 < l) (h : 2 * l * p ≤ ns.length) : ∀ b, b ≤ p → ∀ β i, β < p → i < l →
    A (midI l k b ns) (2 * l * β + i) = (if β < b then A ns (2 * l * β + i) + zetaL.getD (k + β) 0 * A ns (2 * l * β + i + l) else A ns (2 * l * β + i)) ∧
    A (midI l k b ns) (2 * l * β + i + l) = (if β < b then A ns (2 * l * β + i) - zetaL.getD (k + β) 0 * A ns (2 * l * β + i + l) else A ns (2 * l * β + i + l)) := by
  intro b
  induction b with
  | zero => intro _ β i _ _; exact ⟨by rw [midI, if_neg (by omega)], by rw [midI, if_neg (by omega)]⟩
  | succ b ih =>
    intro hb β i hβ hi
    have hlen : 2 * l * b + 2 * l ≤ (midI l k b ns).length := by
      rw [midI_len]
      have h1 : 2 * l * (b + 1) ≤ 2 * l * p := Nat.mul_le_mul_left _ hb
      have h2 : 2 * l * (b + 1) = 2 * l * b + 2 * l := by rw [Nat.mul_add, Nat.mul_one]
      omega
    have hin := A_inner (zetaL.getD (k + b) 0) l (2 * l * b) (midI l k b ns) hl hlen l (Nat.le_refl _)
    have h0 := ih (by omega) β i hβ hi
    rw [midI, hin, hin, h0.1, h0.2]
    rcases Nat.lt_trichotomy β b with hlt | heq | hgt
    · have h1 : 2 * l * (β + 1) ≤ 2 * l * b := Nat.mul_le_mul_left _ hlt
      have h2 : 2 * l * (β + 1) = 2 * l * β + 2 * l := by rw [Nat.mul_add, Nat.mul_one]
      constructor
      · rw [if_neg (by omega), if_neg (by omega), if_pos hlt, if_pos (by omega)]
      · rw [if_neg (by omega), if_neg (by omega), if_pos hlt, if_pos (by omega)]
    · subst heq
      constructor
      · rw [if_pos (by omega), if_neg (by omega), if_neg (by omega), if_pos (by omega)]
      · have e3 : 2 * l * β + i + l - l = 2 * l * β + i := by omega
        rw [if_neg (by omega), if_pos (by omega), e3, h0.1, if_neg (by omega), if_neg (by omega), if_pos (by omega)]
    · have h1 : 2 * l * (b + 1) ≤ 2 * l * β := Nat.mul_le_mul_left _ hgt
      have h2 : 2 * l * (b + 1) = 2 * l * b + 2 * l := by rw [Nat.mul_add, Nat.mul_one]
      constructor
      · rw [if_neg (by omega), if_neg (by omega), if_neg (by omega), if_neg (by omega)]
      · rw [if_neg (by omega), if_neg (by omega), if_neg (by omega), if_neg (by omega)]
/-- the roots of the blocks: of stage e, block b -/
def rho : Nat → Nat → Int
  | 0, _ => -1
  | e + 1, b => if b % 2 = 0 then zetaL.getD (2 ^ e + b / 2) 0 else - zetaL.getD (2 ^ e + b / 2) 0
theorem rho_sq : ((List.range 7).all fun e => (List.range (2 ^ e)).all fun b => decide ((zetaL.getD (2 ^ e + b) 0 * zetaL.getD (2 ^ e + b) 0 - rho e b) % 3329 = 0)) = true := by decide +kernel
theorem rho_end : ((List.range 128).all fun p => decide ((rho 7 p - rootI (p : Int)) % 3329 = 0)) = true := by decide +kernel
theorem rho_at {e b : Nat} (he : e < 7) (hb : b < 2 ^ e) : Cg (zetaL.getD (2 ^ e + b) 0 * zetaL.getD (2 ^ e + b) 0) (rho e b) := by
  have h1 := List.all_eq_true.mp rho_sq e (List.mem_range.mpr he)
  have h2 := List.all_eq_true.mp h1 b (List.mem_range.mpr hb)
  exact Cg.of_emod (of_decide_eq_true h2)
theorem rho_root {p : Nat} (hp : p < 128) : Cg (rho 7 p) (rootI (p : Int)) := Cg.of_emod (of_decide_eq_true (List.all_eq_true.mp rho_end p (List.mem_range.mpr hp)))
theorem stage (ns : List Int) (hlen : ns.length = 256) : ∀ e, e ≤ 7 → ∀ b i, b < 2 ^ e → i < 256 >>> e →
    Cg (A (outI e ns) ((256 >>> e) * b + i)) (S (fun t => A ns (i + (256 >>> e) * t)) (rho e b) (2 ^ e)) := by
  intro e
  induction e with
  | zero =>
    intro _ b i hb hi
    have hb0 : b = 0 := by simp at hb; exact hb
    subst hb0
    refine ⟨0, ?_⟩
    show A ns (256 * 0 + i) = S (fun t => A ns (i + 256 * t)) (-1) 1 + 3329 * 0
    simp [S]
  | succ e ih =>
    intro he b i hb hi
    have he' : e < 7 := by omega
    have hL : (256 >>> e) = 2 * (128 >>> e) ∧ (256 >>> (e + 1)) = 128 >>> e ∧ (128 >>> e) * 2 ^ e = 128 ∧ 0 < 128 >>> e := by
      match e, he' with
      | 0, _ => decide
      | 1, _ => decide
      | 2, _ => decide
      | 3, _ => decide
      | 4, _ => decide
      | 5, _ => decide
      | 6, _ => decide
    obtain ⟨hL1, hL2, hL3, hL4⟩ := hL
    rw [hL2] at hi ⊢
    generalize hl : 128 >>> e = l at *
    rw [hL1] at ih
    have hβ : b / 2 < 2 ^ e := by rw [Nat.pow_succ] at hb; omega
    have hlen2 : 2 * l * 2 ^ e ≤ (outI e ns).length := by
      rw [outI_len, hlen, Nat.mul_assoc, hL3]
      decide
    have hm := A_mid l (2 ^ e) (2 ^ e) (outI e ns) hL4 hlen2 (2 ^ e) (Nat.le_refl _) (b / 2) i hβ hi
    rw [if_pos hβ, if_pos hβ] at hm
    have i1 := ih (by omega) (b / 2) i hβ (by omega)
    have i2 := ih (by omega) (b / 2) (i + l) hβ (by omega)
    rw [← Nat.add_assoc] at i2
    have hz := rho_at he' hβ
    have s1 := (S_cg (fun t => A ns (i + 2 * l * t)) hz (2 ^ e)).symm
    have s2 := (S_cg (fun t => A ns (i + l + 2 * l * t)) hz (2 ^ e)).symm
    have g1 : (fun t => A ns (i + l * (2 * t))) = fun t => A ns (i + 2 * l * t) := by
      funext t
      rw [show l * (2 * t) = 2 * l * t by rw [← Nat.mul_assoc, Nat.mul_comm l 2]]
    have g2 : (fun t => A ns (i + l * (2 * t + 1))) = fun t => A ns (i + l + 2 * l * t) := by
      funext t
      rw [show i + l * (2 * t + 1) = i + l + 2 * l * t by rw [Nat.mul_add, Nat.mul_one, ← Nat.mul_assoc, Nat.mul_comm l 2]; omega]
    have ho : outI (e + 1) ns = midI l (2 ^ e) (2 ^ e) (outI e ns) := by rw [outI, hl]
    have h2e : 2 ^ (e + 1) = 2 * 2 ^ e := by rw [Nat.pow_succ, Nat.mul_comm]
    rw [ho, h2e, S_two, g1, g2]
    rcases Nat.mod_two_eq_zero_or_one b with hb2 | hb2
    · have e1 : l * b + i = 2 * l * (b / 2) + i := by
        have : b = 2 * (b / 2) := by omega
        rw [show l * b = 2 * l * (b / 2) by rw [Nat.mul_comm 2 l, Nat.mul_assoc, ← this]]
      rw [e1, hm.1]
      have er : rho (e + 1) b = zetaL.getD (2 ^ e + b / 2) 0 := by rw [rho, if_pos hb2]
      rw [er]
      exact (i1.trans s1).add ((Cg.rfl' _).mul (i2.trans s2))
    · have e1 : l * b + i = 2 * l * (b / 2) + i + l := by
        have : b = 2 * (b / 2) + 1 := by omega
        rw [show l * b = 2 * l * (b / 2) + l by
          conv => lhs; rw [this]
          rw [Nat.mul_add, Nat.mul_one, ← Nat.mul_assoc, Nat.mul_comm l 2]]
        omega
      rw [e1, hm.2]
      have er : rho (e + 1) b = - zetaL.getD (2 ^ e + b / 2) 0 := by rw [rho, if_neg (by omega)]
      rw [er]
      generalize zetaL.getD (2 ^ e + b / 2) 0 = z at *
      have ez : -z * -z = z * z := by grind
      rw [ez]
      have q := (i1.trans s1).sub ((Cg.rfl' z).mul (i2.trans s2))
      have e3 : ∀ a b : Int, a + -z * b = a - z * b := by intro a b; grind
      rw [e3]
      exact q
theorem transform (ns : List Int) (hlen : ns.length = 256) {p e : Nat} (hp : p < 128) (he : e < 2) :
    Cg (A (outA ns) (2 * p + e)) (S (fun t => A ns (e + 2 * t)) (rootI (p : Int)) 128) := by
  rw [← outA_eq]
  exact (stage ns hlen 7 (Nat.le_refl _) p e hp he).trans (S_cg _ (rho_root hp) _)

theorem A_modI (ns : List Int) (j x : Nat) (h : j < ns.length) : A (modI (0 + (j : Int)) ns) x = if x = j then (A ns j).fmod 3329 else A ns x := by
  unfold modI
  have e : (0 + (j : Int)).toNat = j := by omega
  rw [e]
  exact A_set ns j _ x h
theorem A_rest (ns : List Int) : ∀ j, j ≤ ns.length → ∀ x, A (restI j ns) x = if x < j then (A ns x).fmod 3329 else A ns x := by
  intro j
  induction j with
  | zero => intro _ x; rw [restI, if_neg (by omega)]
  | succ j ih =>
    intro hj x
    rw [restI, A_modI _ _ _ (by rw [restI_len]; omega), ih (by omega) x, ih (by omega) j]
    by_cases h : x = j
    · subst h
      rw [if_pos rfl, if_neg (by omega), if_pos (by omega)]
    · rw [if_neg h]
      by_cases h2 : x < j
      · rw [if_pos h2, if_pos (by omega)]
      · rw [if_neg h2, if_neg (by omega)]
theorem take_two (l : List Int) (k : Nat) (h : k + 2 ≤ l.length) : (l.drop k).take 2 = [A l k, A l (k + 1)] := by
  have e1 : l.drop k = l[k] :: l.drop (k + 1) := List.drop_eq_getElem_cons (by omega)
  have e2 : l.drop (k + 1) = l[k + 1] :: l.drop (k + 1 + 1) := List.drop_eq_getElem_cons (by omega)
  rw [e1, e2]
  have a1 : A l k = l[k] := by unfold A; simp [List.getD_eq_getElem?_getD, List.getElem?_eq_getElem (show k < l.length by omega)]
  have a2 : A l (k + 1) = l[k + 1] := by unfold A; simp [List.getD_eq_getElem?_getD, List.getElem?_eq_getElem (show k + 1 < l.length by omega)]
  rw [a1, a2]
  rfl
theorem cut_two (l : List Int) (p : Nat) (hl : l.length = 256) (hp : p < 128) : cutI l (2 * (p : Int)) = [A l (2 * p), A l (2 * p + 1)] := by
  rw [← cutI_eq]
  have e1 : (2 * (p : Int)).toNat = 2 * p := by omega
  have e2 : (2 * (p : Int) + 2).toNat = 2 * p + 2 := by omega
  rw [e1, e2, hl, show min (2 * p + 2) 256 - 2 * p = 2 by omega]
  exact take_two l (2 * p) (by omega)

-- the powers
theorem bits_end : ((List.range 256).all fun e => decide (e >>> Builtin.Int.intBits ((e : Nat) : Int) = 0)) = true := by decide +kernel
theorem cg_mod (x : Nat) : Cg (((x % 3329 : Nat)) : Int) (x : Int) := ⟨-((x / 3329 : Nat) : Int), by omega⟩
theorem pow_fold (b e : Nat) : ∀ n p, Cg ((p : Nat) : Int) (((b : Nat) : Int) ^ (e >>> n)) →
    Cg ((((List.range n).reverse.foldl (fun p i => if e.testBit i then p * p % 3329 * b % 3329 else p * p % 3329) p : Nat)) : Int) (((b : Nat) : Int) ^ e) := by
  intro n
  induction n with
  | zero => intro p h; simpa using h
  | succ n ih =>
    intro p h
    rw [List.range_succ, List.reverse_append, List.reverse_singleton, List.singleton_append, List.foldl_cons]
    refine ih _ ?_
    have hs : e >>> n = 2 * (e >>> (n + 1)) + (e >>> n) % 2 := by
      rw [Nat.shiftRight_succ]
      omega
    have hb : e.testBit n = decide ((e >>> n) % 2 = 1) := by
      rw [Nat.testBit, Nat.one_and_eq_mod_two]
      rcases Nat.mod_two_eq_zero_or_one (e >>> n) with h0 | h0 <;> rw [h0] <;> rfl
    have hsq : Cg ((p * p % 3329 : Nat) : Int) (((b : Nat) : Int) ^ (2 * (e >>> (n + 1)))) := by
      refine (cg_mod _).trans ?_
      rw [Int.natCast_mul, Int.pow_mul, show ((b : Int) ^ 2) = (b : Int) * b by rw [Int.pow_succ, Int.pow_succ, Int.pow_zero, Int.one_mul]]
      have e1 : ((b : Int) * b) ^ (e >>> (n + 1)) = (b : Int) ^ (e >>> (n + 1)) * (b : Int) ^ (e >>> (n + 1)) := Int.mul_pow ..
      rw [e1]
      exact h.mul h
    rcases Nat.mod_two_eq_zero_or_one (e >>> n) with h0 | h0
    · have hf : e.testBit n = false := by rw [hb, h0]; rfl
      rw [hf, if_neg (by decide), hs, h0]
      exact hsq
    · have hf : e.testBit n = true := by rw [hb, h0]; rfl
      rw [hf, if_pos rfl, hs, h0, Int.pow_succ]
      refine (cg_mod _).trans ?_
      rw [Int.natCast_mul]
      exact hsq.mul (Cg.rfl' _)
theorem powMod_cg (b e : Nat) (he : e < 256) : Cg ((Builtin.powMod b e 3329 : Nat) : Int) (((b : Nat) : Int) ^ e) := by
  unfold Builtin.powMod
  refine pow_fold b e _ _ ?_
  have h := of_decide_eq_true (List.all_eq_true.mp bits_end e (List.mem_range.mpr he))
  rw [h, Int.pow_zero]
  exact ⟨0, rfl⟩
theorem pwI_cg (b : Int) (n : Nat) (hn : n < 256) : Cg (pwI b (n : Int)) (b ^ n) := by
  rw [← pwI_eq]
  have e : ((n : Int)).natAbs = n := by omega
  rw [e]
  refine (powMod_cg _ n hn).trans ((Cg.pow ?_) n)
  exact ⟨-(b / 3329), by omega⟩

-- the two sums
def sumK (look : Int → Int) (r : Int) (e : Nat) : List Int → Int
  | [] => 0
  | k :: ks => (if k.toNat % 2 = e then look k * r ^ (k.toNat / 2) else 0) + sumK look r e ks
theorem S_add (g g' : Nat → Int) (r : Int) (n : Nat) : S (fun t => g t + g' t) r n = S g r n + S g' r n := by
  induction n with
  | zero => rfl
  | succ n ih => rw [S, S, S, ih]; grind
theorem S_delta (v r : Int) (e a : Nat) (he : e < 2) (n : Nat) : S (fun t => if e + 2 * t = a then v else 0) r n = if a % 2 = e ∧ a / 2 < n then v * r ^ (a / 2) else 0 := by
  induction n with
  | zero => rw [S, if_neg (by omega)]
  | succ n ih =>
    rw [S, ih]
    by_cases h1 : e + 2 * n = a
    · have h2 : a / 2 = n := by omega
      have h3 : a % 2 = e ∧ a / 2 < n + 1 := by omega
      have h4 : ¬ (a % 2 = e ∧ a / 2 < n) := by omega
      rw [if_pos h1, if_pos h3, if_neg h4, h2, Int.zero_add]
    · rw [if_neg h1, Int.zero_mul, Int.add_zero]
      by_cases h3 : a % 2 = e ∧ a / 2 < n
      · rw [if_pos h3, if_pos (by omega)]
      · rw [if_neg h3, if_neg (by omega)]
theorem S_zero (r : Int) (n : Nat) : S (fun _ => 0) r n = 0 := by
  induction n with
  | zero => rfl
  | succ n ih => rw [S, ih]; omega
theorem row_sum (look : Int → Int) (r : Int) (e : Nat) (he : e < 2) : ∀ ks : List Int, ks.Nodup → (∀ k ∈ ks, 0 ≤ k ∧ k < 256) →
    S (fun t => if ((e + 2 * t : Nat) : Int) ∈ ks then look ((e + 2 * t : Nat) : Int) else 0) r 128 = sumK look r e ks := by
  intro ks
  induction ks with
  | nil => intro _ _; simp only [List.not_mem_nil, if_false]; exact S_zero r 128
  | cons k ks ih =>
    intro hn hr
    have hk := hr k (.head _)
    have hnk := (List.nodup_cons.mp hn).1
    have e1 : S (fun t => if ((e + 2 * t : Nat) : Int) ∈ k :: ks then look ((e + 2 * t : Nat) : Int) else 0) r 128
        = S (fun t => (if e + 2 * t = k.toNat then look k else 0) + (if ((e + 2 * t : Nat) : Int) ∈ ks then look ((e + 2 * t : Nat) : Int) else 0)) r 128 := by
      refine S_ext r 128 fun t _ => ?_
      by_cases h : e + 2 * t = k.toNat
      · have h2 : ((e + 2 * t : Nat) : Int) = k := by omega
        rw [if_pos h, h2, if_pos (.head _), if_neg hnk, Int.add_zero]
      · have h2 : ¬ ((e + 2 * t : Nat) : Int) = k := by omega
        rw [if_neg h, Int.zero_add]
        by_cases h3 : ((e + 2 * t : Nat) : Int) ∈ ks
        · rw [if_pos h3, if_pos (.tail _ h3)]
        · rw [if_neg h3, if_neg (fun q => (List.mem_cons.mp q).elim h2 h3)]
    rw [e1, S_add, S_delta _ _ _ _ he, ih (List.nodup_cons.mp hn).2 fun q hq => hr q (.tail _ hq), sumK]
    congr 1
    by_cases h : k.toNat % 2 = e
    · rw [if_pos h, if_pos (by omega)]
    · rw [if_neg h, if_neg (by omega)]
theorem A_row (c : List (Int × Int)) : ∀ (ks : List Int) (ns : List Int), ns.length = 256 → (∀ k ∈ ks, 0 ≤ k ∧ k < 256) → ∀ x : Nat,
    A (ks.foldl (rowStep c) ns) x = if (x : Int) ∈ ks then kdfLook c (x : Int) 0 else A ns x := by
  intro ks
  induction ks with
  | nil => intro ns _ _ x; simp
  | cons k ks ih =>
    intro ns hl hr x
    have hk := hr k (.head _)
    rw [List.foldl_cons, ih _ (by rw [rowStep_len]; exact hl) (fun q hq => hr q (.tail _ hq)) x, ← rowStep_eq, A_set _ _ _ _ (by omega)]
    by_cases h1 : (x : Int) ∈ ks
    · rw [if_pos h1, if_pos (.tail _ h1)]
    · rw [if_neg h1]
      by_cases h2 : (x : Int) = k
      · have h3 : x = k.toNat := by omega
        rw [if_pos h3, if_pos (by rw [h2]; exact .head _), h2]
      · have h3 : ¬ x = k.toNat := by omega
        rw [if_neg h3, if_neg (fun q => (List.mem_cons.mp q).elim h2 h1)]
theorem A_left (c : List (Int × Int)) (r : Int) (e : Nat) (he : e < 2) : ∀ (ks : List Int) (ns : List Int), ns.length = 2 → (∀ k ∈ ks, 0 ≤ k ∧ k < 256) →
    Cg (A (ks.foldl (leftStep c r) ns) e) (A ns e + sumK (fun k => kdfLook c k 0) r e ks) := by
  intro ks
  induction ks with
  | nil => intro ns _ _; rw [sumK]; exact ⟨0, by simp⟩
  | cons k ks ih =>
    intro ns hl hr
    have hk := hr k (.head _)
    rw [List.foldl_cons]
    refine (ih _ (by rw [leftStep_len]; exact hl) fun q hq => hr q (.tail _ hq)).trans ?_
    rw [sumK, ← Int.add_assoc]
    refine Cg.add ?_ (Cg.rfl' _)
    have e1 : (k.fmod 2).toNat = k.toNat % 2 := by rw [Int.fmod_eq_emod_of_nonneg _ (by decide)]; omega
    have e2 : k.fdiv 2 = ((k.toNat / 2 : Nat) : Int) := by rw [Int.fdiv_eq_ediv_of_nonneg _ (by decide)]; omega
    rw [← leftStep_eq, e1, e2]
    show Cg (A (ns.set (k.toNat % 2) (A ns (k.toNat % 2) + kdfLook c k 0 * pwI r ((k.toNat / 2 : Nat) : Int))) e) _
    rw [A_set _ _ _ _ (by omega)]
    by_cases h : e = k.toNat % 2
    · rw [if_pos h, if_pos h.symm, ← h]
      exact (Cg.rfl' _).add ((Cg.rfl' _).mul (pwI_cg r _ (by omega)))
    · rw [if_neg h, if_neg (fun q => h q.symm), Int.add_zero]
      exact Cg.rfl' _
theorem place_cg {c : List (Int × Int)} (ht : TermOk c) {p e : Nat} (hp : p < 128) (he : e < 2) :
    Cg (A (outA (rowI c)) (2 * p + e)) (A (leftI c (rootI (p : Int))) e) := by
  have hr : ∀ k ∈ c.map (·.1), 0 ≤ k ∧ k < 256 := fun k hk => by
    obtain ⟨q, hq, rfl⟩ := List.mem_map.mp hk
    exact ht.rng q hq
  refine (transform (rowI c) (rowI_len c) hp he).trans ?_
  have e1 : S (fun t => A (rowI c) (e + 2 * t)) (rootI (p : Int)) 128 = sumK (fun k => kdfLook c k 0) (rootI (p : Int)) e (c.map (·.1)) := by
    rw [← row_sum _ _ _ he _ ht.nod hr]
    refine S_ext _ _ fun t ht' => ?_
    rw [← rowI_eq, A_row c _ _ zeroL_len hr]
    have hz : A zeroL (e + 2 * t) = 0 := by
      unfold zeroL A
      rw [List.getD_eq_getElem?_getD, List.getElem?_replicate]
      split <;> rfl
    rw [hz]
  rw [e1]
  have e2 := A_left c (rootI (p : Int)) e he (c.map (·.1)) [0, 0] rfl hr
  rw [leftI_eq] at e2
  have hz : A [0, 0] e = 0 := by
    match e, he with
    | 0, _ => rfl
    | 1, _ => rfl
  rw [hz, Int.zero_add] at e2
  exact e2.symm
theorem ntt_law {c : List (Int × Int)} {p : Int} (ht : TermOk c) (h0 : 0 ≤ p) (h1 : p < 128) : cutI (restA (outA (rowI c))) (2 * p) = modL (leftI c (rootI p)) := by
  obtain ⟨n, rfl⟩ := Int.eq_ofNat_of_zero_le h0
  have hn : n < 128 := by omega
  have hol : (outA (rowI c)).length = 256 := by rw [outA_len, rowI_len]
  rw [cut_two _ n (by rw [restA_len, hol]) hn, ← restA_eq, A_rest _ 256 (by rw [hol]; decide), A_rest _ 256 (by rw [hol]; decide), if_pos (by omega), if_pos (by omega), ← modL_eq]
  have c0 := (place_cg ht hn (show 0 < 2 by decide)).fmod
  have c1 := (place_cg ht hn (show 1 < 2 by decide)).fmod
  rw [Nat.add_zero] at c0
  rw [c0, c1]
end PartPlain
section PartLaw
theorem off1_of {l : List (Addr × Obj)} {D : Addr} (h : ∀ p ∈ l, p.1 ≠ D) : LCg.Off1 D l := by
  induction l with
  | nil => exact trivial
  | cons q r ih => exact ⟨h q (.head _), ih fun p hp => h p (.tail _ hp)⟩
local macro_rules | `(tactic| walk_at "call ref") => `(tactic| (k_here; (with_reducible show wpAny _ _ (call (Value.ref 433) [Value.ref _]) _ _ _); k_dflt (refine' state_spec ?k1 ?k2 ?k3 ?k4 ?k5 ?kK ?kd ?ku ?hL ?hI ?h63 ?_; (case k1 => k_asm); (case k2 => k_asm); (case k3 => k_asm); (case k4 => k_asm); (case k5 => k_asm); (case kK => first | exact rfl | assumption); (case kd => k_room); (case ku => k_units); (case hL => assumption); (case hI => assumption); (case h63 => assumption)); intro sa9 ca9 tp9 vs9 ns9 n29 h9 tk9 F9 N9 ok9 ne9; (try dsimp only); (try k_sweep); (try k_fold)))
local macro_rules | `(tactic| walk_at "call ref") => `(tactic| (k_here; (with_reducible show wpAny _ _ (call (Value.ref 282) _) _ _ _); k_dflt (refine' ring_spec ?k1 ?k2 ?k3 ?k4 ?k5 ?kK ?kd ?ku ?_; (case k1 => k_asm); (case k2 => k_asm); (case k3 => k_asm); (case k4 => k_asm); (case k5 => k_asm); (case kK => first | exact rfl | assumption); (case kd => k_room); (case ku => k_units)); intro x9 d9 z9 ys9 q1 q2 q3 q4 q5 q6 q7 h9 tk9 F9 N9 hz9 l9 l9b l9c l9d l9e; (try k_lt l9); (replace l9e := off1_of l9e); (try simp only [LCg.Off1, and_true] at l9e); (try dsimp only); (try k_sweep); (try k_fold)))
local macro_rules | `(tactic| walk_at "call ref") => `(tactic| (k_here; (with_reducible show wpAny _ _ (call (Value.ref 447) [Value.ref _, Value.int 4 _]) _ _ _); k_dflt (refine' terms_gen ?k1 ?k2 ?k3 ?k4 ?k5 ?kK ?kd ?ku ?U1 ?U2 ?ne ?ok ?hp ?_; (case k1 => k_asm); (case k2 => k_asm); (case k3 => k_asm); (case k4 => k_asm); (case k5 => k_asm); (case kK => first | exact rfl | assumption); (case kd => k_room); (case ku => k_units); (case U1 => k_updF); (case U2 => (intro _; k_updF)); (case ok => assumption); (case ne => omega); (case hp => omega)); intro d9 o9 kvs9 c9 pos9 tp9 vs9 ns9 h9 tk9 F9 N9 ok9 hp9 hd9 hf9 ht9 hl9 lo9 l9; (try dsimp only at N9); (try simp only [AllLt, and_true] at l9); (try dsimp only); (try k_sweep); (try k_fold)))
local macro_rules | `(tactic| walk_at "call ref") => `(tactic| (k_here; (with_reducible show wpAny _ _ (call (Value.ref 440) [Value.ref _, Value.int _ _]) _ _ _); k_dflt (refine' take_gen ?k1 ?k2 ?k3 ?k4 ?k5 ?kK ?kd ?ku ?U1 ?U2 ?ne ?ok ?hp ?hm ?hm2 ?_; (case k1 => k_asm); (case k2 => k_asm); (case k3 => k_asm); (case k4 => k_asm); (case k5 => k_asm); (case kK => first | exact rfl | assumption); (case kd => k_room); (case ku => k_units); (case U1 => k_updF); (case U2 => (intro _; k_updF)); (case ok => assumption); (case ne => omega); (case hp => omega); (case hm => omega); (case hm2 => omega)); intro v9 tv9 pos9 tp9 vs9 ns9 h9 tk9 F9 N9 ok9 hp9 lo9 hi9; (try dsimp only at N9); (try dsimp only); (try k_sweep); (try k_fold)))
local macro_rules | `(tactic| walk_at "call ref") => `(tactic| (k_here; (with_reducible show wpAny _ _ (call (Value.ref 454) _) _ _ _); k_dflt (refine' row_gen ?k1 ?k2 ?k3 ?k4 ?k5 ?kK ?kd ?ku ?hm ?hd ?hf ?ht ?lo ?_; (case k1 => k_asm); (case k2 => k_asm); (case k3 => k_asm); (case k4 => k_asm); (case k5 => k_asm); (case kK => first | exact rfl | assumption); (case kd => k_room); (case ku => k_units); (case hm => k_mem); (case hd => assumption); (case hf => assumption); (case ht => first | assumption | exact termOk_put (by assumption) (by decide) (by decide)); (case lo => assumption)); intro ra9 vs9 h9 tk9 F9 N9 hi9 hl9 l9; (try simp only [AllLt, and_true] at l9); (try dsimp only); (try k_sweep); (try k_fold)))
local macro_rules | `(tactic| walk_at "call ref") => `(tactic| (k_here; (with_reducible show wpAny _ _ (call (Value.ref 468) [Value.ref _, Value.int _ _]) _ _ _); k_dflt (refine' left_gen ?k1 ?k2 ?k3 ?k4 ?k5 ?kK ?kd ?ku ?hm ?hd ?hf ?ht ?lo ?h0 ?h1 ?_; (case k1 => k_asm); (case k2 => k_asm); (case k3 => k_asm); (case k4 => k_asm); (case k5 => k_asm); (case kK => first | exact rfl | assumption); (case kd => k_room); (case ku => k_units); (case hm => k_mem); (case hd => assumption); (case hf => assumption); (case ht => first | assumption | exact termOk_put (by assumption) (by decide) (by decide)); (case lo => assumption); (case h0 => omega); (case h1 => omega)); intro l99 ws9 h9 tk9 F9 N9 hi9 hl9 l9; (try simp only [AllLt, and_true] at l9); (try dsimp only); (try k_sweep); (try k_fold)))
local macro_rules | `(tactic| walk_at "call ref") => `(tactic| (k_here; (with_reducible show wpAny _ _ (call (Value.ref 340) _) _ _ _); k_dflt (refine' ntt_gen ?k1 ?k2 ?k3 ?k4 ?k5 ?kK ?kd ?ku ?U ?m1 ?m2 ?m3 ?m4 ?m5 ?hi ?hl ?hz ?n1 ?n2 ?n3 ?n4 ?n5 ?_; (case k1 => k_asm); (case k2 => k_asm); (case k3 => k_asm); (case k4 => k_asm); (case k5 => k_asm); (case kK => first | exact rfl | assumption); (case kd => k_room); (case ku => k_units); (case m2 => k_mem); (case m3 => k_mem); (case m4 => k_mem); (case m5 => k_mem); (case m1 => k_mem); (case U => k_updF); (case hi => assumption); (case hl => exact rowI_len _); (case hz => assumption); (case n1 => omega); (case n2 => omega); (case n3 => omega); (case n4 => omega); (case n5 => omega)); intro y9 d9 v1 v2 vs9 h9 tk9 F9 N9 hi9 hl9 l9 l9b; (try dsimp only at N9); (try simp only [AllLt, and_true] at l9); (try dsimp only); (try k_sweep); (try k_fold)))

local macro_rules | `(tactic| walk_at "subscriptTail Attribute") => `(tactic| (k_here; (with_reducible show wpAny _ _ (subscriptTail _ (PySem.Expr.Slice _ _ none _) (Value.ref _) (Value.ref _)) _ _ _); k_dflt ((refine kba_turn (value' := PySem.Expr.Name (PySem.Str.ofString "_") ⟨0, 0, 0, 0⟩) (fun _ => rfl) ?_); refine' cut_T ?cuF ?cuN ?cuM ?cuI ?cuL ?cuZ ?_ ?cuS ?cuT; (case cuF => k_asm); (case cuN => k_asm); (case cuM => k_mem); (case cuI => assumption); (case cuL => assumption); (case cuZ => omega); (case cuS => with_unfolding_all rfl); (case cuT => (intro _; rfl))); intro D9 ws9 h9 F9 N9 hi9 l9; (try simp only [AllLt, and_true] at l9); (try k_sweep)))
local macro_rules | `(tactic| walk_at "compareOp NotEq ref ref") => `(tactic| (k_here; k_dflt (refine' ne_T ?nqN ?nqA ?nqB ?nqI ?nqJ ?nqE ?nqU ?_; (case nqN => k_asm); (case nqA => k_mem); (case nqB => k_mem); (case nqI => assumption); (case nqJ => assumption); (case nqE => exact ntt_law (termOk_put (by assumption) (by decide) (by decide)) (by omega) (by omega)); (case nqU => k_units))))
theorem law_walk : PySem.Challenge.rw_yi0041_01.Holds := hdW _ _ rfl rfl rfl (by
  w_strict k_go0
  all_goals try k_fold
  k_steps)
end PartLaw
end Mine
theorem PySem.Challenge.cw_yi0041_01_holds : PySem.Challenge.rw_yi0041_01.Holds := by
  exact Mine.law_walk
