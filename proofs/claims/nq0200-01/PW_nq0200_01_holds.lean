import PyProof.Rows.All
import Wide.All
import OpenK.AllK
import Wide.FinOn
import PySem.Challenge.RW_nq0200_01
set_option Elab.async false
set_option maxRecDepth 100000
set_option linter.unusedVariables false
section
open PySem PySem.W PyProof.Rows
namespace NQ

/-! ## the head: a run of the opening and of the top over a tree heap, in one piece -/
noncomputable def impT (tb : String → Option Builtin) (p : Program) (w : World) : Nat → SharedT → Thread → Option SharedT
  | 0, _, _ => none
  | n + 1, s, t => match t.atExitBegin with
    | some [] => some s
    | some (_ :: _) => none
    | none => match stepT (denote tb) p w s t with
      | some (s', t') => impT tb p w n s' t'
      | none => none
theorem impT_of {tb : String → Option Builtin} {p : Program} {w : World} : ∀ {n : Nat} {s s' : SharedT} {t : Thread}, impT tb p w n s t = some s' → importEnds tb p w n s.abs t = some s'.abs
  | 0, _, _, _, h => by cases h
  | n + 1, s, s', t, h => by
    unfold impT at h
    unfold importEnds
    cases he : t.atExitBegin with
    | some x =>
      rw [he] at h
      cases x with
      | nil => cases h; rfl
      | cons a b => cases h
    | none =>
      rw [he] at h
      cases hs : stepT (denote tb) p w s t with
      | none => rw [hs] at h; cases h
      | some r => obtain ⟨s₂, t₂⟩ := r; rw [hs] at h; dsimp only; rw [stepT_spec hs]; exact impT_of h
noncomputable def topT (tb : String → Option Builtin) (p : Program) (w : World) (n₀ : Nat) (ann : Option Value) : Nat → SharedT → Thread → Option SharedT
  | 0, _, _ => none
  | n + 1, s, t => match through t with
    | true => some s
    | false => match stepOk n₀ ann t with
      | false => none
      | true => match stepT (denote tb) p w s t with
        | some (s', t') => topT tb p w n₀ ann n s' t'
        | none => none
theorem topT_of {tb : String → Option Builtin} {p : Program} {w : World} {n₀ : Nat} {ann : Option Value} : ∀ {n : Nat} {s s' : SharedT} {t : Thread}, topT tb p w n₀ ann n s t = some s' → topRun tb p w n₀ ann n s.abs t = some s'.abs
  | 0, _, _, _, h => by cases h
  | n + 1, s, s', t, h => by
    unfold topT at h
    unfold topRun
    cases he : through t with
    | true => rw [he] at h; cases h; rfl
    | false =>
      rw [he] at h
      cases hk : stepOk n₀ ann t with
      | false => rw [hk] at h; cases h
      | true =>
        rw [hk] at h
        cases hs : stepT (denote tb) p w s t with
        | none => rw [hs] at h; cases h
        | some r => obtain ⟨s₂, t₂⟩ := r; rw [hs] at h; dsimp only; rw [stepT_spec hs]; exact topT_of h
/-- a heap's objects laid into a tree -/
noncomputable def layT : BT → Nat → List Obj → Option (BT × Nat)
  | T, n, [] => some (T, n)
  | T, n, o :: r => match ((T.ins n o).get n).isSome with
    | true => layT (T.ins n o) (n + 1) r
    | false => none
theorem layT_of {life : Life} : ∀ {l : List Obj} {T T' : BT} {n n' : Nat}, layT T n l = some (T', n') → absHeap T' n' life = ⟨(absHeap T n life).objs ++ l.toArray, life⟩
  | [], T, T', n, n', h => by
    obtain ⟨rfl, rfl⟩ : T = T' ∧ n = n' := by simpa [layT] using h
    show absHeap T n life = ⟨(absHeap T n life).objs ++ #[], life⟩
    rw [Array.append_empty]; rfl
  | o :: r, T, T', n, n', h => by
    unfold layT at h
    cases hs : ((T.ins n o).get n).isSome with
    | false => rw [hs] at h; cases h
    | true =>
      rw [hs] at h
      rw [layT_of (life := life) h, absHeap_ins hs]
      show (⟨(absHeap T n life).objs.push o ++ r.toArray, life⟩ : Heap) = _
      rw [Array.push_eq_append, Array.append_assoc]
      simp
noncomputable def treeOf (s : Shared) : Option SharedT := match layT .nil 0 s.heap.objs.toList with
  | some (T, n) => some ⟨T, n, s.heap.life, s.gens, s.drawn, s.toks, s.os⟩
  | none => none
theorem treeOf_abs {s : Shared} {sT : SharedT} (h : treeOf s = some sT) : sT.abs = s := by
  unfold treeOf at h
  cases q : layT .nil 0 s.heap.objs.toList with
  | none => rw [q] at h; cases h
  | some r =>
    obtain ⟨T, n⟩ := r
    rw [q] at h
    cases h
    have e := layT_of (life := s.heap.life) q
    obtain ⟨⟨objs, life⟩, g, d, k, o⟩ := s
    show (⟨absHeap T n life, g, d, k, o⟩ : Shared) = _
    rw [e]
    simp [absHeap, BT.list]

section
variable (p q : Program) (loose : List Str) (Xt : Shared → Bool) {α : Type} (Yf : Shared → α) (N m₀ : Nat) (ann : Option Value) (w : World)
/-- all that the head asks, of one run -/
noncomputable def headRun := match impT treeTable (opening p) w N ⟨.nil, 0, {}, #[], {}, 1, (start (opening p)).1.os⟩ (start (opening p)).2 with
  | none => none
  | some s => match fenceModules? p s.abs with
    | none => none
    | some s₀ => match treeOf s₀ with
      | none => none
      | some sT => match s₀.heap.isNs mainGlobals && s₀.gens.size == 0 with
        | false => none
        | true => match Nat.beq s₀.heap.objs.size m₀ with
          | false => none
          | true => match s₀.heap.nsMap mainGlobals "__annotations__" == ann with
            | false => none
            | true => match topT treeTable p w m₀ ann N sT (topStub p) with
              | none => none
              | some s₁ => match staticsOk (importedModules p.main.body) s₀.heap s₁.abs.heap && namesBound p s₁.abs.heap && gensDone s₁.abs && laidKept s₀.heap s₁.abs.heap with
                | true => some (openSeen q loose (importedModules p.main.body) Xt true s₁.abs, Yf s₁.abs)
                | false => none
end
theorem start_abs (q : Program) : (⟨.nil, 0, {}, #[], {}, 1, (start q).1.os⟩ : SharedT).abs = (start q).1 := rfl
theorem left_of_run {p q : Program} {loose : List Str} {Xt : Shared → Bool} {α : Type} {Yf : Shared → α} {Ya : World → α} {N m₀ : Nat} {ann : Option Value}
    (h : ∀ w, headRun p q loose Xt Yf N m₀ ann w = some (openGood q loose, Ya w)) : LeftO p q loose Xt Yf Ya N := fun w => by
  have e := h w
  unfold headRun at e
  cases h1 : impT treeTable (opening p) w N ⟨.nil, 0, {}, #[], {}, 1, (start (opening p)).1.os⟩ (start (opening p)).2 with
  | none => rw [h1] at e; cases e
  | some s =>
    rw [h1] at e
    dsimp only at e
    cases h2 : fenceModules? p s.abs with
    | none => rw [h2] at e; cases e
    | some s₀ =>
      rw [h2] at e
      dsimp only at e
      cases h3 : treeOf s₀ with
      | none => rw [h3] at e; cases e
      | some sT =>
        rw [h3] at e
        dsimp only at e
        cases h4 : s₀.heap.isNs mainGlobals && s₀.gens.size == 0 with
        | false => rw [h4] at e; cases e
        | true =>
          rw [h4] at e
          dsimp only at e
          cases h5 : Nat.beq s₀.heap.objs.size m₀ with
          | false => rw [h5] at e; cases e
          | true =>
            rw [h5] at e
            dsimp only at e
            cases h6 : s₀.heap.nsMap mainGlobals "__annotations__" == ann with
            | false => rw [h6] at e; cases e
            | true =>
              rw [h6] at e
              dsimp only at e
              cases h7 : topT treeTable p w m₀ ann N sT (topStub p) with
              | none => rw [h7] at e; cases e
              | some s₁ =>
                rw [h7] at e
                dsimp only at e
                cases h8 : staticsOk (importedModules p.main.body) s₀.heap s₁.abs.heap && namesBound p s₁.abs.heap && gensDone s₁.abs && laidKept s₀.heap s₁.abs.heap with
                | false => rw [h8] at e; cases e
                | true =>
                  rw [h8] at e
                  dsimp only at e
                  have a1 := impT_of h1
                  rw [start_abs] at a1
                  have a7 := topT_of h7
                  rw [treeOf_abs h3] at a7
                  unfold openEnds fencedOpening
                  rw [a1]
                  show ((fenceModules? p s.abs).bind (topFrom treeTable p w N)).map _ = _
                  rw [h2]
                  show (topFrom treeTable p w N s₀).map _ = _
                  unfold topFrom
                  rw [h4, Nat.eq_of_beq_eq_true h5, eq_of_beq h6, a7]
                  dsimp only [Option.bind_some]
                  rw [h8]
                  exact e
end NQ
end
section
open PySem PySem.W PyProof.Rows
set_option maxHeartbeats 0
namespace NQ
theorem ib0 : Int.ofNat 0 = 0 := rfl
theorem ib1 : Int.ofNat 1 = 1 := rfl
theorem ib2 : Int.ofNat 2 = 2 := rfl
theorem ib3 : Int.ofNat 3 = 3 := rfl
theorem ib4 : Int.ofNat 4 = 4 := rfl
theorem ib5 : Int.ofNat 5 = 5 := rfl
theorem ib6 : Int.ofNat 6 = 6 := rfl
theorem ib7 : Int.ofNat 7 = 7 := rfl
theorem ib8 : Int.ofNat 8 = 8 := rfl
theorem ib9 : Int.ofNat 9 = 9 := rfl
theorem ib10 : Int.ofNat 10 = 10 := rfl
theorem ib11 : Int.ofNat 11 = 11 := rfl
theorem ib12 : Int.ofNat 12 = 12 := rfl
theorem ib13 : Int.ofNat 13 = 13 := rfl
theorem ib14 : Int.ofNat 14 = 14 := rfl
theorem ib15 : Int.ofNat 15 = 15 := rfl
theorem ib16 : Int.ofNat 16 = 16 := rfl
theorem ib17 : Int.ofNat 17 = 17 := rfl
theorem ib18 : Int.ofNat 18 = 18 := rfl
theorem ib19 : Int.ofNat 19 = 19 := rfl
theorem ib20 : Int.ofNat 20 = 20 := rfl
theorem ib21 : Int.ofNat 21 = 21 := rfl
theorem ib22 : Int.ofNat 22 = 22 := rfl
theorem ib23 : Int.ofNat 23 = 23 := rfl
theorem ib24 : Int.ofNat 24 = 24 := rfl
theorem ib25 : Int.ofNat 25 = 25 := rfl
theorem ib26 : Int.ofNat 26 = 26 := rfl
theorem ib27 : Int.ofNat 27 = 27 := rfl
theorem ib28 : Int.ofNat 28 = 28 := rfl
theorem ib29 : Int.ofNat 29 = 29 := rfl
theorem ib30 : Int.ofNat 30 = 30 := rfl
theorem ib31 : Int.ofNat 31 = 31 := rfl
theorem ib32 : Int.ofNat 32 = 32 := rfl
theorem ib33 : Int.ofNat 33 = 33 := rfl
theorem ib34 : Int.ofNat 34 = 34 := rfl
theorem ib35 : Int.ofNat 35 = 35 := rfl
theorem ib36 : Int.ofNat 36 = 36 := rfl
theorem ib42 : Int.ofNat 42 = 42 := rfl
theorem ib50 : Int.ofNat 50 = 50 := rfl
theorem ib60 : Int.ofNat 60 = 60 := rfl
theorem ib65 : Int.ofNat 65 = 65 := rfl
theorem ib90 : Int.ofNat 90 = 90 := rfl
theorem ib1048576 : Int.ofNat 1048576 = 1048576 := rfl
theorem ib2147483647 : Int.ofNat 2147483647 = 2147483647 := rfl
theorem ib2147483648 : Int.ofNat 2147483648 = 2147483648 := rfl
theorem ib1099511627776 : Int.ofNat 1099511627776 = 1099511627776 := rfl
/-- the program with its texts laid out -/
noncomputable def pwT : Program := by
  refine (?f : PySem.Challenge.pw_nq0200_01 = ?p → Program) ?prf
  case prf => conv => lhs; reduce; dsimp only [ib0, ib1, ib2, ib3, ib4, ib5, ib6, ib7, ib8, ib9, ib10, ib11, ib12, ib13, ib14, ib15, ib16, ib17, ib18, ib19, ib20, ib21, ib22, ib23, ib24, ib25, ib26, ib27, ib28, ib29, ib30, ib31, ib32, ib33, ib34, ib35, ib36, ib42, ib50, ib60, ib65, ib90, ib1048576, ib2147483647, ib2147483648, ib1099511627776]
  case f => exact fun _ => ?p
theorem pw_eq : PySem.Challenge.pw_nq0200_01 = pwT := by kernel_rfl
noncomputable def rwT : OpenLaw := { prog := pwT, name := (PySem.Str.ofString "law"), about := [(PySem.Str.ofString "shlex"), (PySem.Str.ofString "get_token")], foot := 5, most := some 63, bound := none, writes := false }
theorem rw_eq : PySem.Challenge.rw_nq0200_01 = rwT := by
  unfold rwT PySem.Challenge.rw_nq0200_01
  rw [pw_eq]
noncomputable abbrev progY : Program := pwT
noncomputable def stAt (i : Nat) : Stmt := progY.main.body.getD i (.Pass ⟨0, 0, 0, 0⟩)
noncomputable def clsSts : Stmt → List Stmt
  | .ClassDef _ _ _ b _ _ _ _ _ _ _ => b
  | _ => []
noncomputable def mtAt (i j : Nat) : Stmt := (clsSts (stAt i)).getD j (.Pass ⟨0, 0, 0, 0⟩)
noncomputable def fnPrm : Stmt → Arguments
  | .FunctionDef _ a _ _ _ _ _ _ _ _ => a
  | _ => { posonlyargs := [], args := [], vararg := none, kwonlyargs := [], kw_defaults := [], kwarg := none, defaults := [] }
noncomputable def fnBod : Stmt → List Stmt
  | .FunctionDef _ _ b _ _ _ _ _ _ _ => b
  | _ => []
noncomputable def fnScp : Stmt → Scope
  | .FunctionDef _ _ _ _ _ _ s _ _ _ => s
  | _ => { kind := .module, names := [], isGenerator := false, isCoroutine := false }
noncomputable abbrev s___name__ : Str := ⟨⟨[nat_lit 95, nat_lit 95, nat_lit 110, nat_lit 97, nat_lit 109, nat_lit 101, nat_lit 95, nat_lit 95]⟩⟩
noncomputable abbrev s_law_nq0200_01 : Str := ⟨⟨[nat_lit 108, nat_lit 97, nat_lit 119, nat_lit 95, nat_lit 110, nat_lit 113, nat_lit 48, nat_lit 50, nat_lit 48, nat_lit 48, nat_lit 95, nat_lit 48, nat_lit 49]⟩⟩
noncomputable abbrev s___doc__ : Str := ⟨⟨[nat_lit 95, nat_lit 95, nat_lit 100, nat_lit 111, nat_lit 99, nat_lit 95, nat_lit 95]⟩⟩
noncomputable abbrev s___package__ : Str := ⟨⟨[nat_lit 95, nat_lit 95, nat_lit 112, nat_lit 97, nat_lit 99, nat_lit 107, nat_lit 97, nat_lit 103, nat_lit 101, nat_lit 95, nat_lit 95]⟩⟩
noncomputable abbrev s___loader__ : Str := ⟨⟨[nat_lit 95, nat_lit 95, nat_lit 108, nat_lit 111, nat_lit 97, nat_lit 100, nat_lit 101, nat_lit 114, nat_lit 95, nat_lit 95]⟩⟩
noncomputable abbrev s___spec__ : Str := ⟨⟨[nat_lit 95, nat_lit 95, nat_lit 115, nat_lit 112, nat_lit 101, nat_lit 99, nat_lit 95, nat_lit 95]⟩⟩
noncomputable abbrev s___annotations__ : Str := ⟨⟨[nat_lit 95, nat_lit 95, nat_lit 97, nat_lit 110, nat_lit 110, nat_lit 111, nat_lit 116, nat_lit 97, nat_lit 116, nat_lit 105, nat_lit 111, nat_lit 110, nat_lit 115, nat_lit 95, nat_lit 95]⟩⟩
noncomputable abbrev s___builtins__ : Str := ⟨⟨[nat_lit 95, nat_lit 95, nat_lit 98, nat_lit 117, nat_lit 105, nat_lit 108, nat_lit 116, nat_lit 105, nat_lit 110, nat_lit 115, nat_lit 95, nat_lit 95]⟩⟩
noncomputable abbrev s___file__ : Str := ⟨⟨[nat_lit 95, nat_lit 95, nat_lit 102, nat_lit 105, nat_lit 108, nat_lit 101, nat_lit 95, nat_lit 95]⟩⟩
noncomputable abbrev t_9 : Str := ⟨⟨[nat_lit 47, nat_lit 99, nat_lit 108, nat_lit 97, nat_lit 105, nat_lit 109, nat_lit 47, nat_lit 99, nat_lit 117, nat_lit 116, nat_lit 46, nat_lit 112, nat_lit 121]⟩⟩
noncomputable abbrev s___cached__ : Str := ⟨⟨[nat_lit 95, nat_lit 95, nat_lit 99, nat_lit 97, nat_lit 99, nat_lit 104, nat_lit 101, nat_lit 100, nat_lit 95, nat_lit 95]⟩⟩
noncomputable abbrev s_deque : Str := ⟨⟨[nat_lit 100, nat_lit 101, nat_lit 113, nat_lit 117, nat_lit 101]⟩⟩
noncomputable abbrev s__wall : Str := ⟨⟨[nat_lit 95, nat_lit 119, nat_lit 97, nat_lit 108, nat_lit 108]⟩⟩
noncomputable abbrev s__whence : Str := ⟨⟨[nat_lit 95, nat_lit 119, nat_lit 104, nat_lit 101, nat_lit 110, nat_lit 99, nat_lit 101]⟩⟩
noncomputable abbrev s__index : Str := ⟨⟨[nat_lit 95, nat_lit 105, nat_lit 110, nat_lit 100, nat_lit 101, nat_lit 120]⟩⟩
noncomputable abbrev s_UnsupportedOperation : Str := ⟨⟨[nat_lit 85, nat_lit 110, nat_lit 115, nat_lit 117, nat_lit 112, nat_lit 112, nat_lit 111, nat_lit 114, nat_lit 116, nat_lit 101, nat_lit 100, nat_lit 79, nat_lit 112, nat_lit 101, nat_lit 114, nat_lit 97, nat_lit 116, nat_lit 105, nat_lit 111, nat_lit 110]⟩⟩
noncomputable abbrev s_IOBase : Str := ⟨⟨[nat_lit 73, nat_lit 79, nat_lit 66, nat_lit 97, nat_lit 115, nat_lit 101]⟩⟩
noncomputable abbrev s_BufferedIOBase : Str := ⟨⟨[nat_lit 66, nat_lit 117, nat_lit 102, nat_lit 102, nat_lit 101, nat_lit 114, nat_lit 101, nat_lit 100, nat_lit 73, nat_lit 79, nat_lit 66, nat_lit 97, nat_lit 115, nat_lit 101]⟩⟩
noncomputable abbrev s_TextIOBase : Str := ⟨⟨[nat_lit 84, nat_lit 101, nat_lit 120, nat_lit 116, nat_lit 73, nat_lit 79, nat_lit 66, nat_lit 97, nat_lit 115, nat_lit 101]⟩⟩
noncomputable abbrev s_BytesIO : Str := ⟨⟨[nat_lit 66, nat_lit 121, nat_lit 116, nat_lit 101, nat_lit 115, nat_lit 73, nat_lit 79]⟩⟩
noncomputable abbrev s_StringIO : Str := ⟨⟨[nat_lit 83, nat_lit 116, nat_lit 114, nat_lit 105, nat_lit 110, nat_lit 103, nat_lit 73, nat_lit 79]⟩⟩
noncomputable abbrev s__kind : Str := ⟨⟨[nat_lit 95, nat_lit 107, nat_lit 105, nat_lit 110, nat_lit 100]⟩⟩
noncomputable abbrev s__fspath : Str := ⟨⟨[nat_lit 95, nat_lit 102, nat_lit 115, nat_lit 112, nat_lit 97, nat_lit 116, nat_lit 104]⟩⟩
noncomputable abbrev s__check_arg_types : Str := ⟨⟨[nat_lit 95, nat_lit 99, nat_lit 104, nat_lit 101, nat_lit 99, nat_lit 107, nat_lit 95, nat_lit 97, nat_lit 114, nat_lit 103, nat_lit 95, nat_lit 116, nat_lit 121, nat_lit 112, nat_lit 101, nat_lit 115]⟩⟩
noncomputable abbrev s_isabs : Str := ⟨⟨[nat_lit 105, nat_lit 115, nat_lit 97, nat_lit 98, nat_lit 115]⟩⟩
noncomputable abbrev s_join : Str := ⟨⟨[nat_lit 106, nat_lit 111, nat_lit 105, nat_lit 110]⟩⟩
noncomputable abbrev s_dirname : Str := ⟨⟨[nat_lit 100, nat_lit 105, nat_lit 114, nat_lit 110, nat_lit 97, nat_lit 109, nat_lit 101]⟩⟩
noncomputable abbrev s_shlex : Str := ⟨⟨[nat_lit 115, nat_lit 104, nat_lit 108, nat_lit 101, nat_lit 120]⟩⟩
noncomputable abbrev s_add_func_stats : Str := ⟨⟨[nat_lit 97, nat_lit 100, nat_lit 100, nat_lit 95, nat_lit 102, nat_lit 117, nat_lit 110, nat_lit 99, nat_lit 95, nat_lit 115, nat_lit 116, nat_lit 97, nat_lit 116, nat_lit 115]⟩⟩
noncomputable abbrev s_add_callers : Str := ⟨⟨[nat_lit 97, nat_lit 100, nat_lit 100, nat_lit 95, nat_lit 99, nat_lit 97, nat_lit 108, nat_lit 108, nat_lit 101, nat_lit 114, nat_lit 115]⟩⟩
noncomputable abbrev s_count_calls : Str := ⟨⟨[nat_lit 99, nat_lit 111, nat_lit 117, nat_lit 110, nat_lit 116, nat_lit 95, nat_lit 99, nat_lit 97, nat_lit 108, nat_lit 108, nat_lit 115]⟩⟩
noncomputable abbrev s__law_texts : Str := ⟨⟨[nat_lit 95, nat_lit 108, nat_lit 97, nat_lit 119, nat_lit 95, nat_lit 116, nat_lit 101, nat_lit 120, nat_lit 116, nat_lit 115]⟩⟩
noncomputable abbrev s__law_tables : Str := ⟨⟨[nat_lit 95, nat_lit 108, nat_lit 97, nat_lit 119, nat_lit 95, nat_lit 116, nat_lit 97, nat_lit 98, nat_lit 108, nat_lit 101, nat_lit 115]⟩⟩
noncomputable abbrev s__law_due : Str := ⟨⟨[nat_lit 95, nat_lit 108, nat_lit 97, nat_lit 119, nat_lit 95, nat_lit 100, nat_lit 117, nat_lit 101]⟩⟩
noncomputable abbrev s__law_counted : Str := ⟨⟨[nat_lit 95, nat_lit 108, nat_lit 97, nat_lit 119, nat_lit 95, nat_lit 99, nat_lit 111, nat_lit 117, nat_lit 110, nat_lit 116, nat_lit 101, nat_lit 100]⟩⟩
noncomputable abbrev s_law : Str := ⟨⟨[nat_lit 108, nat_lit 97, nat_lit 119]⟩⟩
noncomputable abbrev s_io : Str := ⟨⟨[nat_lit 105, nat_lit 111]⟩⟩
noncomputable abbrev s___new__ : Str := ⟨⟨[nat_lit 95, nat_lit 95, nat_lit 110, nat_lit 101, nat_lit 119, nat_lit 95, nat_lit 95]⟩⟩
noncomputable abbrev t_38 : Str := ⟨⟨[nat_lit 73, nat_lit 79, nat_lit 66, nat_lit 97, nat_lit 115, nat_lit 101, nat_lit 46, nat_lit 95, nat_lit 95, nat_lit 110, nat_lit 101, nat_lit 119, nat_lit 95, nat_lit 95]⟩⟩
noncomputable abbrev s___module__ : Str := ⟨⟨[nat_lit 95, nat_lit 95, nat_lit 109, nat_lit 111, nat_lit 100, nat_lit 117, nat_lit 108, nat_lit 101, nat_lit 95, nat_lit 95]⟩⟩
noncomputable abbrev s___firstlineno__ : Str := ⟨⟨[nat_lit 95, nat_lit 95, nat_lit 102, nat_lit 105, nat_lit 114, nat_lit 115, nat_lit 116, nat_lit 108, nat_lit 105, nat_lit 110, nat_lit 101, nat_lit 110, nat_lit 111, nat_lit 95, nat_lit 95]⟩⟩
noncomputable abbrev s___static_attributes__ : Str := ⟨⟨[nat_lit 95, nat_lit 95, nat_lit 115, nat_lit 116, nat_lit 97, nat_lit 116, nat_lit 105, nat_lit 99, nat_lit 95, nat_lit 97, nat_lit 116, nat_lit 116, nat_lit 114, nat_lit 105, nat_lit 98, nat_lit 117, nat_lit 116, nat_lit 101, nat_lit 115, nat_lit 95, nat_lit 95]⟩⟩
noncomputable abbrev s___dict__ : Str := ⟨⟨[nat_lit 95, nat_lit 95, nat_lit 100, nat_lit 105, nat_lit 99, nat_lit 116, nat_lit 95, nat_lit 95]⟩⟩
noncomputable abbrev s___weakref__ : Str := ⟨⟨[nat_lit 95, nat_lit 95, nat_lit 119, nat_lit 101, nat_lit 97, nat_lit 107, nat_lit 114, nat_lit 101, nat_lit 102, nat_lit 95, nat_lit 95]⟩⟩
noncomputable abbrev t_44 : Str := ⟨⟨[]⟩⟩
noncomputable abbrev t_45 : Str := ⟨⟨[nat_lit 10]⟩⟩
noncomputable abbrev s___init__ : Str := ⟨⟨[nat_lit 95, nat_lit 95, nat_lit 105, nat_lit 110, nat_lit 105, nat_lit 116, nat_lit 95, nat_lit 95]⟩⟩
noncomputable abbrev t_47 : Str := ⟨⟨[nat_lit 83, nat_lit 116, nat_lit 114, nat_lit 105, nat_lit 110, nat_lit 103, nat_lit 73, nat_lit 79, nat_lit 46, nat_lit 95, nat_lit 95, nat_lit 105, nat_lit 110, nat_lit 105, nat_lit 116, nat_lit 95, nat_lit 95]⟩⟩
noncomputable abbrev s___translated : Str := ⟨⟨[nat_lit 95, nat_lit 95, nat_lit 116, nat_lit 114, nat_lit 97, nat_lit 110, nat_lit 115, nat_lit 108, nat_lit 97, nat_lit 116, nat_lit 101, nat_lit 100]⟩⟩
noncomputable abbrev t_49 : Str := ⟨⟨[nat_lit 83, nat_lit 116, nat_lit 114, nat_lit 105, nat_lit 110, nat_lit 103, nat_lit 73, nat_lit 79, nat_lit 46, nat_lit 95, nat_lit 95, nat_lit 116, nat_lit 114, nat_lit 97, nat_lit 110, nat_lit 115, nat_lit 108, nat_lit 97, nat_lit 116, nat_lit 101, nat_lit 100]⟩⟩
noncomputable abbrev s___check : Str := ⟨⟨[nat_lit 95, nat_lit 95, nat_lit 99, nat_lit 104, nat_lit 101, nat_lit 99, nat_lit 107]⟩⟩
noncomputable abbrev t_51 : Str := ⟨⟨[nat_lit 83, nat_lit 116, nat_lit 114, nat_lit 105, nat_lit 110, nat_lit 103, nat_lit 73, nat_lit 79, nat_lit 46, nat_lit 95, nat_lit 95, nat_lit 99, nat_lit 104, nat_lit 101, nat_lit 99, nat_lit 107]⟩⟩
noncomputable abbrev s___line : Str := ⟨⟨[nat_lit 95, nat_lit 95, nat_lit 108, nat_lit 105, nat_lit 110, nat_lit 101]⟩⟩
noncomputable abbrev t_53 : Str := ⟨⟨[nat_lit 83, nat_lit 116, nat_lit 114, nat_lit 105, nat_lit 110, nat_lit 103, nat_lit 73, nat_lit 79, nat_lit 46, nat_lit 95, nat_lit 95, nat_lit 108, nat_lit 105, nat_lit 110, nat_lit 101]⟩⟩
noncomputable abbrev s_read : Str := ⟨⟨[nat_lit 114, nat_lit 101, nat_lit 97, nat_lit 100]⟩⟩
noncomputable abbrev t_55 : Str := ⟨⟨[nat_lit 83, nat_lit 116, nat_lit 114, nat_lit 105, nat_lit 110, nat_lit 103, nat_lit 73, nat_lit 79, nat_lit 46, nat_lit 114, nat_lit 101, nat_lit 97, nat_lit 100]⟩⟩
noncomputable abbrev s_readline : Str := ⟨⟨[nat_lit 114, nat_lit 101, nat_lit 97, nat_lit 100, nat_lit 108, nat_lit 105, nat_lit 110, nat_lit 101]⟩⟩
noncomputable abbrev t_57 : Str := ⟨⟨[nat_lit 83, nat_lit 116, nat_lit 114, nat_lit 105, nat_lit 110, nat_lit 103, nat_lit 73, nat_lit 79, nat_lit 46, nat_lit 114, nat_lit 101, nat_lit 97, nat_lit 100, nat_lit 108, nat_lit 105, nat_lit 110, nat_lit 101]⟩⟩
noncomputable abbrev s__io : Str := ⟨⟨[nat_lit 95, nat_lit 105, nat_lit 111]⟩⟩
noncomputable abbrev s__StringIO__translated : Str := ⟨⟨[nat_lit 95, nat_lit 83, nat_lit 116, nat_lit 114, nat_lit 105, nat_lit 110, nat_lit 103, nat_lit 73, nat_lit 79, nat_lit 95, nat_lit 95, nat_lit 116, nat_lit 114, nat_lit 97, nat_lit 110, nat_lit 115, nat_lit 108, nat_lit 97, nat_lit 116, nat_lit 101, nat_lit 100]⟩⟩
noncomputable abbrev s__StringIO__check : Str := ⟨⟨[nat_lit 95, nat_lit 83, nat_lit 116, nat_lit 114, nat_lit 105, nat_lit 110, nat_lit 103, nat_lit 73, nat_lit 79, nat_lit 95, nat_lit 95, nat_lit 99, nat_lit 104, nat_lit 101, nat_lit 99, nat_lit 107]⟩⟩
noncomputable abbrev s__StringIO__check_dot : Str := ⟨⟨[nat_lit 95, nat_lit 83, nat_lit 116, nat_lit 114, nat_lit 105, nat_lit 110, nat_lit 103, nat_lit 73, nat_lit 79, nat_lit 95, nat_lit 95, nat_lit 99, nat_lit 104, nat_lit 101, nat_lit 99, nat_lit 107, nat_lit 95, nat_lit 100, nat_lit 111, nat_lit 116]⟩⟩
noncomputable abbrev s__StringIO__line : Str := ⟨⟨[nat_lit 95, nat_lit 83, nat_lit 116, nat_lit 114, nat_lit 105, nat_lit 110, nat_lit 103, nat_lit 73, nat_lit 79, nat_lit 95, nat_lit 95, nat_lit 108, nat_lit 105, nat_lit 110, nat_lit 101]⟩⟩
noncomputable abbrev s_closed : Str := ⟨⟨[nat_lit 99, nat_lit 108, nat_lit 111, nat_lit 115, nat_lit 101, nat_lit 100]⟩⟩
noncomputable abbrev s_line_buffering : Str := ⟨⟨[nat_lit 108, nat_lit 105, nat_lit 110, nat_lit 101, nat_lit 95, nat_lit 98, nat_lit 117, nat_lit 102, nat_lit 102, nat_lit 101, nat_lit 114, nat_lit 105, nat_lit 110, nat_lit 103]⟩⟩
noncomputable abbrev s_newlines : Str := ⟨⟨[nat_lit 110, nat_lit 101, nat_lit 119, nat_lit 108, nat_lit 105, nat_lit 110, nat_lit 101, nat_lit 115]⟩⟩
noncomputable abbrev s_encoding : Str := ⟨⟨[nat_lit 101, nat_lit 110, nat_lit 99, nat_lit 111, nat_lit 100, nat_lit 105, nat_lit 110, nat_lit 103]⟩⟩
noncomputable abbrev s_errors : Str := ⟨⟨[nat_lit 101, nat_lit 114, nat_lit 114, nat_lit 111, nat_lit 114, nat_lit 115]⟩⟩
noncomputable abbrev s_close : Str := ⟨⟨[nat_lit 99, nat_lit 108, nat_lit 111, nat_lit 115, nat_lit 101]⟩⟩
noncomputable abbrev s___enter__ : Str := ⟨⟨[nat_lit 95, nat_lit 95, nat_lit 101, nat_lit 110, nat_lit 116, nat_lit 101, nat_lit 114, nat_lit 95, nat_lit 95]⟩⟩
noncomputable abbrev s___exit__ : Str := ⟨⟨[nat_lit 95, nat_lit 95, nat_lit 101, nat_lit 120, nat_lit 105, nat_lit 116, nat_lit 95, nat_lit 95]⟩⟩
noncomputable abbrev s_readable : Str := ⟨⟨[nat_lit 114, nat_lit 101, nat_lit 97, nat_lit 100, nat_lit 97, nat_lit 98, nat_lit 108, nat_lit 101]⟩⟩
noncomputable abbrev s_writable : Str := ⟨⟨[nat_lit 119, nat_lit 114, nat_lit 105, nat_lit 116, nat_lit 97, nat_lit 98, nat_lit 108, nat_lit 101]⟩⟩
noncomputable abbrev s_seekable : Str := ⟨⟨[nat_lit 115, nat_lit 101, nat_lit 101, nat_lit 107, nat_lit 97, nat_lit 98, nat_lit 108, nat_lit 101]⟩⟩
noncomputable abbrev s_isatty : Str := ⟨⟨[nat_lit 105, nat_lit 115, nat_lit 97, nat_lit 116, nat_lit 116, nat_lit 121]⟩⟩
noncomputable abbrev s_flush : Str := ⟨⟨[nat_lit 102, nat_lit 108, nat_lit 117, nat_lit 115, nat_lit 104]⟩⟩
noncomputable abbrev s_fileno : Str := ⟨⟨[nat_lit 102, nat_lit 105, nat_lit 108, nat_lit 101, nat_lit 110, nat_lit 111]⟩⟩
noncomputable abbrev s_detach : Str := ⟨⟨[nat_lit 100, nat_lit 101, nat_lit 116, nat_lit 97, nat_lit 99, nat_lit 104]⟩⟩
noncomputable abbrev s_getvalue : Str := ⟨⟨[nat_lit 103, nat_lit 101, nat_lit 116, nat_lit 118, nat_lit 97, nat_lit 108, nat_lit 117, nat_lit 101]⟩⟩
noncomputable abbrev s_tell : Str := ⟨⟨[nat_lit 116, nat_lit 101, nat_lit 108, nat_lit 108]⟩⟩
noncomputable abbrev s_seek : Str := ⟨⟨[nat_lit 115, nat_lit 101, nat_lit 101, nat_lit 107]⟩⟩
noncomputable abbrev s_truncate : Str := ⟨⟨[nat_lit 116, nat_lit 114, nat_lit 117, nat_lit 110, nat_lit 99, nat_lit 97, nat_lit 116, nat_lit 101]⟩⟩
noncomputable abbrev s_readlines : Str := ⟨⟨[nat_lit 114, nat_lit 101, nat_lit 97, nat_lit 100, nat_lit 108, nat_lit 105, nat_lit 110, nat_lit 101, nat_lit 115]⟩⟩
noncomputable abbrev s___iter__ : Str := ⟨⟨[nat_lit 95, nat_lit 95, nat_lit 105, nat_lit 116, nat_lit 101, nat_lit 114, nat_lit 95, nat_lit 95]⟩⟩
noncomputable abbrev s___next__ : Str := ⟨⟨[nat_lit 95, nat_lit 95, nat_lit 110, nat_lit 101, nat_lit 120, nat_lit 116, nat_lit 95, nat_lit 95]⟩⟩
noncomputable abbrev s_write : Str := ⟨⟨[nat_lit 119, nat_lit 114, nat_lit 105, nat_lit 116, nat_lit 101]⟩⟩
noncomputable abbrev s_writelines : Str := ⟨⟨[nat_lit 119, nat_lit 114, nat_lit 105, nat_lit 116, nat_lit 101, nat_lit 108, nat_lit 105, nat_lit 110, nat_lit 101, nat_lit 115]⟩⟩
noncomputable abbrev s___repr__ : Str := ⟨⟨[nat_lit 95, nat_lit 95, nat_lit 114, nat_lit 101, nat_lit 112, nat_lit 114, nat_lit 95, nat_lit 95]⟩⟩
noncomputable abbrev t_88 : Str := ⟨⟨[nat_lit 115, nat_lit 104, nat_lit 108, nat_lit 101, nat_lit 120, nat_lit 46, nat_lit 95, nat_lit 95, nat_lit 105, nat_lit 110, nat_lit 105, nat_lit 116, nat_lit 95, nat_lit 95]⟩⟩
noncomputable abbrev t_89 : Str := ⟨⟨[nat_lit 99, nat_lit 112, nat_lit 121, nat_lit 51, nat_lit 49, nat_lit 51, nat_lit 46, nat_lit 115, nat_lit 104, nat_lit 108, nat_lit 101, nat_lit 120]⟩⟩
noncomputable abbrev s_punctuation_chars : Str := ⟨⟨[nat_lit 112, nat_lit 117, nat_lit 110, nat_lit 99, nat_lit 116, nat_lit 117, nat_lit 97, nat_lit 116, nat_lit 105, nat_lit 111, nat_lit 110, nat_lit 95, nat_lit 99, nat_lit 104, nat_lit 97, nat_lit 114, nat_lit 115]⟩⟩
noncomputable abbrev t_91 : Str := ⟨⟨[nat_lit 115, nat_lit 104, nat_lit 108, nat_lit 101, nat_lit 120, nat_lit 46, nat_lit 112, nat_lit 117, nat_lit 110, nat_lit 99, nat_lit 116, nat_lit 117, nat_lit 97, nat_lit 116, nat_lit 105, nat_lit 111, nat_lit 110, nat_lit 95, nat_lit 99, nat_lit 104, nat_lit 97, nat_lit 114, nat_lit 115]⟩⟩
noncomputable abbrev s_get_token : Str := ⟨⟨[nat_lit 103, nat_lit 101, nat_lit 116, nat_lit 95, nat_lit 116, nat_lit 111, nat_lit 107, nat_lit 101, nat_lit 110]⟩⟩
noncomputable abbrev t_93 : Str := ⟨⟨[nat_lit 115, nat_lit 104, nat_lit 108, nat_lit 101, nat_lit 120, nat_lit 46, nat_lit 103, nat_lit 101, nat_lit 116, nat_lit 95, nat_lit 116, nat_lit 111, nat_lit 107, nat_lit 101, nat_lit 110]⟩⟩
noncomputable abbrev s_read_token : Str := ⟨⟨[nat_lit 114, nat_lit 101, nat_lit 97, nat_lit 100, nat_lit 95, nat_lit 116, nat_lit 111, nat_lit 107, nat_lit 101, nat_lit 110]⟩⟩
noncomputable abbrev t_95 : Str := ⟨⟨[nat_lit 115, nat_lit 104, nat_lit 108, nat_lit 101, nat_lit 120, nat_lit 46, nat_lit 114, nat_lit 101, nat_lit 97, nat_lit 100, nat_lit 95, nat_lit 116, nat_lit 111, nat_lit 107, nat_lit 101, nat_lit 110]⟩⟩
noncomputable abbrev s_error_leader : Str := ⟨⟨[nat_lit 101, nat_lit 114, nat_lit 114, nat_lit 111, nat_lit 114, nat_lit 95, nat_lit 108, nat_lit 101, nat_lit 97, nat_lit 100, nat_lit 101, nat_lit 114]⟩⟩
noncomputable abbrev t_97 : Str := ⟨⟨[nat_lit 115, nat_lit 104, nat_lit 108, nat_lit 101, nat_lit 120, nat_lit 46, nat_lit 101, nat_lit 114, nat_lit 114, nat_lit 111, nat_lit 114, nat_lit 95, nat_lit 108, nat_lit 101, nat_lit 97, nat_lit 100, nat_lit 101, nat_lit 114]⟩⟩
noncomputable abbrev s_push_token : Str := ⟨⟨[nat_lit 112, nat_lit 117, nat_lit 115, nat_lit 104, nat_lit 95, nat_lit 116, nat_lit 111, nat_lit 107, nat_lit 101, nat_lit 110]⟩⟩
noncomputable abbrev s_push_source : Str := ⟨⟨[nat_lit 112, nat_lit 117, nat_lit 115, nat_lit 104, nat_lit 95, nat_lit 115, nat_lit 111, nat_lit 117, nat_lit 114, nat_lit 99, nat_lit 101]⟩⟩
noncomputable abbrev s_pop_source : Str := ⟨⟨[nat_lit 112, nat_lit 111, nat_lit 112, nat_lit 95, nat_lit 115, nat_lit 111, nat_lit 117, nat_lit 114, nat_lit 99, nat_lit 101]⟩⟩
noncomputable abbrev s_sourcehook : Str := ⟨⟨[nat_lit 115, nat_lit 111, nat_lit 117, nat_lit 114, nat_lit 99, nat_lit 101, nat_lit 104, nat_lit 111, nat_lit 111, nat_lit 107]⟩⟩
noncomputable abbrev t_102 : Str := ⟨⟨[nat_lit 99, nat_lit 112, nat_lit 121, nat_lit 51, nat_lit 49, nat_lit 51, nat_lit 46, nat_lit 112, nat_lit 115, nat_lit 116, nat_lit 97, nat_lit 116, nat_lit 115]⟩⟩
noncomputable abbrev t_103 : Str := ⟨⟨[nat_lit 105, nat_lit 109, nat_lit 112, nat_lit 111, nat_lit 114, nat_lit 116, nat_lit 46, nat_lit 108, nat_lit 111, nat_lit 97, nat_lit 100, nat_lit 101, nat_lit 100, nat_lit 46, nat_lit 95, nat_lit 99, nat_lit 111, nat_lit 108, nat_lit 108, nat_lit 101, nat_lit 99, nat_lit 116, nat_lit 105, nat_lit 111, nat_lit 110, nat_lit 115]⟩⟩
noncomputable abbrev t_104 : Str := ⟨⟨[nat_lit 99, nat_lit 108, nat_lit 97, nat_lit 115, nat_lit 115, nat_lit 46, nat_lit 95, nat_lit 102, nat_lit 114, nat_lit 111, nat_lit 122, nat_lit 101, nat_lit 110, nat_lit 95, nat_lit 105, nat_lit 109, nat_lit 112, nat_lit 111, nat_lit 114, nat_lit 116, nat_lit 108, nat_lit 105, nat_lit 98, nat_lit 46, nat_lit 66, nat_lit 117, nat_lit 105, nat_lit 108, nat_lit 116, nat_lit 105, nat_lit 110, nat_lit 73, nat_lit 109, nat_lit 112, nat_lit 111, nat_lit 114, nat_lit 116, nat_lit 101, nat_lit 114]⟩⟩
noncomputable abbrev t_105 : Str := ⟨⟨[nat_lit 119, nat_lit 97, nat_lit 116, nat_lit 99, nat_lit 104, nat_lit 101, nat_lit 100, nat_lit 46, nat_lit 105, nat_lit 109, nat_lit 112, nat_lit 111, nat_lit 114, nat_lit 116]⟩⟩
noncomputable abbrev t_106 : Str := ⟨⟨[nat_lit 99, nat_lit 108, nat_lit 97, nat_lit 115, nat_lit 115, nat_lit 46, nat_lit 95, nat_lit 102, nat_lit 114, nat_lit 111, nat_lit 122, nat_lit 101, nat_lit 110, nat_lit 95, nat_lit 105, nat_lit 109, nat_lit 112, nat_lit 111, nat_lit 114, nat_lit 116, nat_lit 108, nat_lit 105, nat_lit 98, nat_lit 46, nat_lit 77, nat_lit 111, nat_lit 100, nat_lit 117, nat_lit 108, nat_lit 101, nat_lit 83, nat_lit 112, nat_lit 101, nat_lit 99]⟩⟩
noncomputable abbrev t_107 : Str := ⟨⟨[nat_lit 115, nat_lit 121, nat_lit 115, nat_lit 46, nat_lit 109, nat_lit 111, nat_lit 100, nat_lit 117, nat_lit 108, nat_lit 101, nat_lit 115, nat_lit 46, nat_lit 98, nat_lit 111, nat_lit 111, nat_lit 107, nat_lit 101, nat_lit 100, nat_lit 45, nat_lit 101, nat_lit 112, nat_lit 111, nat_lit 99, nat_lit 104]⟩⟩
noncomputable abbrev t_108 : Str := ⟨⟨[nat_lit 115, nat_lit 121, nat_lit 115, nat_lit 46, nat_lit 109, nat_lit 111, nat_lit 100, nat_lit 117, nat_lit 108, nat_lit 101, nat_lit 115, nat_lit 46, nat_lit 108, nat_lit 97, nat_lit 110, nat_lit 100, nat_lit 101, nat_lit 100, nat_lit 46, nat_lit 95, nat_lit 99, nat_lit 111, nat_lit 108, nat_lit 108, nat_lit 101, nat_lit 99, nat_lit 116, nat_lit 105, nat_lit 111, nat_lit 110, nat_lit 115]⟩⟩
noncomputable abbrev t_109 : Str := ⟨⟨[nat_lit 105, nat_lit 109, nat_lit 112, nat_lit 111, nat_lit 114, nat_lit 116, nat_lit 46, nat_lit 108, nat_lit 97, nat_lit 116, nat_lit 101, nat_lit 114, nat_lit 45, nat_lit 108, nat_lit 97, nat_lit 105, nat_lit 100, nat_lit 46, nat_lit 95, nat_lit 99, nat_lit 111, nat_lit 108, nat_lit 108, nat_lit 101, nat_lit 99, nat_lit 116, nat_lit 105, nat_lit 111, nat_lit 110, nat_lit 115]⟩⟩
noncomputable abbrev t_110 : Str := ⟨⟨[nat_lit 119, nat_lit 97, nat_lit 116, nat_lit 99, nat_lit 104, nat_lit 101, nat_lit 100, nat_lit 46, nat_lit 108, nat_lit 105, nat_lit 98, nat_lit 114, nat_lit 97, nat_lit 114, nat_lit 121]⟩⟩
noncomputable abbrev t_111 : Str := ⟨⟨[nat_lit 119, nat_lit 97, nat_lit 116, nat_lit 99, nat_lit 104, nat_lit 101, nat_lit 100, nat_lit 46, nat_lit 108, nat_lit 105, nat_lit 98, nat_lit 114, nat_lit 97, nat_lit 114, nat_lit 121, nat_lit 45, nat_lit 111, nat_lit 98, nat_lit 106, nat_lit 101, nat_lit 99, nat_lit 116, nat_lit 115]⟩⟩
noncomputable abbrev t_112 : Str := ⟨⟨[nat_lit 13]⟩⟩
noncomputable abbrev t_113 : Str := ⟨⟨[nat_lit 119, nat_lit 97, nat_lit 116, nat_lit 99, nat_lit 104, nat_lit 101, nat_lit 100, nat_lit 46, nat_lit 108, nat_lit 105, nat_lit 98, nat_lit 114, nat_lit 97, nat_lit 114, nat_lit 121, nat_lit 45, nat_lit 100, nat_lit 101, nat_lit 101, nat_lit 112, nat_lit 46, nat_lit 95, nat_lit 99, nat_lit 111, nat_lit 108, nat_lit 108, nat_lit 101, nat_lit 99, nat_lit 116, nat_lit 105, nat_lit 111, nat_lit 110, nat_lit 115]⟩⟩
noncomputable abbrev t_114 : Str := ⟨⟨[nat_lit 4, nat_lit 0, nat_lit 0, nat_lit 12, nat_lit 4, nat_lit 0, nat_lit 0, nat_lit 12, nat_lit 4, nat_lit 0, nat_lit 0, nat_lit 3, nat_lit 4, nat_lit 0, nat_lit 0, nat_lit 12, nat_lit 8, nat_lit 4, nat_lit 100, nat_lit 105, nat_lit 99, nat_lit 116, nat_lit 2]⟩⟩
noncomputable abbrev t_115 : Str := ⟨⟨[nat_lit 116, nat_lit 121, nat_lit 112, nat_lit 101, nat_lit 46, nat_lit 95, nat_lit 95, nat_lit 115, nat_lit 117, nat_lit 98, nat_lit 99, nat_lit 108, nat_lit 97, nat_lit 115, nat_lit 115, nat_lit 101, nat_lit 115, nat_lit 95, nat_lit 95, nat_lit 46, nat_lit 79, nat_lit 83, nat_lit 69, nat_lit 114, nat_lit 114, nat_lit 111, nat_lit 114, nat_lit 46, nat_lit 48]⟩⟩
noncomputable abbrev t_116 : Str := ⟨⟨[nat_lit 116, nat_lit 121, nat_lit 112, nat_lit 101, nat_lit 46, nat_lit 95, nat_lit 95, nat_lit 115, nat_lit 117, nat_lit 98, nat_lit 99, nat_lit 108, nat_lit 97, nat_lit 115, nat_lit 115, nat_lit 101, nat_lit 115, nat_lit 95, nat_lit 95, nat_lit 46, nat_lit 79, nat_lit 83, nat_lit 69, nat_lit 114, nat_lit 114, nat_lit 111, nat_lit 114, nat_lit 46, nat_lit 110]⟩⟩
noncomputable def o3 (P : Params) : Obj := ⟨.type "dict", none, .dict [⟨PyData.keyHash P s___name__, .str s___name__ 165, .str s_law_nq0200_01 1182⟩,
    ⟨PyData.keyHash P s___doc__, .str s___doc__ 166, .none⟩,
    ⟨PyData.keyHash P s___package__, .str s___package__ 167, .none⟩,
    ⟨PyData.keyHash P s___loader__, .str s___loader__ 168, .builtin "__main__.__loader__#opaque"⟩,
    ⟨PyData.keyHash P s___spec__, .str s___spec__ 169, .none⟩,
    ⟨PyData.keyHash P s___annotations__, .str s___annotations__ 170, .ref 6⟩,
    ⟨PyData.keyHash P s___builtins__, .str s___builtins__ 171, .ref 4⟩,
    ⟨PyData.keyHash P s___file__, .str s___file__ 173, .str t_9 172⟩,
    ⟨PyData.keyHash P s___cached__, .str s___cached__ 174, .none⟩,
    ⟨PyData.keyHash P s_deque, .str s_deque 272, .type "collections.deque"⟩,
    ⟨PyData.keyHash P s__wall, .str s__wall 285, .ref 39⟩,
    ⟨PyData.keyHash P s__whence, .str s__whence 295, .ref 46⟩,
    ⟨PyData.keyHash P s__index, .str s__index 303, .ref 53⟩,
    ⟨PyData.keyHash P s_UnsupportedOperation, .str s_UnsupportedOperation 325, .ref 63⟩,
    ⟨PyData.keyHash P s_IOBase, .str s_IOBase 357, .ref 83⟩,
    ⟨PyData.keyHash P s_BufferedIOBase, .str s_BufferedIOBase 375, .ref 98⟩,
    ⟨PyData.keyHash P s_TextIOBase, .str s_TextIOBase 393, .ref 110⟩,
    ⟨PyData.keyHash P s_BytesIO, .str s_BytesIO 655, .ref 340⟩,
    ⟨PyData.keyHash P s_StringIO, .str s_StringIO 942, .ref 587⟩,
    ⟨PyData.keyHash P s__kind, .str s__kind 953, .ref 596⟩,
    ⟨PyData.keyHash P s__fspath, .str s__fspath 962, .ref 603⟩,
    ⟨PyData.keyHash P s__check_arg_types, .str s__check_arg_types 972, .ref 610⟩,
    ⟨PyData.keyHash P s_isabs, .str s_isabs 979, .ref 617⟩,
    ⟨PyData.keyHash P s_join, .str s_join 990, .ref 624⟩,
    ⟨PyData.keyHash P s_dirname, .str s_dirname 1000, .ref 631⟩,
    ⟨PyData.keyHash P s_shlex, .str s_shlex 1141, .ref 722⟩,
    ⟨PyData.keyHash P s_add_func_stats, .str s_add_func_stats 1161, .ref 733⟩,
    ⟨PyData.keyHash P s_add_callers, .str s_add_callers 1172, .ref 740⟩,
    ⟨PyData.keyHash P s_count_calls, .str s_count_calls 1181, .ref 747⟩,
    ⟨PyData.keyHash P s__law_texts, .str s__law_texts 1202, .ref 754⟩,
    ⟨PyData.keyHash P s__law_tables, .str s__law_tables 1220, .ref 761⟩,
    ⟨PyData.keyHash P s__law_due, .str s__law_due 1226, .ref 766⟩,
    ⟨PyData.keyHash P s__law_counted, .str s__law_counted 1235, .ref 773⟩,
    ⟨PyData.keyHash P s_law, .str s_law 1245, .ref 780⟩].toArray 34, [].toArray⟩
noncomputable def o52 (P : Params) : Obj := ⟨.type "code", none, .fields [.str s__index 296, .str s__index 297, .str t_9 298, .int (11) 0, .int (2) 0, .int (0) 0, .int (0) 0, .int (3) 0, .ref 47, .bool true, .int (273) 0, .ref 48, .none, .ref 49, .ref 50, .ref 51, .int (301) 0, .int (11) 0, .str t_9 302].toArray, [].toArray⟩
noncomputable def fd53 : FuncData := fnOf s__index s__index (fnPrm (stAt 4)) (fnBod (stAt 4)) (fnScp (stAt 4)) (.none) (.none) (.none) (.str s_io 286) none (.ref 52) (.none)
noncomputable def o53 (P : Params) : Obj := ⟨.type "function", none, .func fd53, [].toArray⟩
noncomputable def o79 (P : Params) : Obj := ⟨.type "code", none, .fields [.str s___new__ 340, .str t_38 341, .str t_9 342, .int (23) 0, .int (1) 0, .int (1) 0, .int (0) 0, .int (15) 0, .ref 74, .bool true, .int (273) 0, .ref 75, .none, .ref 76, .ref 77, .ref 78, .int (346) 0, .int (23) 0, .str t_9 347].toArray, [].toArray⟩
noncomputable def fd80 : FuncData := fnOf s___new__ t_38 (fnPrm (mtAt 6 1)) (fnBod (mtAt 6 1)) (fnScp (mtAt 6 1)) (.none) (.none) (.none) (.str s_io 286) none (.ref 79) (.none)
noncomputable def o80 (P : Params) : Obj := ⟨.type "function", none, .func fd80, [].toArray⟩
noncomputable def o82 (P : Params) : Obj := ⟨.type "dict", none, .dict [⟨PyData.keyHash P s___module__, .str s___module__ 333, .str s_io 338⟩,
    ⟨PyData.keyHash P s___firstlineno__, .str s___firstlineno__ 337, .int (20) 336⟩,
    ⟨PyData.keyHash P s___new__, .str s___new__ 348, .ref 84⟩,
    ⟨PyData.keyHash P s___static_attributes__, .str s___static_attributes__ 349, .ref 81⟩,
    ⟨PyData.keyHash P s___dict__, .str s___dict__ 352, .ref 85⟩,
    ⟨PyData.keyHash P s___weakref__, .str s___weakref__ 354, .ref 86⟩,
    ⟨PyData.keyHash P s___doc__, .str s___doc__ 355, .none⟩].toArray 4, [].toArray⟩
noncomputable def o83 (P : Params) : Obj := ⟨.type "type", none, .cls { name := s_IOBase, bases := [.type "object"], mro := [.ref 83, .type "object"], ns := 82, qualname := s_IOBase, hasDict := true, subclasses := [.ref 98, .ref 110], abstract := false, hasDel := false }, [none, none, some (.str s_IOBase 326), some (.str s_IOBase 334), some (.none), some (.bool true)].toArray⟩
noncomputable def o84 (P : Params) : Obj := ⟨.type "staticmethod", none, .fields [.ref 80].toArray, [].toArray⟩
noncomputable def o109 (P : Params) : Obj := ⟨.type "dict", none, .dict [⟨PyData.keyHash P s___module__, .str s___module__ 383, .str s_io 388⟩,
    ⟨PyData.keyHash P s___firstlineno__, .str s___firstlineno__ 387, .int (29) 386⟩,
    ⟨PyData.keyHash P s___static_attributes__, .str s___static_attributes__ 390, .ref 108⟩,
    ⟨PyData.keyHash P s___doc__, .str s___doc__ 391, .none⟩].toArray 2, [].toArray⟩
noncomputable def o110 (P : Params) : Obj := ⟨.type "type", none, .cls { name := s_TextIOBase, bases := [.ref 83], mro := [.ref 110, .ref 83, .type "object"], ns := 109, qualname := s_TextIOBase, hasDict := true, subclasses := [.ref 587], abstract := false, hasDel := false }, [some (.ref 101), none, some (.str s_TextIOBase 376), some (.str s_TextIOBase 384), some (.none), some (.bool true)].toArray⟩
noncomputable def o350 (P : Params) : Obj := ⟨.type "tuple", none, .seq [.str t_44 670, .str t_45 671].toArray 0, [].toArray⟩
noncomputable def o356 (P : Params) : Obj := ⟨.type "code", none, .fields [.str s___init__ 672, .str t_47 673, .str t_9 674, .int (204) 0, .int (3) 0, .int (0) 0, .int (0) 0, .int (3) 0, .ref 351, .bool true, .int (273) 0, .ref 352, .none, .ref 353, .ref 354, .ref 355, .int (678) 0, .int (204) 0, .str t_9 679].toArray, [].toArray⟩
noncomputable def fd357 : FuncData := fnOf s___init__ t_47 (fnPrm (mtAt 10 1)) (fnBod (mtAt 10 1)) (fnScp (mtAt 10 1)) (.ref 350) (.none) (.none) (.str s_io 286) none (.ref 356) (.none)
noncomputable def o357 (P : Params) : Obj := ⟨.type "function", none, .func fd357, [].toArray⟩
noncomputable def o363 (P : Params) : Obj := ⟨.type "code", none, .fields [.str s___translated 681, .str t_49 682, .str t_9 683, .int (217) 0, .int (2) 0, .int (0) 0, .int (0) 0, .int (3) 0, .ref 358, .bool true, .int (273) 0, .ref 359, .none, .ref 360, .ref 361, .ref 362, .int (687) 0, .int (217) 0, .str t_9 688].toArray, [].toArray⟩
noncomputable def fd364 : FuncData := fnOf s___translated t_49 (fnPrm (mtAt 10 2)) (fnBod (mtAt 10 2)) (fnScp (mtAt 10 2)) (.none) (.none) (.none) (.str s_io 286) none (.ref 363) (.none)
noncomputable def o364 (P : Params) : Obj := ⟨.type "function", none, .func fd364, [].toArray⟩
noncomputable def o370 (P : Params) : Obj := ⟨.type "code", none, .fields [.str s___check 690, .str t_51 691, .str t_9 692, .int (225) 0, .int (1) 0, .int (0) 0, .int (0) 0, .int (3) 0, .ref 365, .bool true, .int (273) 0, .ref 366, .none, .ref 367, .ref 368, .ref 369, .int (694) 0, .int (225) 0, .str t_9 695].toArray, [].toArray⟩
noncomputable def fd371 : FuncData := fnOf s___check t_51 (fnPrm (mtAt 10 3)) (fnBod (mtAt 10 3)) (fnScp (mtAt 10 3)) (.none) (.none) (.none) (.str s_io 286) none (.ref 370) (.none)
noncomputable def o371 (P : Params) : Obj := ⟨.type "function", none, .func fd371, [].toArray⟩
noncomputable def o384 (P : Params) : Obj := ⟨.type "code", none, .fields [.str s___line 704, .str t_53 705, .str t_9 706, .int (233) 0, .int (2) 0, .int (0) 0, .int (0) 0, .int (3) 0, .ref 379, .bool true, .int (273) 0, .ref 380, .none, .ref 381, .ref 382, .ref 383, .int (716) 0, .int (233) 0, .str t_9 717].toArray, [].toArray⟩
noncomputable def fd385 : FuncData := fnOf s___line t_53 (fnPrm (mtAt 10 5)) (fnBod (mtAt 10 5)) (fnScp (mtAt 10 5)) (.none) (.none) (.none) (.str s_io 286) none (.ref 384) (.none)
noncomputable def o385 (P : Params) : Obj := ⟨.type "function", none, .func fd385, [].toArray⟩
noncomputable def o526 (P : Params) : Obj := ⟨.type "tuple", none, .seq [.int (-1) 863].toArray 0, [].toArray⟩
noncomputable def o532 (P : Params) : Obj := ⟨.type "code", none, .fields [.str s_read 864, .str t_55 865, .str t_9 866, .int (347) 0, .int (2) 0, .int (2) 0, .int (0) 0, .int (3) 0, .ref 527, .bool true, .int (273) 0, .ref 528, .none, .ref 529, .ref 530, .ref 531, .int (871) 0, .int (347) 0, .str t_9 872].toArray, [].toArray⟩
noncomputable def fd533 : FuncData := fnOf s_read t_55 (fnPrm (mtAt 10 25)) (fnBod (mtAt 10 25)) (fnScp (mtAt 10 25)) (.ref 526) (.none) (.none) (.str s_io 286) none (.ref 532) (.none)
noncomputable def o533 (P : Params) : Obj := ⟨.type "function", none, .func fd533, [].toArray⟩
noncomputable def o534 (P : Params) : Obj := ⟨.type "tuple", none, .seq [.int (-1) 875].toArray 0, [].toArray⟩
noncomputable def o540 (P : Params) : Obj := ⟨.type "code", none, .fields [.str s_readline 876, .str t_57 877, .str t_9 878, .int (361) 0, .int (2) 0, .int (2) 0, .int (0) 0, .int (3) 0, .ref 535, .bool true, .int (273) 0, .ref 536, .none, .ref 537, .ref 538, .ref 539, .int (881) 0, .int (361) 0, .str t_9 882].toArray, [].toArray⟩
noncomputable def fd541 : FuncData := fnOf s_readline t_57 (fnPrm (mtAt 10 26)) (fnBod (mtAt 10 26)) (fnScp (mtAt 10 26)) (.ref 534) (.none) (.none) (.str s_io 286) none (.ref 540) (.none)
noncomputable def o541 (P : Params) : Obj := ⟨.type "function", none, .func fd541, [].toArray⟩
noncomputable def o586 (P : Params) : Obj := ⟨.type "dict", none, .dict [⟨PyData.keyHash P s___module__, .str s___module__ 663, .str s__io 668⟩,
    ⟨PyData.keyHash P s___firstlineno__, .str s___firstlineno__ 667, .int (201) 666⟩,
    ⟨PyData.keyHash P s___init__, .str s___init__ 680, .ref 357⟩,
    ⟨PyData.keyHash P s__StringIO__translated, .str s__StringIO__translated 689, .ref 364⟩,
    ⟨PyData.keyHash P s__StringIO__check, .str s__StringIO__check 696, .ref 371⟩,
    ⟨PyData.keyHash P s__StringIO__check_dot, .str s__StringIO__check_dot 703, .ref 378⟩,
    ⟨PyData.keyHash P s__StringIO__line, .str s__StringIO__line 718, .ref 385⟩,
    ⟨PyData.keyHash P s_closed, .str s_closed 726, .ref 393⟩,
    ⟨PyData.keyHash P s_line_buffering, .str s_line_buffering 734, .ref 401⟩,
    ⟨PyData.keyHash P s_newlines, .str s_newlines 742, .ref 409⟩,
    ⟨PyData.keyHash P s_encoding, .str s_encoding 750, .ref 417⟩,
    ⟨PyData.keyHash P s_errors, .str s_errors 758, .ref 425⟩,
    ⟨PyData.keyHash P s_close, .str s_close 765, .ref 432⟩,
    ⟨PyData.keyHash P s___enter__, .str s___enter__ 772, .ref 439⟩,
    ⟨PyData.keyHash P s___exit__, .str s___exit__ 780, .ref 446⟩,
    ⟨PyData.keyHash P s_readable, .str s_readable 787, .ref 453⟩,
    ⟨PyData.keyHash P s_writable, .str s_writable 794, .ref 460⟩,
    ⟨PyData.keyHash P s_seekable, .str s_seekable 801, .ref 467⟩,
    ⟨PyData.keyHash P s_isatty, .str s_isatty 808, .ref 474⟩,
    ⟨PyData.keyHash P s_flush, .str s_flush 815, .ref 481⟩,
    ⟨PyData.keyHash P s_fileno, .str s_fileno 822, .ref 488⟩,
    ⟨PyData.keyHash P s_detach, .str s_detach 829, .ref 495⟩,
    ⟨PyData.keyHash P s_getvalue, .str s_getvalue 836, .ref 502⟩,
    ⟨PyData.keyHash P s_tell, .str s_tell 843, .ref 509⟩,
    ⟨PyData.keyHash P s_seek, .str s_seek 853, .ref 517⟩,
    ⟨PyData.keyHash P s_truncate, .str s_truncate 861, .ref 525⟩,
    ⟨PyData.keyHash P s_read, .str s_read 873, .ref 533⟩,
    ⟨PyData.keyHash P s_readline, .str s_readline 883, .ref 541⟩,
    ⟨PyData.keyHash P s_readlines, .str s_readlines 893, .ref 549⟩,
    ⟨PyData.keyHash P s___iter__, .str s___iter__ 900, .ref 556⟩,
    ⟨PyData.keyHash P s___next__, .str s___next__ 908, .ref 563⟩,
    ⟨PyData.keyHash P s_write, .str s_write 920, .ref 570⟩,
    ⟨PyData.keyHash P s_writelines, .str s_writelines 928, .ref 577⟩,
    ⟨PyData.keyHash P s___repr__, .str s___repr__ 935, .ref 584⟩,
    ⟨PyData.keyHash P s___static_attributes__, .str s___static_attributes__ 939, .ref 585⟩,
    ⟨PyData.keyHash P s___doc__, .str s___doc__ 940, .none⟩].toArray 2, [].toArray⟩
noncomputable def o587 (P : Params) : Obj := ⟨.type "type", none, .cls { name := s_StringIO, bases := [.ref 110], mro := [.ref 587, .ref 110, .ref 83, .type "object"], ns := 586, qualname := s_StringIO, hasDict := true, subclasses := [], abstract := false, hasDel := false }, [some (.ref 343), none, some (.str s_StringIO 656), some (.str s_StringIO 664), some (.none), some (.bool true)].toArray⟩
noncomputable def o639 (P : Params) : Obj := ⟨.type "tuple", none, .seq [.none, .none, .bool false, .bool false].toArray 0, [].toArray⟩
noncomputable def o645 (P : Params) : Obj := ⟨.type "code", none, .fields [.str s___init__ 1015, .str t_88 1016, .str t_9 1017, .int (472) 0, .int (5) 0, .int (0) 0, .int (0) 0, .int (3) 0, .ref 640, .bool true, .int (273) 0, .ref 641, .none, .ref 642, .ref 643, .ref 644, .int (1024) 0, .int (472) 0, .str t_9 1025].toArray, [].toArray⟩
noncomputable def fd646 : FuncData := fnOf s___init__ t_88 (fnPrm (mtAt 19 0)) (fnBod (mtAt 19 0)) (fnScp (mtAt 19 0)) (.ref 639) (.none) (.none) (.str t_89 1001) none (.ref 645) (.none)
noncomputable def o646 (P : Params) : Obj := ⟨.type "function", none, .func fd646, [].toArray⟩
noncomputable def o652 (P : Params) : Obj := ⟨.type "code", none, .fields [.str s_punctuation_chars 1027, .str t_91 1028, .str t_9 1029, .int (513) 0, .int (1) 0, .int (0) 0, .int (0) 0, .int (3) 0, .ref 647, .bool true, .int (273) 0, .ref 648, .none, .ref 649, .ref 650, .ref 651, .int (1031) 0, .int (513) 0, .str t_9 1032].toArray, [].toArray⟩
noncomputable def fd653 : FuncData := fnOf s_punctuation_chars t_91 (fnPrm (mtAt 19 1)) (fnBod (mtAt 19 1)) (fnScp (mtAt 19 1)) (.none) (.none) (.none) (.str t_89 1001) none (.ref 652) (.none)
noncomputable def o653 (P : Params) : Obj := ⟨.type "function", none, .func fd653, [].toArray⟩
noncomputable def o654 (P : Params) : Obj := ⟨.type "property", none, .fields [.ref 653, .none, .none, .none, .str s_punctuation_chars 1034, .bool false].toArray, [].toArray⟩
noncomputable def o682 (P : Params) : Obj := ⟨.type "code", none, .fields [.str s_get_token 1059, .str t_93 1060, .str t_9 1061, .int (540) 0, .int (1) 0, .int (0) 0, .int (0) 0, .int (3) 0, .ref 677, .bool true, .int (273) 0, .ref 678, .none, .ref 679, .ref 680, .ref 681, .int (1068) 0, .int (540) 0, .str t_9 1069].toArray, [].toArray⟩
noncomputable def fd683 : FuncData := fnOf s_get_token t_93 (fnPrm (mtAt 19 5)) (fnBod (mtAt 19 5)) (fnScp (mtAt 19 5)) (.none) (.none) (.none) (.str t_89 1001) none (.ref 682) (.none)
noncomputable def o683 (P : Params) : Obj := ⟨.type "function", none, .func fd683, [].toArray⟩
noncomputable def o689 (P : Params) : Obj := ⟨.type "code", none, .fields [.str s_read_token 1071, .str t_95 1072, .str t_9 1073, .int (567) 0, .int (1) 0, .int (0) 0, .int (0) 0, .int (3) 0, .ref 684, .bool true, .int (273) 0, .ref 685, .none, .ref 686, .ref 687, .ref 688, .int (1079) 0, .int (567) 0, .str t_9 1080].toArray, [].toArray⟩
noncomputable def fd690 : FuncData := fnOf s_read_token t_95 (fnPrm (mtAt 19 6)) (fnBod (mtAt 19 6)) (fnScp (mtAt 19 6)) (.none) (.none) (.none) (.str t_89 1001) none (.ref 689) (.none)
noncomputable def o690 (P : Params) : Obj := ⟨.type "function", none, .func fd690, [].toArray⟩
noncomputable def o698 (P : Params) : Obj := ⟨.type "tuple", none, .seq [.none, .none].toArray 0, [].toArray⟩
noncomputable def o704 (P : Params) : Obj := ⟨.type "code", none, .fields [.str s_error_leader 1090, .str t_97 1091, .str t_9 1092, .int (711) 0, .int (3) 0, .int (0) 0, .int (0) 0, .int (3) 0, .ref 699, .bool true, .int (273) 0, .ref 700, .none, .ref 701, .ref 702, .ref 703, .int (1096) 0, .int (711) 0, .str t_9 1097].toArray, [].toArray⟩
noncomputable def fd705 : FuncData := fnOf s_error_leader t_97 (fnPrm (mtAt 19 8)) (fnBod (mtAt 19 8)) (fnScp (mtAt 19 8)) (.ref 698) (.none) (.none) (.str t_89 1001) none (.ref 704) (.none)
noncomputable def o705 (P : Params) : Obj := ⟨.type "function", none, .func fd705, [].toArray⟩
noncomputable def o721 (P : Params) : Obj := ⟨.type "dict", none, .dict [⟨PyData.keyHash P s___module__, .str s___module__ 1010, .str t_89 1001⟩,
    ⟨PyData.keyHash P s___firstlineno__, .str s___firstlineno__ 1014, .int (470) 1013⟩,
    ⟨PyData.keyHash P s___init__, .str s___init__ 1026, .ref 646⟩,
    ⟨PyData.keyHash P s_punctuation_chars, .str s_punctuation_chars 1034, .ref 654⟩,
    ⟨PyData.keyHash P s_push_token, .str s_push_token 1042, .ref 661⟩,
    ⟨PyData.keyHash P s_push_source, .str s_push_source 1051, .ref 669⟩,
    ⟨PyData.keyHash P s_pop_source, .str s_pop_source 1058, .ref 676⟩,
    ⟨PyData.keyHash P s_get_token, .str s_get_token 1070, .ref 683⟩,
    ⟨PyData.keyHash P s_read_token, .str s_read_token 1081, .ref 690⟩,
    ⟨PyData.keyHash P s_sourcehook, .str s_sourcehook 1089, .ref 697⟩,
    ⟨PyData.keyHash P s_error_leader, .str s_error_leader 1098, .ref 705⟩,
    ⟨PyData.keyHash P s___iter__, .str s___iter__ 1105, .ref 712⟩,
    ⟨PyData.keyHash P s___next__, .str s___next__ 1113, .ref 719⟩,
    ⟨PyData.keyHash P s___static_attributes__, .str s___static_attributes__ 1134, .ref 720⟩,
    ⟨PyData.keyHash P s___dict__, .str s___dict__ 1136, .ref 723⟩,
    ⟨PyData.keyHash P s___weakref__, .str s___weakref__ 1138, .ref 724⟩,
    ⟨PyData.keyHash P s___doc__, .str s___doc__ 1139, .none⟩].toArray 4, [].toArray⟩
noncomputable def o722 (P : Params) : Obj := ⟨.type "type", none, .cls { name := s_shlex, bases := [.type "object"], mro := [.ref 722, .type "object"], ns := 721, qualname := s_shlex, hasDict := true, subclasses := [], abstract := false, hasDel := false }, [none, none, some (.str s_shlex 1003), some (.str s_shlex 1011), some (.builtin "object.__new__"), some (.bool true)].toArray⟩
noncomputable def o732 (P : Params) : Obj := ⟨.type "code", none, .fields [.str s_add_func_stats 1144, .str s_add_func_stats 1145, .str t_9 1146, .int (727) 0, .int (2) 0, .int (0) 0, .int (0) 0, .int (3) 0, .ref 727, .bool true, .int (273) 0, .ref 728, .none, .ref 729, .ref 730, .ref 731, .int (1159) 0, .int (727) 0, .str t_9 1160].toArray, [].toArray⟩
noncomputable def fd733 : FuncData := fnOf s_add_func_stats s_add_func_stats (fnPrm (stAt 21)) (fnBod (stAt 21)) (fnScp (stAt 21)) (.none) (.none) (.none) (.str t_102 1142) none (.ref 732) (.none)
noncomputable def o733 (P : Params) : Obj := ⟨.type "function", none, .func fd733, [].toArray⟩
noncomputable def o739 (P : Params) : Obj := ⟨.type "code", none, .fields [.str s_add_callers 1162, .str s_add_callers 1163, .str t_9 1164, .int (731) 0, .int (2) 0, .int (0) 0, .int (0) 0, .int (3) 0, .ref 734, .bool true, .int (273) 0, .ref 735, .none, .ref 736, .ref 737, .ref 738, .int (1170) 0, .int (731) 0, .str t_9 1171].toArray, [].toArray⟩
noncomputable def fd740 : FuncData := fnOf s_add_callers s_add_callers (fnPrm (stAt 22)) (fnBod (stAt 22)) (fnScp (stAt 22)) (.none) (.none) (.none) (.str t_102 1142) none (.ref 739) (.none)
noncomputable def o740 (P : Params) : Obj := ⟨.type "function", none, .func fd740, [].toArray⟩
noncomputable def o746 (P : Params) : Obj := ⟨.type "code", none, .fields [.str s_count_calls 1173, .str s_count_calls 1174, .str t_9 1175, .int (744) 0, .int (1) 0, .int (0) 0, .int (0) 0, .int (3) 0, .ref 741, .bool true, .int (273) 0, .ref 742, .none, .ref 743, .ref 744, .ref 745, .int (1179) 0, .int (744) 0, .str t_9 1180].toArray, [].toArray⟩
noncomputable def fd747 : FuncData := fnOf s_count_calls s_count_calls (fnPrm (stAt 23)) (fnBod (stAt 23)) (fnScp (stAt 23)) (.none) (.none) (.none) (.str t_102 1142) none (.ref 746) (.none)
noncomputable def o747 (P : Params) : Obj := ⟨.type "function", none, .func fd747, [].toArray⟩
noncomputable def o753 (P : Params) : Obj := ⟨.type "code", none, .fields [.str s__law_texts 1184, .str s__law_texts 1185, .str t_9 1186, .int (750) 0, .int (1) 0, .int (0) 0, .int (0) 0, .int (3) 0, .ref 748, .bool true, .int (273) 0, .ref 749, .none, .ref 750, .ref 751, .ref 752, .int (1200) 0, .int (750) 0, .str t_9 1201].toArray, [].toArray⟩
noncomputable def fd754 : FuncData := fnOf s__law_texts s__law_texts (fnPrm (stAt 25)) (fnBod (stAt 25)) (fnScp (stAt 25)) (.none) (.none) (.none) (.str s_law_nq0200_01 1182) none (.ref 753) (.none)
noncomputable def o754 (P : Params) : Obj := ⟨.type "function", none, .func fd754, [].toArray⟩
noncomputable def o760 (P : Params) : Obj := ⟨.type "code", none, .fields [.str s__law_tables 1203, .str s__law_tables 1204, .str t_9 1205, .int (769) 0, .int (1) 0, .int (0) 0, .int (0) 0, .int (3) 0, .ref 755, .bool true, .int (273) 0, .ref 756, .none, .ref 757, .ref 758, .ref 759, .int (1218) 0, .int (769) 0, .str t_9 1219].toArray, [].toArray⟩
noncomputable def fd761 : FuncData := fnOf s__law_tables s__law_tables (fnPrm (stAt 26)) (fnBod (stAt 26)) (fnScp (stAt 26)) (.none) (.none) (.none) (.str s_law_nq0200_01 1182) none (.ref 760) (.none)
noncomputable def o761 (P : Params) : Obj := ⟨.type "function", none, .func fd761, [].toArray⟩
noncomputable def o765 (P : Params) : Obj := ⟨.type "code", none, .fields [.str s__law_due 1221, .str s__law_due 1222, .str t_9 1223, .int (787) 0, .int (4) 0, .int (0) 0, .int (0) 0, .int (3) 0, .ref 762, .bool true, .int (273) 0, .ref 763, .none, .none, .none, .ref 764, .int (1224) 0, .int (787) 0, .str t_9 1225].toArray, [].toArray⟩
noncomputable def fd766 : FuncData := fnOf s__law_due s__law_due (fnPrm (stAt 27)) (fnBod (stAt 27)) (fnScp (stAt 27)) (.none) (.none) (.none) (.str s_law_nq0200_01 1182) none (.ref 765) (.none)
noncomputable def o766 (P : Params) : Obj := ⟨.type "function", none, .func fd766, [].toArray⟩
noncomputable def o772 (P : Params) : Obj := ⟨.type "code", none, .fields [.str s__law_counted 1227, .str s__law_counted 1228, .str t_9 1229, .int (805) 0, .int (2) 0, .int (0) 0, .int (0) 0, .int (3) 0, .ref 767, .bool true, .int (273) 0, .ref 768, .none, .ref 769, .ref 770, .ref 771, .int (1233) 0, .int (805) 0, .str t_9 1234].toArray, [].toArray⟩
noncomputable def fd773 : FuncData := fnOf s__law_counted s__law_counted (fnPrm (stAt 28)) (fnBod (stAt 28)) (fnScp (stAt 28)) (.none) (.none) (.none) (.str s_law_nq0200_01 1182) none (.ref 772) (.none)
noncomputable def o773 (P : Params) : Obj := ⟨.type "function", none, .func fd773, [].toArray⟩
noncomputable def o779 (P : Params) : Obj := ⟨.type "code", none, .fields [.str s_law 1236, .str s_law 1237, .str t_9 1238, .int (810) 0, .int (1) 0, .int (0) 0, .int (0) 0, .int (3) 0, .ref 774, .bool true, .int (273) 0, .ref 775, .none, .ref 776, .ref 777, .ref 778, .int (1243) 0, .int (810) 0, .str t_9 1244].toArray, [].toArray⟩
noncomputable def fd780 : FuncData := fnOf s_law s_law (fnPrm (stAt 29)) (fnBod (stAt 29)) (fnScp (stAt 29)) (.none) (.none) (.none) (.str s_law_nq0200_01 1182) none (.ref 779) (.none)
noncomputable def o780 (P : Params) : Obj := ⟨.type "function", none, .func fd780, [].toArray⟩
noncomputable def o340 (P : Params) : Obj := ⟨.type "type", none, .cls { name := s_BytesIO, bases := [.ref 98], mro := [.ref 340, .ref 98, .ref 83, .type "object"], ns := 339, qualname := s_BytesIO, hasDict := true, subclasses := [], abstract := false, hasDel := false }, [some (.ref 113), none, some (.str s_BytesIO 394), some (.str s_BytesIO 402), some (.none), some (.bool true)].toArray⟩
noncomputable def o2 (P : Params) : Obj := ⟨.none, none, .dict [⟨PyData.keyHash P t_103, .str t_103 185, .bool true⟩,
    ⟨PyData.keyHash P t_104, .str t_104 187, .ref 15⟩,
    ⟨PyData.keyHash P t_105, .str t_105 208, .ref 19⟩,
    ⟨PyData.keyHash P t_106, .str t_106 218, .ref 23⟩,
    ⟨PyData.keyHash P t_107, .str t_107 247, .int (3) 0⟩,
    ⟨PyData.keyHash P t_108, .str t_108 248, .bool true⟩,
    ⟨PyData.keyHash P t_109, .str t_109 263, .bool true⟩,
    ⟨PyData.keyHash P t_110, .str t_110 265, .ref 28⟩,
    ⟨PyData.keyHash P t_111, .str t_111 0, .str t_112 0⟩,
    ⟨PyData.keyHash P t_113, .str t_113 266, .str t_114 0⟩,
    ⟨PyData.keyHash P t_115, .str t_115 322, .int (63) 0⟩,
    ⟨PyData.keyHash P t_116, .str t_116 323, .int (1) 0⟩].toArray 12, [].toArray⟩
noncomputable def kAs : List Addr := [3, 52, 53, 79, 80, 82, 83, 84, 109, 110, 350, 356, 357, 363, 364, 370, 371, 384, 385, 526, 532, 533, 534, 540, 541, 586, 587, 639, 645, 646, 652, 653, 654, 682, 683, 689, 690, 698, 704, 705, 721, 722, 732, 733, 739, 740, 746, 747, 753, 754, 760, 761, 765, 766, 772, 773, 779, 780, 340, 2]
noncomputable def kK (P : Params) : Frag := [(3, o3 P), (52, o52 P), (53, o53 P), (79, o79 P), (80, o80 P), (82, o82 P), (83, o83 P), (84, o84 P), (109, o109 P), (110, o110 P), (350, o350 P), (356, o356 P), (357, o357 P), (363, o363 P), (364, o364 P), (370, o370 P), (371, o371 P), (384, o384 P), (385, o385 P), (526, o526 P), (532, o532 P), (533, o533 P), (534, o534 P), (540, o540 P), (541, o541 P), (586, o586 P), (587, o587 P), (639, o639 P), (645, o645 P), (646, o646 P), (652, o652 P), (653, o653 P), (654, o654 P), (682, o682 P), (683, o683 P), (689, o689 P), (690, o690 P), (698, o698 P), (704, o704 P), (705, o705 P), (721, o721 P), (722, o722 P), (732, o732 P), (733, o733 P), (739, o739 P), (740, o740 P), (746, o746 P), (747, o747 P), (753, o753 P), (754, o754 P), (760, o760 P), (761, o761 P), (765, o765 P), (766, o766 P), (772, o772 P), (773, o773 P), (779, o779 P), (780, o780 P), (340, o340 P), (2, o2 P)]
theorem k_keys (P : Params) : kAs = (kK P).map (·.1) := by kernel_rfl
noncomputable abbrev hook : Hook := kHook kK kAs k_keys
noncomputable def qV : Program := view pwT [0, 29]
noncomputable def looseV : List Str := ["_wall", "_whence", "_index", "UnsupportedOperation", "IOBase", "BufferedIOBase", "TextIOBase", "BytesIO", "StringIO", "_kind", "_fspath", "_check_arg_types", "isabs", "join", "dirname", "shlex", "add_func_stats", "add_callers", "count_calls", "_law_texts", "_law_tables", "_law_due", "_law_counted"]
noncomputable def xtV : Shared → Bool := fun s => xlAt qV [] s && recOk (RowW.records rwT.row.toRowW) s
noncomputable def obsV : Shared → List (Option Obj) := fun s => kAs.map s.heap.get?
noncomputable def valV : World → List (Option Obj) := fun w => (kK w.params).map fun p => some p.2
noncomputable def runL (w : World) := headRun pwT qV looseV xtV obsV 10000 29 (some (.ref 6)) w
noncomputable def runR (w : World) := some (openGood qV looseV, valV w)
theorem runL_id : runL = runL := rfl
theorem runR_id : runR = runR := rfl
end NQ
lay_quick NQ.runL
name_quick runLY for NQ.runL by NQ.runL_id
lay_quick NQ.runR
name_quick runRY for NQ.runR by NQ.runR_id
namespace NQ
theorem run_fast : ∀ w, PySem.W.Fast.runLY w = PySem.W.Fast.runRY w := fun w => by kernel_rfl
theorem left_all : LeftO pwT qV looseV xtV obsV valV 10000 := left_of_run (m₀ := 29) (ann := some (.ref 6)) fun w => by
  have e := run_fast w
  rw [← PySem.W.Fast.runLY_eq, ← PySem.W.Fast.runRY_eq] at e
  exact e
end NQ
end
section
open PySem PySem.W PyProof.Rows
set_option maxHeartbeats 0
namespace NQ
noncomputable def dLaw : DefRec := match defOf qV (Str.ofString "law") with
  | some (d, _) => d
  | none => { name := Str.ofString "", params := fnPrm (.Pass ⟨0, 0, 0, 0⟩), body := [], scope := fnScp (.Pass ⟨0, 0, 0, 0⟩), pos := ⟨0, 0, 0, 0⟩ }
theorem holds_of_walk (call : WalkO qV looseV (XL qV []) hook.says rwT.row.toRowW dLaw [] (fun f vs => PySem.call f vs)) : PySem.Challenge.rw_nq0200_01.Holds := by
  rw [rw_eq]
  w_on
  o_law
  refine PySem.W.holds_open (q := qV) (loose := looseV) (Xt := xtV) (XP := XL qV []) (Yf := obsV) (Ya := valV) (YP := hook.says) (N := 10000) (d := dLaw) (kwd := []) left_all hook.of hook.keeps
    (fun s e => xl_of s (Bool.and_eq_true_iff.mp e).1) XL.keeps (by kernel_rfl) (by kernel_rfl) (by kernel_rfl) (fun s e => recFacts_of (Bool.and_eq_true_iff.mp e).2) (by rfl) (by assumption) (by decide +kernel)
    ⟨rfl, rfl, rfl, rfl, rfl, by decide +kernel⟩ ?hw call
  refine ⟨[.list []], ?_, ?_⟩ <;> decide +kernel
end NQ
end
open PySem PySem.W PyProof.Rows
namespace NQ
/-! ## the walk's own layer: no exception is ever raised; tokens are forgotten -/
noncomputable abbrev pw : Program := pwT
noncomputable def Like (s s' : Shared) : Prop := s'.gens = s.gens ∧ s'.drawn = s.drawn ∧ s'.os = s.os
theorem Like.rfl' {s : Shared} : Like s s := ⟨rfl, rfl, rfl⟩
theorem Like.trans {a b c : Shared} (x : Like a b) (y : Like b c) : Like a c := ⟨y.1.trans x.1, y.2.1.trans x.2.1, y.2.2.trans x.2.2⟩
noncomputable def W {α : Type} (w : World) (A : Around) (t : Sem α) (h : Heap) (P : α → Heap → Prop) : Prop :=
  ∀ s : Shared, s.heap = h → wpAny (model pw w) A t (fun v s' => Like s s' ∧ P v s'.heap) (fun _ _ => False) s
section core
variable {α β : Type} {w : World} {A : Around} {h : Heap}
theorem W.run {t : Sem α} {P : α → Heap → Prop} {s s₀ : Shared} {Q : α → Shared → Prop} {E : Value → Shared → Prop} (H : W w A t h P) (hs : s.heap = h) (hl : Like s₀ s)
    (k : ∀ v s', Like s₀ s' → P v s'.heap → Q v s') : wpAny (model pw w) A t Q E s :=
  wpAny_mono (H s hs) (fun v s' x => k v s' (hl.trans x.1) x.2) fun _ _ x => x.elim
theorem W.mono {t : Sem α} {P P' : α → Heap → Prop} (H : W w A t h P) (k : ∀ v h', P v h' → P' v h') : W w A t h P' :=
  fun s hs => H.run hs .rfl' fun v s' l p => ⟨l, k v _ p⟩
theorem W.pure {a : α} {P : α → Heap → Prop} (p : P a h) : W w A (Pure.pure a) h P := fun s hs => wpAny_pure ⟨.rfl', hs ▸ p⟩
/-- what comes behind is told by a letter -/
theorem W.hide {t : Sem α} {P : α → Heap → Prop} (H : ∀ Q : α → Heap → Prop, (∀ v h', P v h' → Q v h') → W w A t h Q) : W w A t h P := H P fun _ _ x => x
theorem W.hideU {t : Sem Unit} {s : Sem Flow} {P : Flow → Heap → Prop} (H : ∀ Q : Flow → Heap → Prop, (∀ f h', P f h' → Q f h') → W w A t h fun _ h₂ => W w A s h₂ Q) : W w A t h fun _ h₂ => W w A s h₂ P := H P fun _ _ x => x
theorem W.hideB {t : Sem Bool} {s s' : Sem Flow} {P P' : Flow → Heap → Prop} (H : ∀ Q : Flow → Heap → Prop, (∀ f h', P f h' → Q f h') → W w A t h fun b h₁ => if b = true then W w A s h₁ Q else W w A s' h₁ P') : W w A t h fun b h₁ => if b = true then W w A s h₁ P else W w A s' h₁ P' := H P fun _ _ x => x
end core

/-! ### heaps -/
noncomputable abbrev Ext (g h : Heap) : Prop := ∀ b o, g.get? b = some o → h.get? b = some o
theorem Ext.refl (h : Heap) : Ext h h := fun _ _ e => e
theorem Ext.trans {a b c : Heap} (x : Ext a b) (y : Ext b c) : Ext a c := fun b o e => y b o (x b o e)
theorem Ext.push (h : Heap) (o : Obj) : Ext h (h.push o) := fun _ _ e => Heap.get?_push_of_some o e
/-- all but the places of a list stays -/
noncomputable abbrev ExtB (as : List Addr) (h h' : Heap) : Prop := ∀ b o, b ∉ as → h.get? b = some o → h'.get? b = some o
/-- a frame at L with its names, what stays (g), what this frame's text turns (mu) -/
structure St (g : Heap) (L : Addr) (h : Heap) (m : Str → Option Value) (mu : List (Addr × Obj)) : Prop where
  ns : h.Ns L m
  keep : Ext g h
  gL : g.get? L = none
  mus : ∀ p ∈ mu, h.get? p.1 = some p.2 ∧ p.1 ≠ L ∧ g.get? p.1 = none
  nd : (mu.map (·.1)).Nodup
section st
variable {g h h' : Heap} {L a : Addr} {m m' : Str → Option Value} {mu : List (Addr × Obj)} {o : Obj}
theorem get_size (h : Heap) : h.get? h.objs.size = none := by
  cases q : h.get? h.objs.size with
  | none => rfl
  | some o => exact absurd (Heap.lt_size q) (Nat.lt_irrefl _)
theorem get_above {h : Heap} {a : Addr} (x : h.objs.size ≤ a) : h.get? a = none := by
  cases q : h.get? a with
  | none => rfl
  | some o => exact absurd (Heap.lt_size q) (Nat.not_lt.mpr x)
theorem St.set (S : St g L h m mu) (hn : h'.Ns L m') (hs : Heap.SameBut L h h') : St g L h' m' mu :=
  ⟨hn, fun b o e => (hs.2 b fun q => by rw [q, S.gL] at e; cases e).trans (S.keep b o e), S.gL, fun p hp => ⟨(hs.2 _ (S.mus p hp).2.1).trans (S.mus p hp).1, (S.mus p hp).2⟩, S.nd⟩
theorem St.ext (S : St g L h m mu) (x : Ext h h') : St g L h' m mu :=
  ⟨S.ns.keeps x, S.keep.trans x, S.gL, fun p hp => ⟨x _ _ (S.mus p hp).1, (S.mus p hp).2⟩, S.nd⟩
theorem St.gsize (S : St g L h m mu) : ∀ a, h.objs.size ≤ a → g.get? a = none := fun a ha => by
  cases q : g.get? a with
  | none => rfl
  | some o => exact absurd (Heap.lt_size (S.keep a o q)) (Nat.not_lt.mpr ha)
/-- a new thing that will be turned -/
theorem St.push (S : St g L h m mu) (o : Obj) (hf : o.isFreed = false := by rfl) : St g L (h.push o) m ((h.objs.size, o) :: mu) where
  ns := S.ns.push o
  keep := S.keep.trans (Ext.push h o)
  gL := S.gL
  mus := fun p hp => by
    rcases List.mem_cons.mp hp with rfl | hp
    · exact ⟨Heap.get?_push_size _ hf, Nat.ne_of_gt S.ns.lt, S.gsize _ (Nat.le_refl _)⟩
    · exact ⟨Heap.get?_push_of_some o (S.mus p hp).1, (S.mus p hp).2⟩
  nd := List.nodup_cons.mpr ⟨fun q => by
    obtain ⟨p, hp, e⟩ := List.mem_map.mp q
    have := Heap.lt_size (S.mus p hp).1
    rw [e] at this
    exact Nat.lt_irrefl _ this, S.nd⟩
theorem mem_ne {pre post : List (Addr × Obj)} (nd : ((pre ++ (a, o) :: post).map (·.1)).Nodup) : (∀ p ∈ pre, p.1 ≠ a) ∧ ∀ p ∈ post, p.1 ≠ a := by
  rw [List.map_append, List.map_cons, List.nodup_append] at nd
  obtain ⟨_, n2, n3⟩ := nd
  rw [List.nodup_cons] at n2
  exact ⟨fun p hp q => n3 p.1 (List.mem_map_of_mem hp) a (.head _) q, fun p hp q => n2.1 (List.mem_map.mpr ⟨p, hp, q⟩)⟩
/-- a thing is turned -/
theorem St.updAt {pre post : List (Addr × Obj)} {o' : Obj} (S : St g L h m (pre ++ (a, o) :: post)) (hs : Heap.ExtBut a h h') (e : h'.get? a = some o') : St g L h' m (pre ++ (a, o') :: post) := by
  have D := S.mus (a, o) (by simp)
  obtain ⟨n1, n2⟩ := mem_ne S.nd
  obtain ⟨oL, es, ep, hL, r⟩ := S.ns
  refine ⟨⟨oL, es, ep, hs _ _ (Ne.symm D.2.1) hL, r⟩, fun b x q => hs b x (fun z => by rw [z, D.2.2] at q; cases q) (S.keep b x q), S.gL, fun p hp => ?_, by simpa using S.nd⟩
  rcases List.mem_append.mp hp with q | q
  · exact ⟨hs _ _ (n1 p q) (S.mus p (List.mem_append_left _ q)).1, (S.mus p (List.mem_append_left _ q)).2⟩
  · rcases List.mem_cons.mp q with rfl | q
    · exact ⟨e, D.2⟩
    · exact ⟨hs _ _ (n2 p q) (S.mus p (List.mem_append_right _ (.tail _ q))).1, (S.mus p (List.mem_append_right _ (.tail _ q))).2⟩
theorem St.upd0 {o' : Obj} {r : List (Addr × Obj)} (S : St g L h m ((a, o) :: r)) (hs : Heap.ExtBut a h h') (e : h'.get? a = some o') : St g L h' m ((a, o') :: r) := St.updAt (pre := []) S hs e
theorem St.upd1 {o' : Obj} {p : Addr × Obj} {r : List (Addr × Obj)} (S : St g L h m (p :: (a, o) :: r)) (hs : Heap.ExtBut a h h') (e : h'.get? a = some o') : St g L h' m (p :: (a, o') :: r) := St.updAt (pre := [p]) S hs e
theorem St.upd2 {o' : Obj} {p p' : Addr × Obj} {r : List (Addr × Obj)} (S : St g L h m (p :: p' :: (a, o) :: r)) (hs : Heap.ExtBut a h h') (e : h'.get? a = some o') : St g L h' m (p :: p' :: (a, o') :: r) := St.updAt (pre := [p, p']) S hs e
theorem St.get0 {r : List (Addr × Obj)} (S : St g L h m ((a, o) :: r)) : h.get? a = some o := (S.mus _ (.head _)).1
theorem St.get1 {p : Addr × Obj} {r : List (Addr × Obj)} (S : St g L h m (p :: (a, o) :: r)) : h.get? a = some o := (S.mus _ (.tail _ (.head _))).1
theorem St.get2 {p p' : Addr × Obj} {r : List (Addr × Obj)} (S : St g L h m (p :: p' :: (a, o) :: r)) : h.get? a = some o := (S.mus _ (.tail _ (.tail _ (.head _)))).1
theorem St.drop0 {p : Addr × Obj} {r : List (Addr × Obj)} (S : St g L h m (p :: r)) : St g L h m r := ⟨S.ns, S.keep, S.gL, fun q hq => S.mus q (.tail _ hq), (List.nodup_cons.mp S.nd).2⟩
theorem St.sub (S : St g L h m mu) {mu' : List (Addr × Obj)} (hs : ∀ p ∈ mu', p ∈ mu) (nd : (mu'.map (·.1)).Nodup) : St g L h m mu' := ⟨S.ns, S.keep, S.gL, fun q hq => S.mus q (hs q hq), nd⟩
theorem St.swap {p q : Addr × Obj} {r : List (Addr × Obj)} (S : St g L h m (p :: q :: r)) : St g L h m (q :: p :: r) :=
  S.sub (fun x hx => by simp only [List.mem_cons] at hx ⊢; rcases hx with h | h | h <;> simp [h]) (by
    have := S.nd
    simp only [List.map_cons, List.nodup_cons, List.mem_cons, not_or] at this ⊢
    exact ⟨⟨Ne.symm this.1.1, this.2.1⟩, this.1.2, this.2.2⟩)
theorem St.as (S : St g L h m mu) (e : m = m') : St g L h m' mu := e ▸ S
/-- what has been made and will not be turned any more stays -/
theorem St.rebase (S : St g L h m mu) : ∃ g', Ext g g' ∧ St g' L h m mu ∧ ∀ b o, h.get? b = some o → b ≠ L → (∀ p ∈ mu, p.1 ≠ b) → g'.get? b = some o := by
  refine ⟨hideAll h (L :: mu.map (·.1)), fun b o e => hideAll_get _ (S.keep b o e) fun q => ?_, ⟨S.ns, fun b o e => of_hideAll _ e, hideAll_none _ (.head _), fun p hp => ⟨(S.mus p hp).1, (S.mus p hp).2.1, hideAll_none _ (.tail _ (List.mem_map_of_mem hp))⟩, S.nd⟩,
    fun b o e hL hm => hideAll_get _ e fun q => ?_⟩
  · rcases List.mem_cons.mp q with rfl | q
    · rw [S.gL] at e; cases e
    · obtain ⟨p, hp, rfl⟩ := List.mem_map.mp q
      rw [(S.mus p hp).2.2] at e; cases e
  · rcases List.mem_cons.mp q with rfl | q
    · exact hL rfl
    · obtain ⟨p, hp, rfl⟩ := List.mem_map.mp q
      exact hm p hp rfl
theorem St.newIs (S : St g L h m mu) {b : Addr} (x : h.objs.size ≤ b) : b ≠ L ∧ ∀ p ∈ mu, p.1 ≠ b :=
  ⟨fun q => absurd S.ns.lt (by rw [← q]; exact Nat.not_lt.mpr x), fun p hp q => absurd (Heap.lt_size (S.mus p hp).1) (by rw [q]; exact Nat.not_lt.mpr x)⟩
end st

/-! ### the ground: what the top has left -/
structure Gr (w : World) (g : Heap) : Prop where
  k : (kK w.params).In g
  gl : ∃ mg, g.Ns mainGlobals mg
  b : ∃ mb, g.Ns builtinsNs mb ∧ ∀ x : Str, x ≠ "__name__" → mb x = bootBuiltins x
  lim : g.NoLimit
  dig : ∃ mc, g.Ns cStatics mc ∧ mc "sys.int_max_str_digits" = none
theorem Gr.keeps {w : World} {g h : Heap} (G : Gr w g) (x : Ext g h) : Gr w h :=
  ⟨G.k.keeps x, let ⟨mg, a⟩ := G.gl; ⟨mg, a.keeps x⟩, let ⟨mb, a, b⟩ := G.b; ⟨mb, a.keeps x, b⟩, G.lim.keeps x, let ⟨mc, a, b⟩ := G.dig; ⟨mc, a.keeps x, b⟩⟩
/-- room for k calls more -/
structure Room (A : Around) (k : Nat) : Prop where
  hd : A.handled = none
  dp : A.depth + 2 * k < 900
  un : A.units + 100 * k < 9800
section rules
variable {w : World} {A : Around} {h : Heap} {env : Env} {P : Value → Heap → Prop} {F : Flow → Heap → Prop}

/-! ### expressions -/
theorem W_int {i : Int} {k : Nat} {pos : Pos} (p : ∀ t, P (.int i t) h) : W w A (eval (.Constant (.int i) k pos) env) h P := fun s hs => wpAny_Constant_int ⟨⟨rfl, rfl, rfl⟩, hs ▸ p _⟩
theorem W_str {x : Str} {k : Nat} {pos : Pos} (p : ∀ t, P (.str x t) h) : W w A (eval (.Constant (.str x) k pos) env) h P := fun s hs => wpAny_Constant_str ⟨⟨rfl, rfl, rfl⟩, hs ▸ p _⟩
theorem W_bool {b : Bool} {k : Nat} {pos : Pos} (p : P (.bool b) h) : W w A (eval (.Constant (.bool b) k pos) env) h P := fun s hs => wpAny_Constant_bool ⟨.rfl', hs ▸ p⟩
theorem W_none {k : Nat} {pos : Pos} (p : P .none h) : W w A (eval (.Constant .none k pos) env) h P := fun s hs => wpAny_Constant_none ⟨.rfl', hs ▸ p⟩
theorem W_BinOp {l r : Expr} {op : Operator} {pos : Pos} (H : W w A (eval l env) h fun a h₁ => W w A (eval r env) h₁ fun b h₂ => W w A (binaryOp op a b) h₂ P) : W w A (eval (.BinOp l op r pos) env) h P :=
  fun s hs => wpAny_BinOp (H.run hs .rfl' fun a s₁ l₁ p₁ => p₁.run rfl l₁ fun b s₂ l₂ p₂ => p₂.run rfl l₂ fun _ _ l p => ⟨l, p⟩)
theorem W_IfExp {test body orelse : Expr} {pos : Pos} (H : W w A (isTrue test env (eval test env)) h fun b h₁ => if b then W w A (eval body env) h₁ P else W w A (eval orelse env) h₁ P) : W w A (eval (.IfExp test body orelse pos) env) h P :=
  fun s hs => wpAny_IfExp (H.run hs .rfl' fun b s₁ l₁ p₁ => by cases b <;> exact p₁.run rfl l₁ fun _ _ l p => ⟨l, p⟩)
theorem W_attr {x attr : Str} {xp pos : Pos} (H : W w A (eval (.Name x xp) env) h fun o h₁ => W w A (getAttr o attr true) h₁ P) : W w A (eval (.Attribute (.Name x xp) attr pos) env) h P :=
  fun s hs => Attribute_Name_ (H.run hs .rfl' fun a s₁ l₁ p₁ => p₁.run rfl l₁ fun _ _ l p => ⟨l, p⟩)
theorem W_sub {value slice : Expr} {pos : Pos} (H : W w A (eval value env) h fun o h₁ => W w A (eval slice env) h₁ fun i h₂ => W w A (subscriptTail value slice o i) h₂ P) : W w A (eval (.Subscript value slice pos) env) h P :=
  fun s hs => Subscript_ (H.run hs .rfl' fun a s₁ l₁ p₁ => p₁.run rfl l₁ fun b s₂ l₂ p₂ => p₂.run rfl l₂ fun _ _ l p => ⟨l, p⟩)
/-! ### truth -/
variable {B : Bool → Heap → Prop}
theorem T_cmp {l r : Expr} {op : CmpOp} {pos : Pos} {whole : Sem Value} (H : W w A (eval l env) h fun a h₁ => W w A (eval r env) h₁ fun b h₂ => W w A (compareOp op a b) h₂ fun c h₃ => W w A (truthy c) h₃ B)
    (hm : behindInMarks op r = false := by with_unfolding_all rfl) : W w A (isTrue (.Compare l [op] [r] pos) env whole) h B :=
  fun s hs => wpAny_isTrue_Compare1 (H.run hs .rfl' fun a s₁ l₁ p₁ => p₁.run rfl l₁ fun b s₂ l₂ p₂ => p₂.run rfl l₂ fun c s₃ l₃ p₃ => p₃.run rfl l₃ fun _ _ l p => ⟨l, p⟩) hm
theorem T_not {x : Expr} {pos : Pos} {whole : Sem Value} (H : W w A (isTrue x env (eval x env)) h fun b h₁ => B (!b) h₁) : W w A (isTrue (.UnaryOp .Not x pos) env whole) h B :=
  fun s hs => wpAny_isTrue_Not (H.run hs .rfl' fun _ _ l p => ⟨l, p⟩)
theorem T_bool {op : BoolOp} {values : List Expr} {pos : Pos} {whole : Sem Value} (H : W w A (allTrue op values env) h B) : W w A (isTrue (.BoolOp op values pos) env whole) h B :=
  fun s hs => wpAny_isTrue_BoolOp (H.run hs .rfl' fun _ _ l p => ⟨l, p⟩)
theorem T_andNil (p : B true h) : W w A (allTrue .And [] env) h B := W.pure p
theorem T_orNil (p : B false h) : W w A (allTrue .Or [] env) h B := W.pure p
theorem T_and {x : Expr} {rest : List Expr} (H : W w A (isTrue x env (eval x env)) h fun b h₁ => if b then W w A (allTrue .And rest env) h₁ B else B false h₁) : W w A (allTrue .And (x :: rest) env) h B :=
  fun s hs => wpAny_allTrue_And_cons (H.run hs .rfl' fun b s₁ l₁ p₁ => by
    cases b
    · exact ⟨l₁, p₁⟩
    · exact W.run (p₁ : W w A (allTrue .And rest env) s₁.heap B) rfl l₁ fun _ _ l p => ⟨l, p⟩)
theorem T_or {x : Expr} {rest : List Expr} (H : W w A (isTrue x env (eval x env)) h fun b h₁ => if b then B true h₁ else W w A (allTrue .Or rest env) h₁ B) : W w A (allTrue .Or (x :: rest) env) h B :=
  fun s hs => wpAny_allTrue_Or_cons (H.run hs .rfl' fun b s₁ l₁ p₁ => by
    cases b
    · exact W.run (p₁ : W w A (allTrue .Or rest env) s₁.heap B) rfl l₁ fun _ _ l p => ⟨l, p⟩
    · exact ⟨l₁, p₁⟩)
theorem T_val {e : Expr} {whole : Sem Value} (H : W w A whole h fun v h₁ => W w A (truthy v) h₁ B) (he : isTrue e env whole = (do let v ← whole; standAt e.pos; holding [v] (truthy v)) := by with_unfolding_all rfl) : W w A (isTrue e env whole) h B :=
  fun s hs => isTrue_plain (H.run hs .rfl' fun a s₁ l₁ p₁ => p₁.run rfl l₁ fun _ _ l p => ⟨l, p⟩) he
theorem t_bool {b : Bool} (p : B b h) : W w A (truthy (.bool b)) h B := fun s hs => wpAny_truthy_bool ⟨.rfl', hs ▸ p⟩
theorem t_str {x : Str} {t : Tok} (hx : x.length ≤ 2 ^ 40) (p : B ((x.length : Int) != 0) h) : W w A (truthy (.str x t)) h B :=
  fun s hs => P.truthy_str (by omega) ⟨⟨rfl, rfl, rfl⟩, hs ▸ p⟩
theorem ite_t {b : Bool} {X Y : Prop} (e : b = true) (x : X) : if b = true then X else Y := by rw [if_pos e]; exact x
theorem ite_f {b : Bool} {X Y : Prop} (e : b = false) (y : Y) : if b = true then X else Y := by rw [if_neg (by rw [e]; exact Bool.false_ne_true)]; exact y
theorem ite_s {b : Bool} {X Y : Prop} (x : b = true → X) (y : b = false → Y) : if b = true then X else Y := by
  cases b
  · exact ite_f rfl (y rfl)
  · exact ite_t rfl (x rfl)

/-! ### statements -/
noncomputable def Sq (w : World) (A : Around) (env : Env) (rest : List Stmt) (F : Flow → Heap → Prop) (f : Flow) (h : Heap) : Prop := match f with
  | .next => W w A (execs rest env) h F
  | f => F f h
theorem sq_next {rest : List Stmt} (H : W w A (execs rest env) h F) : Sq w A env rest F .next h := H
theorem sq_ret {rest : List Stmt} {v : Value} (p : F (.ret v) h) : Sq w A env rest F (.ret v) h := p
theorem sq_brk {rest : List Stmt} (p : F .brk h) : Sq w A env rest F .brk h := p
theorem sq_cont {rest : List Stmt} (p : F .cont h) : Sq w A env rest F .cont h := p
theorem W_nil (p : F .next h) : W w A (execs [] env) h F := fun s hs => wpAny_execs_nil ⟨.rfl', hs ▸ p⟩
theorem W_cons {st : Stmt} {rest : List Stmt} (H : W w A (exec st env) h (Sq w A env rest F)) : W w A (execs (st :: rest) env) h F :=
  fun s hs => wpAny_execs_cons (H.run hs .rfl' fun f s₁ l₁ p₁ => by
    cases f with
    | next => exact W.run (p₁ : W w A (execs rest env) s₁.heap F) rfl l₁ fun _ _ l p => ⟨l, p⟩
    | brk => exact ⟨l₁, p₁⟩
    | cont => exact ⟨l₁, p₁⟩
    | ret v => exact ⟨l₁, p₁⟩)
variable {rest : List Stmt}
theorem W_asg {x : Str} {xp pos : Pos} {value : Expr} (H : W w A (eval value env) h fun v h₁ => W w A (storeName env x v) h₁ fun _ h₂ => W w A (execs rest env) h₂ F)
    (hs' : swapsWith value (some (.Name x xp)) pos.line env = pure false := by with_unfolding_all rfl) : W w A (execs (.Assign [.Name x xp] value pos :: rest) env) h F :=
  W_cons fun s hs => wpAny_Assign_Name (H.run hs .rfl' fun v s₁ l₁ p₁ => p₁.run rfl l₁ fun _ _ l p => ⟨l, p⟩) hs'
theorem W_asgAttr {o value : Expr} {attr : Str} {xp pos : Pos} (H : W w A (eval value env) h fun v h₁ => W w A (eval o env) h₁ fun ov h₂ => W w A (setAttr ov attr v) h₂ fun _ h₃ => W w A (execs rest env) h₃ F)
    (hs' : swapsWith value (some (.Attribute o attr xp)) pos.line env = pure false := by with_unfolding_all rfl) : W w A (execs (.Assign [.Attribute o attr xp] value pos :: rest) env) h F :=
  W_cons fun s hs => plainObj_wpAny_Assign_Attribute (H.run hs .rfl' fun v s₁ l₁ p₁ => p₁.run rfl l₁ fun _ s₂ l₂ p₂ => p₂.run rfl l₂ fun _ _ l p => ⟨l, p⟩) hs'
theorem W_asgSub {o i value : Expr} {xp pos : Pos} (H : W w A (eval value env) h fun v h₁ => W w A (eval o env) h₁ fun ov h₂ => W w A (eval i env) h₂ fun iv h₃ => W w A (setItem ov iv v) h₃ fun _ h₄ => W w A (execs rest env) h₄ F)
    (hs' : swapsWith value (some (.Subscript o i xp)) pos.line env = pure false := by with_unfolding_all rfl) : W w A (execs (.Assign [.Subscript o i xp] value pos :: rest) env) h F :=
  W_cons fun s hs => wpAny_Assign_Subscript (H.run hs .rfl' fun v s₁ l₁ p₁ => p₁.run rfl l₁ fun _ s₂ l₂ p₂ => p₂.run rfl l₂ fun _ s₃ l₃ p₃ => p₃.run rfl l₃ fun _ _ l p => ⟨l, p⟩) hs'
theorem W_aug {x : Str} {xp pos : Pos} {op : Operator} {value : Expr} (H : W w A (loadName env x) h fun old h₁ => W w A (eval value env) h₁ fun v h₂ => W w A (inplaceOp op old v) h₂ fun r h₃ => W w A (storeName env x r) h₃ fun _ h₄ => W w A (execs rest env) h₄ F) :
    W w A (execs (.AugAssign (.Name x xp) op value pos :: rest) env) h F :=
  W_cons fun s hs => wpAny_AugAssign_Name (H.run hs .rfl' fun v s₁ l₁ p₁ => p₁.run rfl l₁ fun _ s₂ l₂ p₂ => p₂.run rfl l₂ fun _ s₃ l₃ p₃ => p₃.run rfl l₃ fun _ _ l p => ⟨l, p⟩)
theorem W_augAttr {o value : Expr} {attr : Str} {xp pos : Pos} {op : Operator} (H : W w A (eval o env) h fun ov h₁ => W w A (getAttr ov attr true) h₁ fun old h₂ => W w A (eval value env) h₂ fun v h₃ => W w A (inplaceOp op old v) h₃ fun r h₄ => W w A (setAttr ov attr r) h₄ fun _ h₅ => W w A (execs rest env) h₅ F) :
    W w A (execs (.AugAssign (.Attribute o attr xp) op value pos :: rest) env) h F :=
  W_cons fun s hs => wpAny_AugAssign_AttributeAny (H.run hs .rfl' fun v s₁ l₁ p₁ => p₁.run rfl l₁ fun _ s₂ l₂ p₂ => p₂.run rfl l₂ fun _ s₃ l₃ p₃ => p₃.run rfl l₃ fun _ s₄ l₄ p₄ => p₄.run rfl l₄ fun _ _ l p => ⟨l, p⟩)
theorem W_augSub {o i value : Expr} {xp pos : Pos} {op : Operator} (H : W w A (eval o env) h fun ov h₁ => W w A (eval i env) h₁ fun iv h₂ => W w A (getItem ov iv) h₂ fun old h₃ => W w A (eval value env) h₃ fun v h₄ => W w A (inplaceOp op old v) h₄ fun r h₅ => W w A (setItem ov iv r) h₅ fun _ h₆ => W w A (execs rest env) h₆ F)
    (hi : ∀ ov iv new, augStore i ov iv new = (do holding [new, ov, iv] (setItem ov iv new); release [new, ov, iv] []; pure .next) := by intros; with_unfolding_all rfl) : W w A (execs (.AugAssign (.Subscript o i xp) op value pos :: rest) env) h F :=
  W_cons fun s hs => wpAny_AugAssign_SubscriptAny (H.run hs .rfl' fun v s₁ l₁ p₁ => p₁.run rfl l₁ fun _ s₂ l₂ p₂ => p₂.run rfl l₂ fun _ s₃ l₃ p₃ => p₃.run rfl l₃ fun _ s₄ l₄ p₄ => p₄.run rfl l₄ fun _ s₅ l₅ p₅ => p₅.run rfl l₅ fun _ _ l p => ⟨l, p⟩) hi
theorem W_expr {e : Expr} {pos : Pos} (H : W w A (eval e env) h fun _ h₁ => W w A (execs rest env) h₁ F) (hi : interactive env = false := by with_unfolding_all rfl) (hs' : swapsWith e none pos.line env = pure false := by with_unfolding_all rfl) :
    W w A (execs (.Expr e pos :: rest) env) h F :=
  W_cons fun s hs => wpAny_Expr_any (H.run hs .rfl' fun _ _ l p => ⟨l, p⟩) hi hs'
theorem W_ret {e : Expr} {pos : Pos} (H : W w A (eval e env) h fun v h₁ => F (.ret v) h₁) : W w A (execs (.Return (some e) pos :: rest) env) h F :=
  W_cons fun s hs => wpAny_Return_some (H.run hs .rfl' fun _ _ l p => ⟨l, p⟩)
theorem W_brk {pos : Pos} (p : F .brk h) : W w A (execs (.Break pos :: rest) env) h F := W_cons fun s hs => wpAny_Break ⟨.rfl', hs ▸ p⟩
theorem W_cnt {pos : Pos} (p : F .cont h) : W w A (execs (.Continue pos :: rest) env) h F := W_cons fun s hs => wpAny_Continue ⟨.rfl', hs ▸ p⟩
theorem W_if {test : Expr} {body orelse : List Stmt} {pos : Pos}
    (H : W w A (isTrue test env (eval test env)) h fun b h₁ => if b then W w A (execs body env) h₁ (Sq w A env rest F) else W w A (execs orelse env) h₁ (Sq w A env rest F)) : W w A (execs (.If test body orelse pos :: rest) env) h F :=
  W_cons fun s hs => wpAny_If (H.run hs .rfl' fun b s₁ l₁ p₁ => by cases b <;> exact p₁.run rfl l₁ fun _ _ l p => ⟨l, p⟩)

/-! ### loops -/
noncomputable def LpE (I : Nat → Heap → Prop) (n : Nat) (F : Flow → Heap → Prop) (f : Flow) (h : Heap) : Prop := match f with
  | .next => ∃ m, m < n ∧ I m h
  | .cont => ∃ m, m < n ∧ I m h
  | .brk => F .next h
  | .ret v => F (.ret v) h
theorem lp_next {I : Nat → Heap → Prop} {n m : Nat} (hm : m < n) (x : I m h) : LpE I n F .next h := ⟨m, hm, x⟩
theorem lp_cont {I : Nat → Heap → Prop} {n m : Nat} (hm : m < n) (x : I m h) : LpE I n F .cont h := ⟨m, hm, x⟩
theorem lp_brk {I : Nat → Heap → Prop} {n : Nat} (x : F .next h) : LpE I n F .brk h := x
theorem lp_ret {I : Nat → Heap → Prop} {n : Nat} {v : Value} (x : F (.ret v) h) : LpE I n F (.ret v) h := x
theorem W_while {test : Expr} {body orelse : List Stmt} {pos : Pos} (I : Nat → Heap → Prop) (n : Nat) (i0 : I n h)
    (turn : ∀ n h, I n h → W w A (isTrue test env (eval test env)) h fun b h₁ => if b then W w A (execs body env) h₁ (LpE I n (Sq w A env rest F)) else W w A (execs orelse env) h₁ (Sq w A env rest F)) :
    W w A (execs (.While test body orelse pos :: rest) env) h F :=
  W_cons fun s hs => wpAny_While (codeAny_whileLoop (fun n s' => Like s s' ∧ I n s'.heap) (fun n s' x => (turn n s'.heap x.2).run rfl x.1 fun b s₁ l₁ p₁ => by
    cases b
    · exact W.run (p₁ : W w A (execs orelse env) s₁.heap _) rfl l₁ fun f s₂ l₂ p₂ => ⟨l₂, p₂⟩
    · refine W.run (p₁ : W w A (execs body env) s₁.heap _) rfl l₁ fun f s₂ l₂ p₂ => ?_
      cases f with
      | next => obtain ⟨m, hm, x⟩ := p₂; exact ⟨m, hm, l₂, x⟩
      | cont => obtain ⟨m, hm, x⟩ := p₂; exact ⟨m, hm, l₂, x⟩
      | brk => exact ⟨l₂, p₂⟩
      | ret v => exact ⟨l₂, p₂⟩) n ⟨.rfl', hs ▸ i0⟩)
/-- a for over any iterator, by what holds at its turns -/
noncomputable def FT (w : World) (A : Around) (env : Env) (target : Expr) (it : Value) (body orelse : List Stmt) (I : Nat → Heap → Prop) (n : Nat) (F : Flow → Heap → Prop) (r : Option Value) (h : Heap) : Prop := match r with
  | none => W w A (execs orelse env) h F
  | some v => W w A (letOwnedTupleGo target it v) h fun _ h₁ => W w A (assign target env v) h₁ fun _ h₂ => W w A (execs body env) h₂ (LpE I n F)
theorem W_for {target iter : Expr} {body orelse : List Stmt} {pos : Pos} (H : W w A (eval iter env) h fun x h₁ => W w A (pyIter x) h₁ fun it h₂ => ∃ (I : Nat → Heap → Prop) (n : Nat), I n h₂ ∧
      ∀ n h, I n h → W w A (pyNext it) h (FT w A env target it body orelse I n (Sq w A env rest F)))
    (hf : ∀ x, foldedSetIterable iter env x = pure x := by intro _; with_unfolding_all rfl) : W w A (execs (.For target iter body orelse pos :: rest) env) h F :=
  W_cons fun s hs => wpAny_For (H.run hs .rfl' fun x s₁ l₁ p₁ => p₁.run rfl l₁ fun it s₂ l₂ p₂ => by
    obtain ⟨I, n, i0, turn⟩ := p₂
    refine codeAny_forLoop_any (fun n s' => Like s s' ∧ I n s'.heap) (fun n s' x => (turn n s'.heap x.2).run rfl x.1 fun r s₃ l₃ p₃ => ?_) n ⟨l₂, i0⟩
    cases r with
    | none => exact W.run (p₃ : W w A (execs orelse env) s₃.heap _) rfl l₃ fun f s₂ l₂ p₂ => ⟨l₂, p₂⟩
    | some v =>
      have p₃' : W w A (letOwnedTupleGo target it v) s₃.heap fun _ h₁ => W w A (assign target env v) h₁ fun _ h₂ => W w A (execs body env) h₂ (LpE I n (Sq w A env rest F)) := p₃
      refine W.run p₃' rfl l₃ fun _ s₄ l₄ p₄ => p₄.run rfl l₄ fun _ s₅ l₅ p₅ => p₅.run rfl l₅ fun f s₆ l₆ p₆ => ?_
      cases f with
      | next => obtain ⟨m, hm, x⟩ := p₆; exact ⟨m, hm, l₆, x⟩
      | cont => obtain ⟨m, hm, x⟩ := p₆; exact ⟨m, hm, l₆, x⟩
      | brk => exact ⟨l₆, p₆⟩
      | ret v => exact ⟨l₆, p₆⟩) hf

/-! ### names -/
theorem W_ld {g : Heap} {L : Addr} {m : Str → Option Value} {mu : List (Addr × Obj)} {x : Str} {v : Value} (S : St g L h m mu) (hL : env.locals = L) (hk : env.scope.kind = .function) (hl : env.kindOf x = some .local) (hv : m x = some v) (p : P v h) : W w A (loadName env x) h P :=
  fun s hs => wpAny_loadName_local hk hl (by rw [hL, hs]; exact S.ns) hv ⟨.rfl', hs ▸ p⟩
theorem W_name {x : Str} {pos : Pos} (H : W w A (loadName env x) h P) (hd : (x == ("__debug__" : Str)) = false) : W w A (eval (.Name x pos) env) h P :=
  fun s hs => wpAny_Name (H.run hs .rfl' fun _ _ l p => ⟨l, p⟩) hd
theorem W_st {g : Heap} {L : Addr} {m : Str → Option Value} {mu : List (Addr × Obj)} {x : Str} {v : Value} {U : Unit → Heap → Prop} (S : St g L h m mu) (hL : env.locals = L) (hk : env.scope.kind = .function) (hl : env.kindOf x = some .local)
    (p : ∀ h', h'.objs.size = h.objs.size → St g L h' (fun y => if y = x then some v else m y) mu → U () h') : W w A (storeName env x v) h U :=
  fun s hs => wpAny_storeName_local hl (by rw [hL, hs]; exact S.ns) (fun h' hn hsb => ⟨⟨rfl, rfl, rfl⟩, p h' (by rw [← hs]; exact hsb.1) (S.set (by rw [hL] at hn; exact hn) (by rw [hL, hs] at hsb; exact hsb))⟩)
    (by rw [hk]; rfl)

/-! ### int, str -/
variable {a b : Int} {t u : Tok} {x y : Str}
theorem o_add (p : ∀ t, P (.int (a + b) t) h) : W w A (binaryOp .Add (.int a t) (.int b u)) h P := fun s hs => add_int ⟨⟨rfl, rfl, rfl⟩, hs ▸ p _⟩
theorem o_iadd (p : ∀ t, P (.int (a + b) t) h) : W w A (inplaceOp .Add (.int a t) (.int b u)) h P := fun s hs => iadd_int ⟨⟨rfl, rfl, rfl⟩, hs ▸ p _⟩
theorem o_sub (p : ∀ t, P (.int (a - b) t) h) : W w A (binaryOp .Sub (.int a t) (.int b u)) h P := fun s hs => sub_int ⟨⟨rfl, rfl, rfl⟩, hs ▸ p _⟩
theorem o_mod (hb : b ≠ 0) (p : ∀ t, P (.int (a.fmod b) t) h) : W w A (binaryOp .Mod (.int a t) (.int b u)) h P := fun s hs => mod_int hb ⟨⟨rfl, rfl, rfl⟩, hs ▸ p _⟩
theorem o_mul (hm : IntMulOk a b) (p : ∀ t, P (.int (a * b) t) h) : W w A (binaryOp .Mult (.int a t) (.int b u)) h P := fun s hs => mul_int ⟨⟨rfl, rfl, rfl⟩, hs ▸ p _⟩ hm
theorem o_lt (p : P (.bool (decide (a < b))) h) : W w A (compareOp .Lt (.int a t) (.int b u)) h P := fun s hs => lt_int ⟨.rfl', hs ▸ p⟩
theorem o_gt (p : P (.bool (decide (b < a))) h) : W w A (compareOp .Gt (.int a t) (.int b u)) h P := fun s hs => gt_int ⟨.rfl', hs ▸ p⟩
theorem o_ge (p : P (.bool (decide (b ≤ a))) h) : W w A (compareOp .GtE (.int a t) (.int b u)) h P := fun s hs => ge_int ⟨.rfl', hs ▸ p⟩
theorem o_eq (p : P (.bool (a == b)) h) : W w A (compareOp .Eq (.int a t) (.int b u)) h P := fun s hs => eq_int ⟨.rfl', hs ▸ p⟩
theorem o_ne (p : P (.bool (a != b)) h) : W w A (compareOp .NotEq (.int a t) (.int b u)) h P := fun s hs => ne_int ⟨.rfl', hs ▸ p⟩
theorem o_eqs (p : P (.bool (x == y)) h) : W w A (compareOp .Eq (.str x t) (.str y u)) h P := fun s hs => eq_str ⟨.rfl', hs ▸ p⟩
theorem o_nes (p : P (.bool (x != y)) h) : W w A (compareOp .NotEq (.str x t) (.str y u)) h P := fun s hs => ne_str ⟨.rfl', hs ▸ p⟩
theorem o_eqsn (p : P (.bool false) h) : W w A (compareOp .Eq (.str x t) .none) h P := fun s hs => EqNone.eq_str_none ⟨.rfl', hs ▸ p⟩
theorem o_eqnn (p : P (.bool true) h) : W w A (compareOp .Eq .none .none) h P := fun s hs => EqNone.eq_none_none ⟨.rfl', hs ▸ p⟩
theorem o_ins (p : P (.bool !(Builtin.Str.occurrences x y 0 x.length 1).isEmpty) h) : W w A (compareOp .In (.str y u) (.str x t)) h P := fun s hs => in_str ⟨.rfl', hs ▸ p⟩
theorem o_adds (hsz : x.length + y.length ≤ sizeLine) (p : ∀ t, P (.str (x ++ y) t) h) : W w A (binaryOp .Add (.str x t) (.str y u)) h P := fun s hs => add_str (fun t' tk => ⟨⟨rfl, rfl, rfl⟩, hs ▸ p _⟩) hsz
theorem o_iadds (hsz : x.length + y.length ≤ sizeLine) (p : ∀ t, P (.str (x ++ y) t) h) : W w A (inplaceOp .Add (.str x t) (.str y u)) h P := fun s hs => iadd_str (fun t' tk => ⟨⟨rfl, rfl, rfl⟩, hs ▸ p _⟩) hsz
end rules
/-- a frame's names and what they hold -/
noncomputable def frL : List Str → List (Option Value) → Str → Option Value
  | n :: ns, v :: vs, y => if y = n then v else frL ns vs y
  | _, _, _ => none
theorem frL_set {x : Str} {v : Value} : ∀ {ns : List Str} {vs : List (Option Value)} (i : Nat), ns[i]? = some x → i < vs.length → x ∉ ns.take i → (fun y => if y = x then some v else frL ns vs y) = frL ns (vs.set i (some v))
  | [], _, i, h, _, _ => by simp at h
  | n :: ns, [], i, _, h, _ => by simp at h
  | n :: ns, u :: vs, 0, h, _, _ => by
    obtain rfl : n = x := by simpa using h
    funext y
    show (if y = n then some v else if y = n then u else frL ns vs y) = if y = n then some v else frL ns vs y
    by_cases q : y = n
    · rw [if_pos q, if_pos q]
    · rw [if_neg q, if_neg q, if_neg q]
  | n :: ns, u :: vs, i + 1, h, hl, hn => by
    have hne : x ≠ n := fun q => hn (by rw [q]; exact List.mem_cons_self)
    have ih := frL_set (v := v) (ns := ns) (vs := vs) i (by simpa using h) (by simpa using hl) (fun q => hn (List.mem_cons_of_mem _ q))
    funext y
    show (if y = x then some v else if y = n then u else frL ns vs y) = if y = n then u else frL ns (vs.set i (some v)) y
    rw [← ih]
    show _ = if y = n then u else if y = x then some v else frL ns vs y
    by_cases q : y = x
    · rw [if_pos q, if_neg (fun z => hne (q.symm.trans z)), if_pos q]
    · rw [if_neg q, if_neg q]
section
variable {w : World} {A : Around} {h g : Heap} {env : Env} {P : Value → Heap → Prop} {L : Addr} {m : Str → Option Value} {mu : List (Addr × Obj)} {x : Str} {v : Value} {pos : Pos}
theorem W_nameL (S : St g L h m mu) (hL : env.locals = L) (hk : env.scope.kind = .function) (hl : env.kindOf x = some .local) (hd : (x == ("__debug__" : Str)) = false) (hv : m x = some v) (p : P v h) : W w A (eval (.Name x pos) env) h P :=
  W_name (W_ld S hL hk hl hv p) hd
theorem W_nameG (G : Gr w g) (x' : Ext g h) (hg : env.globals = mainGlobals) (hk : env.scope.kind = .function) (hl : env.kindOf x = some .globalImplicit) (hd : (x == ("__debug__" : Str)) = false)
    (hv : nsIn (kK w.params) mainGlobals x = some (some v)) (p : P v h) : W w A (eval (.Name x pos) env) h P := fun s hs => by
  obtain ⟨mg, n⟩ := (G.keeps x').gl
  exact Calls.Name_function_global hk hl (Calls.loadGlobal_global (by rw [hg, hs]; exact n) (mg_of (G.keeps x').k n hv) ⟨.rfl', hs ▸ p⟩) hd
theorem W_nameB (G : Gr w g) (x' : Ext g h) (hg : env.globals = mainGlobals) (hb : env.builtins = builtinsNs) (hk : env.scope.kind = .function) (hl : env.kindOf x = some .globalImplicit) (hd : (x == ("__debug__" : Str)) = false)
    (hv : nsIn (kK w.params) mainGlobals x = some none) (hn : x ≠ "__name__") (hb' : bootBuiltins x = some v) (p : P v h) : W w A (eval (.Name x pos) env) h P := fun s hs => by
  obtain ⟨mg, n⟩ := (G.keeps x').gl
  obtain ⟨mb, b1, b2⟩ := (G.keeps x').b
  exact Calls.Name_function_global hk hl (Calls.loadGlobal_builtin (by rw [hg, hs]; exact n) (mg_none_of (G.keeps x').k n hv) (by rw [hb, hs]; exact b1) ((b2 x hn).trans hb') ⟨.rfl', hs ▸ p⟩) hd
end

/-! ### calls of the text's own defs -/
theorem get_ext {g h : Heap} (x : Ext g h) : g.get? h.objs.size = none := by
  cases q : g.get? h.objs.size with
  | none => rfl
  | some o => have := x _ _ q; rw [get_size] at this; cases this
noncomputable def retOf : Flow → Value
  | .ret v => v
  | _ => .none
theorem lookup_none {y : Str} : ∀ {l : List (Str × Value)}, y ∉ l.map (·.1) → l.lookup y = none
  | [], _ => rfl
  | (k, v) :: r, h => by
    have h1 : (y == k) = false := beq_eq_false_iff_ne.mpr fun q => h (by simp [q])
    rw [List.lookup_cons, h1]
    exact lookup_none fun q => h (by simp only [List.map_cons]; exact List.mem_cons_of_mem _ q)
theorem lookup_app {y : Str} {k : Str} {v : Value} : ∀ {l : List (Str × Value)}, (l ++ [(k, v)]).lookup y = match l.lookup y with | some u => some u | none => if y = k then some v else none
  | [] => by
    by_cases q : y = k
    · subst q; simp
    · have : (y == k) = false := beq_eq_false_iff_ne.mpr q
      simp [List.lookup, this, q]
  | (k', v') :: r => by
    cases q : (y == k') with
    | true => simp [List.lookup_cons, q]
    | false => rw [List.cons_append, List.lookup_cons, List.lookup_cons, q]; exact lookup_app
theorem frL_binds : ∀ {ns : List Str} {as : List Value} {rest : List Str}, ns.Nodup → ns.length = as.length → (fun y => (ns.zip as).reverse.lookup y) = frL (ns ++ rest) (as.map some ++ rest.map fun _ => none)
  | [], [], rest, _, _ => by
    funext y
    show none = frL rest (rest.map fun _ => none) y
    induction rest with
    | nil => rfl
    | cons a r ih => show none = if y = a then none else frL r (r.map fun _ => none) y; rw [← ih]; split <;> rfl
  | [], _ :: _, _, _, h => by cases h
  | _ :: _, [], _, _, h => by cases h
  | n :: ns, a :: as, rest, hn, hl => by
    have ih := frL_binds (rest := rest) (List.nodup_cons.mp hn).2 (by simpa using hl : ns.length = as.length)
    funext y
    show ((n, a) :: ns.zip as).reverse.lookup y = if y = n then some a else frL (ns ++ rest) (as.map some ++ rest.map fun _ => none) y
    rw [← ih, List.reverse_cons, lookup_app]
    by_cases q : y = n
    · subst q
      rw [lookup_none (l := (ns.zip as).reverse) (fun z => (List.nodup_cons.mp hn).1 ?_)]
      · simp
      · rw [List.map_reverse, List.mem_reverse] at z
        obtain ⟨p, hp, e⟩ := List.mem_map.mp z
        rw [← e]
        exact (List.of_mem_zip hp).1
    · simp only [q, if_false]
      cases (ns.zip as).reverse.lookup y <;> rfl
section
variable {w : World} {A : Around} {g h : Heap} {P : Value → Heap → Prop} {env : Env}
/-- a call as code: it comes back with a value -/
noncomputable def RV (s : Shared) (P : Value → Heap → Prop) (r : Result) (s' : Shared) : Prop := match r with
  | .ok (.ret v) => Like s s' ∧ P v s'.heap
  | _ => False
noncomputable def WC (w : World) (A : Around) (c : Code) (h : Heap) (P : Value → Heap → Prop) : Prop := ∀ s : Shared, s.heap = h → codeAny (model pw w) A c (RV s P) s
theorem WC.run {c : Code} {s s₀ : Shared} {R : Result → Shared → Prop} (H : WC w A c h P) (hs : s.heap = h) (hl : Like s₀ s) (k : ∀ v s', Like s₀ s' → P v s'.heap → R (.ok (.ret v)) s') : codeAny (model pw w) A c R s :=
  codeAny_mono (H s hs) fun r s' z => by
    rcases r with e | f
    · exact z.elim
    · cases f with
      | ret v => exact k v s' (hl.trans z.1) z.2
      | _ => exact z.elim
theorem WC.call {f : Value} {args : List Value} {kw : List (Str × Value)} (H : WC w A (.call f ⟨args, kw⟩) h P) : W w A (PySem.call f args kw) h P :=
  fun s hs => wpAny_call (H.run hs .rfl' fun v s' l p => ⟨l, p⟩)
theorem W_call_def {f : Addr} {fd : FuncData} {body : List Stmt} {args : List Value} {kw : List (Str × Value)} {ns rest : List Str} {as : List Value} {mu : List (Addr × Obj)}
    (G : Gr w g) (x : Ext g h) (hm : ∀ p ∈ mu, h.get? p.1 = some p.2 ∧ g.get? p.1 = none) (nd : (mu.map (·.1)).Nodup) (hA : A.depth < 900)
    (hK : (kK w.params).lookup f = some ⟨.type "function", none, .func fd, [].toArray⟩) (hcd : codeIn (kK w.params) fd.code fd.qualname = true) (hbody : fd.body = .stmts body)
    (hbind : ∀ s : Shared, (kK w.params).In s.heap → BindsTo s fd ⟨args, kw⟩ (ns.zip as)) (hlen : ns.length = as.length) (hnd : decide ns.Nodup = true)
    (hcell : fd.scope.names.all (fun y => y.2 != .cell) = true) (hloc : ns.all (fun y => fd.scope.names.lookup y == some .local) = true)
    (hco : fd.scope.isCoroutine = false) (hgen : fd.scope.isGenerator = false) (hk : fd.scope.kind = .function)
    (H : ∀ L h₁, L = h.objs.size → St g L h₁ (frL (ns ++ rest) (as.map some ++ rest.map fun _ => none)) mu → Ext h h₁ → W w (A.deeper (callEnv fd L f)) (execs body (callEnv fd L f)) h₁ fun fl h' => P (retOf fl) h') :
    WC w A (.call (.ref f) ⟨args, kw⟩) h P := fun s hs => by
  have X := G.k.keeps x
  subst hs
  refine (codeAny_call_def (Nat.lt_trans hA (by decide)) (X _ _ hK) rfl (G.lim.keeps x) (codeRec_of X hcd) hbody (hbind s X) (fun y hy => ?_) (fun y hy => ?_) (fun h₁ hns hk₁ => ?_) hco hgen hk)
  · have := List.all_eq_true.mp hcell y hy
    intro q; rw [q] at this; cases this
  · have := List.all_eq_true.mp hloc y.1 (List.of_mem_zip hy).1
    simpa using this
  · rw [frL_binds (rest := rest) (of_decide_eq_true hnd) hlen] at hns
    have S : St g s.heap.objs.size h₁ (frL (ns ++ rest) (as.map some ++ rest.map fun _ => none)) mu := ⟨hns, x.trans hk₁, get_ext x, fun p hp => ⟨hk₁ _ _ (hm p hp).1, Nat.ne_of_lt (Heap.lt_size (hm p hp).1), (hm p hp).2⟩, nd⟩
    refine W.run (H _ h₁ rfl S hk₁) (s := { s with heap := h₁, toks := s.toks + (ns.zip as).length }) rfl (s₀ := s) ⟨rfl, rfl, rfl⟩ fun fl s' l p => ?_
    exact ⟨l, by cases fl <;> exact p⟩
/-- a call of a def, its arguments first -/
theorem W_cwA {pos : Pos} {f : Value} {first : List Value} {e : Expr} {rest : List Expr} (hk : keepIn (kK w.params) f = true)
    (H : W w A (spliced (backTo pos (starEach (e :: rest) env))) h fun vs h₁ => (kK w.params).In h₁ ∧ W w A (call f (first ++ vs)) h₁ P)
    (he : starEach (e :: rest) env = (false, eval e env) :: starEach rest env) (hp : (backTo pos (starEach rest env)).any (·.1) = false) :
    W w A (callWith pos f first (backTo pos (starEach (e :: rest) env)) []) h P :=
  fun s hs => by
    rw [he] at H ⊢
    exact callWith_of (P := (kK w.params).In) (by show ((false || (backTo pos (starEach rest env)).any (·.1)) || false) = false; rw [hp]; rfl) (keeps_K hk)
      (Calls.evalArgs_plain (W.run H hs .rfl' fun vs s₁ l₁ p₁ => ⟨p₁.1, p₁.2.run rfl l₁ fun _ _ l p => ⟨l, p⟩⟩))
theorem W_cw {pos : Pos} {f : Value} {e : Expr} {rest : List Expr} (hk : keepIn (kK w.params) f = true)
    (H : W w A (spliced (backTo pos (starEach (e :: rest) env))) h fun vs h₁ => (kK w.params).In h₁ ∧ W w A (call f vs) h₁ P)
    (he : starEach (e :: rest) env = (false, eval e env) :: starEach rest env := by with_unfolding_all rfl) (hp : (backTo pos (starEach rest env)).any (·.1) = false := by with_unfolding_all rfl) :
    W w A (callWith pos f [] (backTo pos (starEach (e :: rest) env)) []) h P := W_cwA hk H he hp
theorem W_cw1 {pos : Pos} {f self : Value} {e : Expr} {rest : List Expr} (hk : keepIn (kK w.params) f = true)
    (H : W w A (spliced (backTo pos (starEach (e :: rest) env))) h fun vs h₁ => (kK w.params).In h₁ ∧ W w A (call f (self :: vs)) h₁ P)
    (he : starEach (e :: rest) env = (false, eval e env) :: starEach rest env := by with_unfolding_all rfl) (hp : (backTo pos (starEach rest env)).any (·.1) = false := by with_unfolding_all rfl) :
    W w A (callWith pos f [self] (backTo pos (starEach (e :: rest) env)) []) h P := W_cwA hk H he hp
theorem W_cw0 {pos : Pos} {f self : Value} (X : (kK w.params).In h) (hk : keepIn (kK w.params) f = true) (H : W w A (call f [self]) h P) : W w A (callWith pos f [self] (backTo pos (starEach [] env)) []) h P :=
  fun s hs => callWith_K0 (hs ▸ X) hk (H.run hs .rfl' fun _ _ l p => ⟨l, p⟩)
variable {V : List Value → Heap → Prop} {pos : Pos}
theorem W_sp0 (p : V [] h) : W w A (spliced (backTo pos (starEach [] env))) h V := fun s hs => spliced_none ⟨.rfl', hs ▸ p⟩
theorem W_sp {e : Expr} {rest : List Expr} (H : W w A (eval e env) h fun v h₁ => W w A (spliced (backTo pos (starEach rest env))) h₁ fun vs h₂ => V (v :: vs) h₂)
    (he : starEach (e :: rest) env = (false, eval e env) :: starEach rest env := by with_unfolding_all rfl) : W w A (spliced (backTo pos (starEach (e :: rest) env))) h V :=
  fun s hs => spliced_more (H.run hs .rfl' fun v s₁ l₁ p₁ => p₁.run rfl l₁ fun _ _ l p => ⟨l, p⟩) he
theorem W_callN {x : Str} {np : Pos} {args : List Expr} (H : W w A (eval (.Name x np) env) h fun f h₁ => W w A (callWith pos f [] (backTo pos (starEach args env)) []) h₁ P) : W w A (eval (.Call (.Name x np) args [] pos) env) h P :=
  fun s hs => wpAny_Call_NameR (H.run hs .rfl' fun v s₁ l₁ p₁ => p₁.run rfl l₁ fun _ _ l p => ⟨l, p⟩)
theorem callM_eq {o : Expr} {name : Str} {apos : Pos} {args : List Expr} (hb : attributeBase o name env (eval o env) = eval o env)
    (hf : methodCallForm (args.length + 0) (backTo pos (starEach args env)) [] = true) (hl : (apos.endLine == pos.line) = true) :
    eval (.Call (.Attribute o name apos) args [] pos) env = (do
      let ov ← eval o env
      standAt apos.atName
      let (f, first) ← holding [ov] (getMethod ov name (do return (← importBound o env).getD true))
      callWith pos f first (backTo pos (starEach args env)) []) := by
  show (do
    let ov ← attributeBase o name env (eval o env)
    standAt apos.atName
    methodCall o name apos pos env ov (args.length + 0) (backTo pos (starEach args env)) []) = _
  rw [hb]
  unfold methodCall calleeOf methodCallPos
  simp only [hf, hl, Bool.not_true, Bool.false_or, if_true]
  rfl
theorem W_callM {o : Expr} {name : Str} {apos : Pos} {args : List Expr}
    (H : W w A (eval o env) h fun ov h₁ => W w A (getMethod ov name (do return (← importBound o env).getD true)) h₁ fun fx h₂ => W w A (callWith pos fx.1 fx.2 (backTo pos (starEach args env)) []) h₂ P)
    (hb : attributeBase o name env (eval o env) = eval o env := by with_unfolding_all rfl) (hf : methodCallForm (args.length + 0) (backTo pos (starEach args env)) [] = true := by kernel_rfl) (hl : (apos.endLine == pos.line) = true := by kernel_rfl) :
    W w A (eval (.Call (.Attribute o name apos) args [] pos) env) h P :=
  fun s hs => MethodCall_ (H.run hs .rfl' fun v s₁ l₁ p₁ => p₁.run rfl l₁ fun fx s₂ l₂ p₂ => p₂.run rfl l₂ fun _ _ l p => ⟨l, p⟩) (callM_eq hb hf hl)
end

/-! ### objects of a class -/
section
variable {w : World} {A : Around} {h : Heap} {P : Value → Heap → Prop}
/-- a plain dict of names -/
noncomputable def NsO (o : Obj) (m : Str → Option Value) (k : Nat) : Prop := ∃ es n, o = dictOf es n ∧ (∀ e ∈ es, ∃ k t, e.key = .str k t) ∧ es.length ≤ k ∧ ∀ x, (es.find? (·.key.isStr x)).map (·.val) = m x
theorem NsO.look {o : Obj} {m : Str → Option Value} {k : Nat} (N : NsO o m k) (x : Str) : lookIn x o = some (m x) := by
  obtain ⟨es, n, rfl, hk, _, hf⟩ := N
  rw [lookIn_dict, ← hf x]
  unfold PySem.W.getL
  have nr : es.any (·.refKey) = false := by
    rw [List.any_eq_false]
    intro e he
    obtain ⟨k, t, q⟩ := hk e he
    unfold DictEntry.refKey
    rw [q]
    simp
  cases q : es.find? (fun e => e.key.isStr x) with
  | some e => rfl
  | none => simp [nr]
theorem NsO.new : NsO (dictOf [] 0) (fun _ => none) 0 := ⟨[], 0, rfl, fun _ h => (nomatch h), Nat.le_refl _, fun _ => rfl⟩
theorem putL_keys {name : Str} {hsh : Int} {t : Tok} {v : Value} : ∀ {es : List DictEntry}, (∀ e ∈ es, ∃ k t, e.key = .str k t) → ∀ e ∈ putL name hsh (.str name t) v es, ∃ k t, e.key = .str k t
  | [], _, e, he => by cases List.mem_singleton.mp he; exact ⟨_, _, rfl⟩
  | a :: r, hk, e, he => by
    unfold putL at he
    split at he
    · rcases List.mem_cons.mp he with rfl | he
      · exact hk a (.head _)
      · exact hk e (.tail _ he)
    · rcases List.mem_cons.mp he with rfl | he
      · exact hk _ (.head _)
      · exact putL_keys (fun e he => hk e (.tail _ he)) e he
theorem putL_len {name : Str} {hsh : Int} {key v : Value} : ∀ {es : List DictEntry}, (putL name hsh key v es).length = if (es.find? (·.key.isStr name)).isSome then es.length else es.length + 1
  | [] => rfl
  | a :: r => by
    unfold putL
    cases q : a.key.isStr name with
    | true => simp [List.find?_cons, q]
    | false =>
      simp only [Bool.false_eq_true, if_false, List.length_cons, List.find?_cons, q]
      rw [putL_len (es := r)]
      split <;> rfl
theorem putL_find' {name : Str} {hsh : Int} {t : Tok} {v : Value} {x : Str} : ∀ {es : List DictEntry}, (∀ e ∈ es, ∃ k t, e.key = .str k t) →
    ((putL name hsh (.str name t) v es).find? (·.key.isStr x)).map (·.val) = if x = name then some v else (es.find? (·.key.isStr x)).map (·.val)
  | [], _ => by
    show (List.find? _ [_]).map _ = _
    by_cases q : x = name
    · subst q; simp [Value.isStr]
    · have : (name == x) = false := beq_eq_false_iff_ne.mpr (Ne.symm q)
      simp [Value.isStr, this, q]
  | a :: r, hk => by
    obtain ⟨ka, ta, qa⟩ := hk a (.head _)
    unfold putL
    cases q : a.key.isStr name with
    | true =>
      have e : ka = name := by rw [qa] at q; simpa [Value.isStr] using q
      simp only [if_true, List.find?_cons, qa, Value.isStr]
      by_cases z : x = name
      · subst z; subst e; simp
      · have : (ka == x) = false := beq_eq_false_iff_ne.mpr fun y => z (by rw [← y, e])
        simp [this, z]
    | false =>
      have e : ka ≠ name := by rw [qa] at q; simpa [Value.isStr] using q
      simp only [Bool.false_eq_true, if_false, List.find?_cons, qa, Value.isStr]
      by_cases z : ka = x
      · subst z; simp [e]
      · have : (ka == x) = false := beq_eq_false_iff_ne.mpr z
        simp only [this]
        exact putL_find' fun e he => hk e (.tail _ he)
theorem NsO.put {o : Obj} {m : Str → Option Value} {k : Nat} (N : NsO o m k) (name : Str) (hsh : Int) (t : Tok) (v : Value) :
    NsO (Obj.putName name hsh (.str name t) v o) (fun y => if y = name then some v else m y) (if (m name).isSome then k else k + 1) := by
  obtain ⟨es, n, rfl, hk, hl, hf⟩ := N
  refine ⟨_, _, putName_dict _ _ _ _ _ _, putL_keys hk, ?_, fun x => ?_⟩
  · rw [putL_len, ← hf name, Option.isSome_map]
    split <;> omega
  · rw [putL_find' hk, hf x]

theorem W_get {x dx C : Addr} {od : Obj} {m : Str → Option Value} {k : Nat} {name : Str} {v : Value} {attr : Option Value} {ex : Bool} (X : (kK w.params).In h) (hx : h.get? x = some (instObj C dx)) (hd : h.get? dx = some od) (N : NsO od m k)
    (hg : plainGet (kK w.params) C name = true) (hh : hasDictIn (kK w.params) C = true) (ha : findIn (kK w.params) (.ref C) name = some attr) (hn : noGet (kK w.params) attr = true) (hv : m name = some v) (hv' : handedIn v = true) (p : P v h) :
    W w A (getAttr (.ref x) name ex) h P := fun s hs => by
  subst hs
  exact get_value X ⟨hx, rfl, rfl, hd⟩ (plainGet_of hg).1 (findObj_own hh ha hn (by rw [N.look, hv])) hv' ⟨⟨rfl, rfl, rfl⟩, p⟩
/-- a property of the class -/
theorem W_getP {x dx C p fget : Addr} {od : Obj} {name : Str} {rest : List Value} {ex : Bool} (X : (kK w.params).In h) (hx : h.get? x = some (instObj C dx)) (hd : h.get? dx = some od)
    (hg : plainGet (kK w.params) C name = true) (hh : hasDictIn (kK w.params) C = true) (ha : findIn (kK w.params) (.ref C) name = some (some (.ref p))) (hn : specialIn (kK w.params) (.ref p) "__get__" = some (some (.builtin "property.__get__")))
    (ht : takesIn (kK w.params) (.ref p) = some true) (hp : recIn (kK w.params) p "property" = some (.ref fget :: rest)) (H : WC w A.in1 (.call (.ref fget) ⟨[.ref x], []⟩) h fun v h' => handedIn v = true ∧ P v h') :
    W w A (getAttr (.ref x) name ex) h P := fun s hs => by
  subst hs
  refine get_bind X ⟨hx, rfl, rfl, hd⟩ (plainGet_of hg).1 (findObj_data (by obtain ⟨cd, hc, _⟩ := any_some hh; rw [hc]; rfl) ha hn ht) (plainGet_of hg).2 (wpAny_call (prop_get (s := { s with toks := s.toks + 1 }) X hp ?_))
  exact H.run (s := { s with toks := s.toks + 1 }) rfl (s₀ := s) ⟨rfl, rfl, rfl⟩ fun v s' l p => by
    show wpAny _ _ (handedOut v) _ _ _
    rw [handedOut_of p.1]
    exact wpAny_pure ⟨l, p.2⟩
/-- a method of the class -/
theorem W_meth {x dx C f : Addr} {od : Obj} {m : Str → Option Value} {k : Nat} {name : Str} {pl : Sem Bool} {Q : Value × List Value → Heap → Prop} (X : (kK w.params).In h) (hx : h.get? x = some (instObj C dx)) (hd : h.get? dx = some od) (N : NsO od m k)
    (hg : plainGet (kK w.params) C name = true) (hf : findIn (kK w.params) (.ref C) name = some (some (.ref f))) (ht : isFn (kK w.params) (.ref f) = true) (hv : m name = none) (p : Q (.ref f, [.ref x]) h) :
    W w A (getMethod (.ref x) name pl) h Q := fun s hs => by
  subst hs
  refine method_fn (od := some od) X ⟨hx, rfl, rfl, hd⟩ (plainGet_of hg).1 (plainGet_of hg).2 hf (beq_iff_eq.mp ht) ?_ ⟨.rfl', p⟩
  obtain ⟨es, n, rfl, r⟩ := id N
  show (lookIn name (dictOf es n)).map _ = _
  rw [N.look, hv]; rfl
end
section
variable {w : World} {A : Around} {h g : Heap} {L : Addr} {m : Str → Option Value} {mu : List (Addr × Obj)}
/-- all but two places, as a list -/
noncomputable def allBut (h : Heap) (L d : Addr) : List (Addr × Obj) := (List.range h.objs.size).filterMap fun b => if b = L ∨ b = d then none else (h.get? b).map fun o => (b, o)
theorem mem_allBut {h : Heap} {L d : Addr} {p : Addr × Obj} : p ∈ allBut h L d ↔ p.1 ≠ L ∧ p.1 ≠ d ∧ h.get? p.1 = some p.2 := by
  unfold allBut
  rw [List.mem_filterMap]
  constructor
  · rintro ⟨b, hb, e⟩
    split at e
    · cases e
    · rename_i q
      rw [not_or] at q
      obtain ⟨o, ho, rfl⟩ := Option.map_eq_some_iff.mp e
      exact ⟨q.1, q.2, ho⟩
  · rintro ⟨h1, h2, h3⟩
    refine ⟨p.1, List.mem_range.mpr (Heap.lt_size h3), ?_⟩
    rw [if_neg (by rw [not_or]; exact ⟨h1, h2⟩), h3]
    rfl
theorem no_empty (b : Addr) : ({} : Heap).get? b = none := by
  unfold Heap.get?
  simp
/-- an attribute of an object is set -/
theorem W_set {x dx C : Addr} {od : Obj} {mo : Str → Option Value} {k : Nat} {name : Str} {v : Value} {U : Unit → Heap → Prop} (S : St g L h m mu) (X : (kK w.params).In h) (hx : h.get? x = some (instObj C dx)) (hd : h.get? dx = some od) (hL : dx ≠ L) (N : NsO od mo k) (hk : k < 900)
    (hs' : findIn (kK w.params) (.ref C) "__setattr__" = some (some (.builtin "object.__setattr__"))) (hp : plainOver (kK w.params) C = true) (ht : takerIn (kK w.params) C name = some none) (hh : hasDictIn (kK w.params) C = true)
    (p : ∀ h' od', h'.get? dx = some od' → NsO od' (fun y => if y = name then some v else mo y) (if (mo name).isSome then k else k + 1) → (∀ b o, b ≠ dx → b ≠ L → h.get? b = some o → h'.get? b = some o) → h'.Ns L m → U () h') :
    W w A (setAttr (.ref x) name v) h U := fun s hs => by
  subst hs
  have F : Fr {} L s.heap m := ⟨S.ns, (fun b o e => by rw [no_empty] at e; cases e), Nat.zero_le _⟩
  have Nw : News {} L s.heap ((dx, od) :: allBut s.heap L dx) := fun q hq => by
    rcases List.mem_cons.mp hq with rfl | hq
    · exact ⟨hd, hL, no_empty _⟩
    · obtain ⟨a, b, c⟩ := mem_allBut.mp hq
      exact ⟨c, a, no_empty _⟩
  have N' := N.put name (PyData.keyHash w.params name) (s.toks + 1) v
  obtain ⟨es', n', e', hk', hl', hf'⟩ := id N'
  refine set_plain (od := some od) X ⟨hx, rfl, rfl, hd⟩ hs' (osa_dict (s := { s with toks := s.toks + 1 }) (pre := []) (od := od) F Nw X ⟨hx, rfl, rfl, hd⟩ rfl hp ht hh (by rw [N.look]; rfl) (fun _ hq => (nomatch hq)) (fun q hq => (mem_allBut.mp hq).2.1) rfl (es := es') (n := n') (by rw [e']) (by
      refine Nat.le_trans hl' ?_
      split <;> omega) fun h' F' N'' => ?_)
  exact ⟨⟨rfl, rfl, rfl⟩, p h' _ (N'' _ (.head _)).1 N' (fun b o h1 h2 h3 => (N'' (b, o) (.tail _ (mem_allBut.mpr ⟨h2, h1, h3⟩))).1) F'.ns⟩
/-- what a turned dict means for the frame -/
theorem St.turned {h' : Heap} {pre post : List (Addr × Obj)} {dx : Addr} {od od' : Obj} (S : St g L h m (pre ++ (dx, od) :: post)) (e : h'.get? dx = some od') (k : ∀ b o, b ≠ dx → b ≠ L → h.get? b = some o → h'.get? b = some o) (n : h'.Ns L m) :
    St g L h' m (pre ++ (dx, od') :: post) := by
  have D := S.mus (dx, od) (by simp)
  obtain ⟨n1, n2⟩ := mem_ne S.nd
  refine ⟨n, fun b x q => k b x (fun z => by rw [z, D.2.2] at q; cases q) (fun z => by rw [z, S.gL] at q; cases q) (S.keep b x q), S.gL, fun p hp => ?_, by simpa using S.nd⟩
  rcases List.mem_append.mp hp with q | q
  · have T := S.mus p (List.mem_append_left _ q); exact ⟨k _ _ (n1 p q) T.2.1 T.1, T.2⟩
  · rcases List.mem_cons.mp q with rfl | q
    · exact ⟨e, D.2⟩
    · have T := S.mus p (List.mem_append_right _ (.tail _ q)); exact ⟨k _ _ (n2 p q) T.2.1 T.1, T.2⟩
theorem St.turned0 {h' : Heap} {r : List (Addr × Obj)} {dx : Addr} {od od' : Obj} (S : St g L h m ((dx, od) :: r)) (e : h'.get? dx = some od') (k : ∀ b o, b ≠ dx → b ≠ L → h.get? b = some o → h'.get? b = some o) (n : h'.Ns L m) : St g L h' m ((dx, od') :: r) := St.turned (pre := []) S e k n
end
noncomputable abbrev s__StringIO__newline : Str := ⟨⟨[nat_lit 95, nat_lit 83, nat_lit 116, nat_lit 114, nat_lit 105, nat_lit 110, nat_lit 103, nat_lit 73, nat_lit 79, nat_lit 95, nat_lit 95, nat_lit 110, nat_lit 101, nat_lit 119, nat_lit 108, nat_lit 105, nat_lit 110, nat_lit 101]⟩⟩
noncomputable abbrev s__StringIO__buf : Str := ⟨⟨[nat_lit 95, nat_lit 83, nat_lit 116, nat_lit 114, nat_lit 105, nat_lit 110, nat_lit 103, nat_lit 73, nat_lit 79, nat_lit 95, nat_lit 95, nat_lit 98, nat_lit 117, nat_lit 102]⟩⟩
noncomputable abbrev s__StringIO__pos : Str := ⟨⟨[nat_lit 95, nat_lit 83, nat_lit 116, nat_lit 114, nat_lit 105, nat_lit 110, nat_lit 103, nat_lit 73, nat_lit 79, nat_lit 95, nat_lit 95, nat_lit 112, nat_lit 111, nat_lit 115]⟩⟩
noncomputable abbrev s_instream : Str := ⟨⟨[nat_lit 105, nat_lit 110, nat_lit 115, nat_lit 116, nat_lit 114, nat_lit 101, nat_lit 97, nat_lit 109]⟩⟩
noncomputable abbrev s_infile : Str := ⟨⟨[nat_lit 105, nat_lit 110, nat_lit 102, nat_lit 105, nat_lit 108, nat_lit 101]⟩⟩
noncomputable abbrev s_posix : Str := ⟨⟨[nat_lit 112, nat_lit 111, nat_lit 115, nat_lit 105, nat_lit 120]⟩⟩
noncomputable abbrev s_eof : Str := ⟨⟨[nat_lit 101, nat_lit 111, nat_lit 102]⟩⟩
noncomputable abbrev s_commenters : Str := ⟨⟨[nat_lit 99, nat_lit 111, nat_lit 109, nat_lit 109, nat_lit 101, nat_lit 110, nat_lit 116, nat_lit 101, nat_lit 114, nat_lit 115]⟩⟩
noncomputable abbrev s_wordchars : Str := ⟨⟨[nat_lit 119, nat_lit 111, nat_lit 114, nat_lit 100, nat_lit 99, nat_lit 104, nat_lit 97, nat_lit 114, nat_lit 115]⟩⟩
noncomputable abbrev s_whitespace : Str := ⟨⟨[nat_lit 119, nat_lit 104, nat_lit 105, nat_lit 116, nat_lit 101, nat_lit 115, nat_lit 112, nat_lit 97, nat_lit 99, nat_lit 101]⟩⟩
noncomputable abbrev s_whitespace_split : Str := ⟨⟨[nat_lit 119, nat_lit 104, nat_lit 105, nat_lit 116, nat_lit 101, nat_lit 115, nat_lit 112, nat_lit 97, nat_lit 99, nat_lit 101, nat_lit 95, nat_lit 115, nat_lit 112, nat_lit 108, nat_lit 105, nat_lit 116]⟩⟩
noncomputable abbrev s_quotes : Str := ⟨⟨[nat_lit 113, nat_lit 117, nat_lit 111, nat_lit 116, nat_lit 101, nat_lit 115]⟩⟩
noncomputable abbrev s_escape : Str := ⟨⟨[nat_lit 101, nat_lit 115, nat_lit 99, nat_lit 97, nat_lit 112, nat_lit 101]⟩⟩
noncomputable abbrev s_escapedquotes : Str := ⟨⟨[nat_lit 101, nat_lit 115, nat_lit 99, nat_lit 97, nat_lit 112, nat_lit 101, nat_lit 100, nat_lit 113, nat_lit 117, nat_lit 111, nat_lit 116, nat_lit 101, nat_lit 115]⟩⟩
noncomputable abbrev s_state : Str := ⟨⟨[nat_lit 115, nat_lit 116, nat_lit 97, nat_lit 116, nat_lit 101]⟩⟩
noncomputable abbrev s_pushback : Str := ⟨⟨[nat_lit 112, nat_lit 117, nat_lit 115, nat_lit 104, nat_lit 98, nat_lit 97, nat_lit 99, nat_lit 107]⟩⟩
noncomputable abbrev s_lineno : Str := ⟨⟨[nat_lit 108, nat_lit 105, nat_lit 110, nat_lit 101, nat_lit 110, nat_lit 111]⟩⟩
noncomputable abbrev s_debug : Str := ⟨⟨[nat_lit 100, nat_lit 101, nat_lit 98, nat_lit 117, nat_lit 103]⟩⟩
noncomputable abbrev s_token : Str := ⟨⟨[nat_lit 116, nat_lit 111, nat_lit 107, nat_lit 101, nat_lit 110]⟩⟩
noncomputable abbrev s_filestack : Str := ⟨⟨[nat_lit 102, nat_lit 105, nat_lit 108, nat_lit 101, nat_lit 115, nat_lit 116, nat_lit 97, nat_lit 99, nat_lit 107]⟩⟩
noncomputable abbrev s_source : Str := ⟨⟨[nat_lit 115, nat_lit 111, nat_lit 117, nat_lit 114, nat_lit 99, nat_lit 101]⟩⟩
noncomputable abbrev s__punctuation_chars : Str := ⟨⟨[nat_lit 95, nat_lit 112, nat_lit 117, nat_lit 110, nat_lit 99, nat_lit 116, nat_lit 117, nat_lit 97, nat_lit 116, nat_lit 105, nat_lit 111, nat_lit 110, nat_lit 95, nat_lit 99, nat_lit 104, nat_lit 97, nat_lit 114, nat_lit 115]⟩⟩
noncomputable abbrev s_items : Str := ⟨⟨[nat_lit 105, nat_lit 116, nat_lit 101, nat_lit 109, nat_lit 115]⟩⟩
noncomputable abbrev s_values : Str := ⟨⟨[nat_lit 118, nat_lit 97, nat_lit 108, nat_lit 117, nat_lit 101, nat_lit 115]⟩⟩
noncomputable abbrev s_get : Str := ⟨⟨[nat_lit 103, nat_lit 101, nat_lit 116]⟩⟩
noncomputable abbrev s_find : Str := ⟨⟨[nat_lit 102, nat_lit 105, nat_lit 110, nat_lit 100]⟩⟩
noncomputable abbrev s_count : Str := ⟨⟨[nat_lit 99, nat_lit 111, nat_lit 117, nat_lit 110, nat_lit 116]⟩⟩
noncomputable abbrev s_append : Str := ⟨⟨[nat_lit 97, nat_lit 112, nat_lit 112, nat_lit 101, nat_lit 110, nat_lit 100]⟩⟩
noncomputable abbrev s_main : Str := ⟨⟨[nat_lit 109, nat_lit 97, nat_lit 105, nat_lit 110]⟩⟩
noncomputable abbrev s_b1 : Str := ⟨⟨[nat_lit 98, nat_lit 49]⟩⟩
noncomputable abbrev s_c_c : Str := ⟨⟨[nat_lit 99, nat_lit 95, nat_lit 99]⟩⟩
noncomputable abbrev s_dd : Str := ⟨⟨[nat_lit 100, nat_lit 100]⟩⟩
noncomputable abbrev s_e2 : Str := ⟨⟨[nat_lit 101, nat_lit 50]⟩⟩
noncomputable abbrev s_n : Str := ⟨⟨[nat_lit 110]⟩⟩
noncomputable abbrev s_what : Str := ⟨⟨[nat_lit 119, nat_lit 104, nat_lit 97, nat_lit 116]⟩⟩
noncomputable abbrev s_type : Str := ⟨⟨[nat_lit 116, nat_lit 121, nat_lit 112, nat_lit 101]⟩⟩
noncomputable abbrev s_int : Str := ⟨⟨[nat_lit 105, nat_lit 110, nat_lit 116]⟩⟩
noncomputable abbrev s_self : Str := ⟨⟨[nat_lit 115, nat_lit 101, nat_lit 108, nat_lit 102]⟩⟩
noncomputable abbrev s_initial_value : Str := ⟨⟨[nat_lit 105, nat_lit 110, nat_lit 105, nat_lit 116, nat_lit 105, nat_lit 97, nat_lit 108, nat_lit 95, nat_lit 118, nat_lit 97, nat_lit 108, nat_lit 117, nat_lit 101]⟩⟩
noncomputable abbrev s_newline : Str := ⟨⟨[nat_lit 110, nat_lit 101, nat_lit 119, nat_lit 108, nat_lit 105, nat_lit 110, nat_lit 101]⟩⟩
noncomputable abbrev s_str : Str := ⟨⟨[nat_lit 115, nat_lit 116, nat_lit 114]⟩⟩
noncomputable abbrev s_s : Str := ⟨⟨[nat_lit 115]⟩⟩
noncomputable abbrev s_limit : Str := ⟨⟨[nat_lit 108, nat_lit 105, nat_lit 109, nat_lit 105, nat_lit 116]⟩⟩
noncomputable abbrev s_start : Str := ⟨⟨[nat_lit 115, nat_lit 116, nat_lit 97, nat_lit 114, nat_lit 116]⟩⟩
noncomputable abbrev s_stop : Str := ⟨⟨[nat_lit 115, nat_lit 116, nat_lit 111, nat_lit 112]⟩⟩
noncomputable abbrev s_cut : Str := ⟨⟨[nat_lit 99, nat_lit 117, nat_lit 116]⟩⟩
noncomputable abbrev s_i : Str := ⟨⟨[nat_lit 105]⟩⟩
noncomputable abbrev s_j : Str := ⟨⟨[nat_lit 106]⟩⟩
noncomputable abbrev s_end : Str := ⟨⟨[nat_lit 101, nat_lit 110, nat_lit 100]⟩⟩
noncomputable abbrev s_len : Str := ⟨⟨[nat_lit 108, nat_lit 101, nat_lit 110]⟩⟩
noncomputable abbrev s_size : Str := ⟨⟨[nat_lit 115, nat_lit 105, nat_lit 122, nat_lit 101]⟩⟩
noncomputable abbrev s_t : Str := ⟨⟨[nat_lit 116]⟩⟩
noncomputable abbrev s_isinstance : Str := ⟨⟨[nat_lit 105, nat_lit 115, nat_lit 105, nat_lit 110, nat_lit 115, nat_lit 116, nat_lit 97, nat_lit 110, nat_lit 99, nat_lit 101]⟩⟩
noncomputable abbrev s_tok : Str := ⟨⟨[nat_lit 116, nat_lit 111, nat_lit 107]⟩⟩
noncomputable abbrev s_raw : Str := ⟨⟨[nat_lit 114, nat_lit 97, nat_lit 119]⟩⟩
noncomputable abbrev s_spec : Str := ⟨⟨[nat_lit 115, nat_lit 112, nat_lit 101, nat_lit 99]⟩⟩
noncomputable abbrev s_newfile : Str := ⟨⟨[nat_lit 110, nat_lit 101, nat_lit 119, nat_lit 102, nat_lit 105, nat_lit 108, nat_lit 101]⟩⟩
noncomputable abbrev s_newstream : Str := ⟨⟨[nat_lit 110, nat_lit 101, nat_lit 119, nat_lit 115, nat_lit 116, nat_lit 114, nat_lit 101, nat_lit 97, nat_lit 109]⟩⟩
noncomputable abbrev s_quoted : Str := ⟨⟨[nat_lit 113, nat_lit 117, nat_lit 111, nat_lit 116, nat_lit 101, nat_lit 100]⟩⟩
noncomputable abbrev s_escapedstate : Str := ⟨⟨[nat_lit 101, nat_lit 115, nat_lit 99, nat_lit 97, nat_lit 112, nat_lit 101, nat_lit 100, nat_lit 115, nat_lit 116, nat_lit 97, nat_lit 116, nat_lit 101]⟩⟩
noncomputable abbrev s_nextchar : Str := ⟨⟨[nat_lit 110, nat_lit 101, nat_lit 120, nat_lit 116, nat_lit 99, nat_lit 104, nat_lit 97, nat_lit 114]⟩⟩
noncomputable abbrev s_result : Str := ⟨⟨[nat_lit 114, nat_lit 101, nat_lit 115, nat_lit 117, nat_lit 108, nat_lit 116]⟩⟩
noncomputable abbrev s_target : Str := ⟨⟨[nat_lit 116, nat_lit 97, nat_lit 114, nat_lit 103, nat_lit 101, nat_lit 116]⟩⟩
noncomputable abbrev s_cc : Str := ⟨⟨[nat_lit 99, nat_lit 99]⟩⟩
noncomputable abbrev s_nc : Str := ⟨⟨[nat_lit 110, nat_lit 99]⟩⟩
noncomputable abbrev s_tt : Str := ⟨⟨[nat_lit 116, nat_lit 116]⟩⟩
noncomputable abbrev s_ct : Str := ⟨⟨[nat_lit 99, nat_lit 116]⟩⟩
noncomputable abbrev s_callers : Str := ⟨⟨[nat_lit 99, nat_lit 97, nat_lit 108, nat_lit 108, nat_lit 101, nat_lit 114, nat_lit 115]⟩⟩
noncomputable abbrev s_t_cc : Str := ⟨⟨[nat_lit 116, nat_lit 95, nat_lit 99, nat_lit 99]⟩⟩
noncomputable abbrev s_t_nc : Str := ⟨⟨[nat_lit 116, nat_lit 95, nat_lit 110, nat_lit 99]⟩⟩
noncomputable abbrev s_t_tt : Str := ⟨⟨[nat_lit 116, nat_lit 95, nat_lit 116, nat_lit 116]⟩⟩
noncomputable abbrev s_t_ct : Str := ⟨⟨[nat_lit 116, nat_lit 95, nat_lit 99, nat_lit 116]⟩⟩
noncomputable abbrev s_t_callers : Str := ⟨⟨[nat_lit 116, nat_lit 95, nat_lit 99, nat_lit 97, nat_lit 108, nat_lit 108, nat_lit 101, nat_lit 114, nat_lit 115]⟩⟩
noncomputable abbrev s_new_callers : Str := ⟨⟨[nat_lit 110, nat_lit 101, nat_lit 119, nat_lit 95, nat_lit 99, nat_lit 97, nat_lit 108, nat_lit 108, nat_lit 101, nat_lit 114, nat_lit 115]⟩⟩
noncomputable abbrev s_func : Str := ⟨⟨[nat_lit 102, nat_lit 117, nat_lit 110, nat_lit 99]⟩⟩
noncomputable abbrev s_caller : Str := ⟨⟨[nat_lit 99, nat_lit 97, nat_lit 108, nat_lit 108, nat_lit 101, nat_lit 114]⟩⟩
noncomputable abbrev s_tuple : Str := ⟨⟨[nat_lit 116, nat_lit 117, nat_lit 112, nat_lit 108, nat_lit 101]⟩⟩
noncomputable abbrev s_calls : Str := ⟨⟨[nat_lit 99, nat_lit 97, nat_lit 108, nat_lit 108, nat_lit 115]⟩⟩
noncomputable abbrev s_script : Str := ⟨⟨[nat_lit 115, nat_lit 99, nat_lit 114, nat_lit 105, nat_lit 112, nat_lit 116]⟩⟩
noncomputable abbrev s_names : Str := ⟨⟨[nat_lit 110, nat_lit 97, nat_lit 109, nat_lit 101, nat_lit 115]⟩⟩
noncomputable abbrev s_texts : Str := ⟨⟨[nat_lit 116, nat_lit 101, nat_lit 120, nat_lit 116, nat_lit 115]⟩⟩
noncomputable abbrev s_words : Str := ⟨⟨[nat_lit 119, nat_lit 111, nat_lit 114, nat_lit 100, nat_lit 115]⟩⟩
noncomputable abbrev s_uses : Str := ⟨⟨[nat_lit 117, nat_lit 115, nat_lit 101, nat_lit 115]⟩⟩
noncomputable abbrev s_name : Str := ⟨⟨[nat_lit 110, nat_lit 97, nat_lit 109, nat_lit 101]⟩⟩
noncomputable abbrev s_x : Str := ⟨⟨[nat_lit 120]⟩⟩
noncomputable abbrev s_later : Str := ⟨⟨[nat_lit 108, nat_lit 97, nat_lit 116, nat_lit 101, nat_lit 114]⟩⟩
noncomputable abbrev s_kind : Str := ⟨⟨[nat_lit 107, nat_lit 105, nat_lit 110, nat_lit 100]⟩⟩
noncomputable abbrev s_rest : Str := ⟨⟨[nat_lit 114, nat_lit 101, nat_lit 115, nat_lit 116]⟩⟩
noncomputable abbrev s_white : Str := ⟨⟨[nat_lit 119, nat_lit 104, nat_lit 105, nat_lit 116, nat_lit 101]⟩⟩
noncomputable abbrev s_used : Str := ⟨⟨[nat_lit 117, nat_lit 115, nat_lit 101, nat_lit 100]⟩⟩
noncomputable abbrev s_mark : Str := ⟨⟨[nat_lit 109, nat_lit 97, nat_lit 114, nat_lit 107]⟩⟩
noncomputable abbrev s_whole : Str := ⟨⟨[nat_lit 119, nat_lit 104, nat_lit 111, nat_lit 108, nat_lit 101]⟩⟩
noncomputable abbrev s_lexer : Str := ⟨⟨[nat_lit 108, nat_lit 101, nat_lit 120, nat_lit 101, nat_lit 114]⟩⟩
noncomputable abbrev s_rows : Str := ⟨⟨[nat_lit 114, nat_lit 111, nat_lit 119, nat_lit 115]⟩⟩
noncomputable abbrev s_own : Str := ⟨⟨[nat_lit 111, nat_lit 119, nat_lit 110]⟩⟩
noncomputable abbrev s_turn : Str := ⟨⟨[nat_lit 116, nat_lit 117, nat_lit 114, nat_lit 110]⟩⟩
noncomputable abbrev s_other : Str := ⟨⟨[nat_lit 111, nat_lit 116, nat_lit 104, nat_lit 101, nat_lit 114]⟩⟩
noncomputable abbrev s_mine : Str := ⟨⟨[nat_lit 109, nat_lit 105, nat_lit 110, nat_lit 101]⟩⟩
noncomputable abbrev s_below : Str := ⟨⟨[nat_lit 98, nat_lit 101, nat_lit 108, nat_lit 111, nat_lit 119]⟩⟩
noncomputable abbrev s_table : Str := ⟨⟨[nat_lit 116, nat_lit 97, nat_lit 98, nat_lit 108, nat_lit 101]⟩⟩
noncomputable abbrev s_built : Str := ⟨⟨[nat_lit 98, nat_lit 117, nat_lit 105, nat_lit 108, nat_lit 116]⟩⟩
noncomputable abbrev s_tables : Str := ⟨⟨[nat_lit 116, nat_lit 97, nat_lit 98, nat_lit 108, nat_lit 101, nat_lit 115]⟩⟩
noncomputable abbrev s_each : Str := ⟨⟨[nat_lit 101, nat_lit 97, nat_lit 99, nat_lit 104]⟩⟩
noncomputable abbrev s_sum : Str := ⟨⟨[nat_lit 115, nat_lit 117, nat_lit 109]⟩⟩
noncomputable abbrev s_object : Str := ⟨⟨[nat_lit 111, nat_lit 98, nat_lit 106, nat_lit 101, nat_lit 99, nat_lit 116]⟩⟩
theorem nn_type : s_type ≠ "__name__" := by decide +kernel
theorem bb_type : bootBuiltins s_type = some (.type "type") := by
  rw [show s_type = Str.ofString "type" from by decide +kernel]
  boot_by_name
theorem nn_int : s_int ≠ "__name__" := by decide +kernel
theorem bb_int : bootBuiltins s_int = some (.type "int") := by
  rw [show s_int = Str.ofString "int" from by decide +kernel]
  boot_by_name
theorem nn_str : s_str ≠ "__name__" := by decide +kernel
theorem bb_str : bootBuiltins s_str = some (.type "str") := by
  rw [show s_str = Str.ofString "str" from by decide +kernel]
  boot_by_name
theorem nn_isinstance : s_isinstance ≠ "__name__" := by decide +kernel
theorem bb_isinstance : bootBuiltins s_isinstance = some (.builtin "isinstance") := by
  rw [show s_isinstance = Str.ofString "isinstance" from by decide +kernel]
  boot_by_name
theorem nn_len : s_len ≠ "__name__" := by decide +kernel
theorem bb_len : bootBuiltins s_len = some (.builtin "len") := by
  rw [show s_len = Str.ofString "len" from by decide +kernel]
  boot_by_name
theorem nn_tuple : s_tuple ≠ "__name__" := by decide +kernel
theorem bb_tuple : bootBuiltins s_tuple = some (.type "tuple") := by
  rw [show s_tuple = Str.ofString "tuple" from by decide +kernel]
  boot_by_name
theorem nn_sum : s_sum ≠ "__name__" := by decide +kernel
theorem bb_sum : bootBuiltins s_sum = some (.builtin "sum") := by
  rw [show s_sum = Str.ofString "sum" from by decide +kernel]
  boot_by_name
theorem nn_object : s_object ≠ "__name__" := by decide +kernel
theorem bb_object : bootBuiltins s_object = some (.type "object") := by
  rw [show s_object = Str.ofString "object" from by decide +kernel]
  boot_by_name
section names
variable {w : World} {A : Around} {h g : Heap} {P : Value → Heap → Prop} {U : Unit → Heap → Prop} {L : Addr} {m : Str → Option Value} {mu : List (Addr × Obj)} {v : Value} {pos : Pos}
noncomputable abbrev env53 (L : Addr) : Env := callEnv fd53 L 53
noncomputable abbrev ns53 : List Str := [s_n, s_what]
theorem ld53_n {v1 : Option Value} (S : St g L h (frL ns53 [some v, v1]) mu) (p : P v h) : W w A (eval (.Name s_n pos) (env53 L)) h P := W_nameL S rfl (by kernel_rfl) (by kernel_rfl) (by kernel_rfl) (by kernel_rfl) p
theorem st53_n {v0 v1 : Option Value} (S : St g L h (frL ns53 [v0, v1]) mu) (p : ∀ h', h'.objs.size = h.objs.size → St g L h' (frL ns53 [some v, v1]) mu → U () h') : W w A (storeName (env53 L) s_n v) h U := W_st S rfl (by kernel_rfl) (by kernel_rfl) fun h' e S' => p h' e (S'.as (frL_set 0 rfl (by simp) (by decide +kernel)))
theorem gl53_type (G : Gr w g) (S : St g L h m mu) (p : P (.type "type") h) : W w A (eval (.Name s_type pos) (env53 L)) h P := W_nameB G S.keep rfl rfl (by kernel_rfl) (by kernel_rfl) (by kernel_rfl) (by kernel_rfl) nn_type bb_type p
theorem gl53_int (G : Gr w g) (S : St g L h m mu) (p : P (.type "int") h) : W w A (eval (.Name s_int pos) (env53 L)) h P := W_nameB G S.keep rfl rfl (by kernel_rfl) (by kernel_rfl) (by kernel_rfl) (by kernel_rfl) nn_int bb_int p
theorem en53 {u0 u1 : Value} (G : Gr w g) (x : Ext g h) (hm : ∀ p ∈ mu, h.get? p.1 = some p.2 ∧ g.get? p.1 = none) (nd : (mu.map (·.1)).Nodup) (hA : A.depth < 900)
    (H : ∀ L h₁, L = h.objs.size → St g L h₁ (frL ns53 [some (u0), some (u1)]) mu → Ext h h₁ → W w (A.deeper (env53 L)) (execs (fnBod (stAt 4)) (env53 L)) h₁ fun fl h' => P (retOf fl) h') : WC w A (.call (.ref 53) ⟨[u0, u1], []⟩) h P :=
  W_call_def (fd := fd53) (ns := [s_n, s_what]) (rest := []) (as := [u0, u1]) G x hm nd hA (by kernel_rfl) (by kernel_rfl) rfl (fun s X => BindsTo.of_eq (by kernel_rfl)) rfl (by kernel_rfl) (by kernel_rfl) (by kernel_rfl) (by kernel_rfl) (by kernel_rfl) (by kernel_rfl) H
noncomputable abbrev env357 (L : Addr) : Env := callEnv fd357 L 357
noncomputable abbrev ns357 : List Str := [s_self, s_initial_value, s_newline]
theorem ld357_self {v1 v2 : Option Value} (S : St g L h (frL ns357 [some v, v1, v2]) mu) (p : P v h) : W w A (eval (.Name s_self pos) (env357 L)) h P := W_nameL S rfl (by kernel_rfl) (by kernel_rfl) (by kernel_rfl) (by kernel_rfl) p
theorem ld357_initial_value {v0 v2 : Option Value} (S : St g L h (frL ns357 [v0, some v, v2]) mu) (p : P v h) : W w A (eval (.Name s_initial_value pos) (env357 L)) h P := W_nameL S rfl (by kernel_rfl) (by kernel_rfl) (by kernel_rfl) (by kernel_rfl) p
theorem ld357_newline {v0 v1 : Option Value} (S : St g L h (frL ns357 [v0, v1, some v]) mu) (p : P v h) : W w A (eval (.Name s_newline pos) (env357 L)) h P := W_nameL S rfl (by kernel_rfl) (by kernel_rfl) (by kernel_rfl) (by kernel_rfl) p
theorem gl357_type (G : Gr w g) (S : St g L h m mu) (p : P (.type "type") h) : W w A (eval (.Name s_type pos) (env357 L)) h P := W_nameB G S.keep rfl rfl (by kernel_rfl) (by kernel_rfl) (by kernel_rfl) (by kernel_rfl) nn_type bb_type p
theorem gl357_str (G : Gr w g) (S : St g L h m mu) (p : P (.type "str") h) : W w A (eval (.Name s_str pos) (env357 L)) h P := W_nameB G S.keep rfl rfl (by kernel_rfl) (by kernel_rfl) (by kernel_rfl) (by kernel_rfl) nn_str bb_str p
theorem en357d {u0 u1 : Value} (G : Gr w g) (x : Ext g h) (hm : ∀ p ∈ mu, h.get? p.1 = some p.2 ∧ g.get? p.1 = none) (nd : (mu.map (·.1)).Nodup) (hA : A.depth < 900)
    (H : ∀ L h₁, L = h.objs.size → St g L h₁ (frL ns357 [some (u0), some (u1), some (.str t_45 671)]) mu → Ext h h₁ → W w (A.deeper (env357 L)) (execs (fnBod (mtAt 10 1)) (env357 L)) h₁ fun fl h' => P (retOf fl) h') : WC w A (.call (.ref 357) ⟨[u0, u1], []⟩) h P :=
  W_call_def (fd := fd357) (ns := [s_self, s_initial_value, s_newline]) (rest := []) (as := [u0, u1, .str t_45 671]) G x hm nd hA (by kernel_rfl) (by kernel_rfl) rfl (fun s X => binds_K X rfl (show (kK w.params).lookup 350 = some (o350 w.params) from by kernel_rfl) (show (o350 w.params).data = .seq ([.str t_44 670, .str t_45 671]).toArray 0 from rfl) rfl rfl) rfl (by kernel_rfl) (by kernel_rfl) (by kernel_rfl) (by kernel_rfl) (by kernel_rfl) (by kernel_rfl) H
noncomputable abbrev env364 (L : Addr) : Env := callEnv fd364 L 364
noncomputable abbrev ns364 : List Str := [s_self, s_s, s_newline]
theorem ld364_self {v1 v2 : Option Value} (S : St g L h (frL ns364 [some v, v1, v2]) mu) (p : P v h) : W w A (eval (.Name s_self pos) (env364 L)) h P := W_nameL S rfl (by kernel_rfl) (by kernel_rfl) (by kernel_rfl) (by kernel_rfl) p
theorem ld364_s {v0 v2 : Option Value} (S : St g L h (frL ns364 [v0, some v, v2]) mu) (p : P v h) : W w A (eval (.Name s_s pos) (env364 L)) h P := W_nameL S rfl (by kernel_rfl) (by kernel_rfl) (by kernel_rfl) (by kernel_rfl) p
theorem ld364_newline {v0 v1 : Option Value} (S : St g L h (frL ns364 [v0, v1, some v]) mu) (p : P v h) : W w A (eval (.Name s_newline pos) (env364 L)) h P := W_nameL S rfl (by kernel_rfl) (by kernel_rfl) (by kernel_rfl) (by kernel_rfl) p
theorem st364_newline {v0 v1 v2 : Option Value} (S : St g L h (frL ns364 [v0, v1, v2]) mu) (p : ∀ h', h'.objs.size = h.objs.size → St g L h' (frL ns364 [v0, v1, some v]) mu → U () h') : W w A (storeName (env364 L) s_newline v) h U := W_st S rfl (by kernel_rfl) (by kernel_rfl) fun h' e S' => p h' e (S'.as (frL_set 2 rfl (by simp) (by decide +kernel)))
theorem en364 {u0 u1 : Value} (G : Gr w g) (x : Ext g h) (hm : ∀ p ∈ mu, h.get? p.1 = some p.2 ∧ g.get? p.1 = none) (nd : (mu.map (·.1)).Nodup) (hA : A.depth < 900)
    (H : ∀ L h₁, L = h.objs.size → St g L h₁ (frL ns364 [some (u0), some (u1), none]) mu → Ext h h₁ → W w (A.deeper (env364 L)) (execs (fnBod (mtAt 10 2)) (env364 L)) h₁ fun fl h' => P (retOf fl) h') : WC w A (.call (.ref 364) ⟨[u0, u1], []⟩) h P :=
  W_call_def (fd := fd364) (ns := [s_self, s_s]) (rest := [s_newline]) (as := [u0, u1]) G x hm nd hA (by kernel_rfl) (by kernel_rfl) rfl (fun s X => BindsTo.of_eq (by kernel_rfl)) rfl (by kernel_rfl) (by kernel_rfl) (by kernel_rfl) (by kernel_rfl) (by kernel_rfl) (by kernel_rfl) H
noncomputable abbrev env371 (L : Addr) : Env := callEnv fd371 L 371
noncomputable abbrev ns371 : List Str := [s_self]
theorem ld371_self (S : St g L h (frL ns371 [some v]) mu) (p : P v h) : W w A (eval (.Name s_self pos) (env371 L)) h P := W_nameL S rfl (by kernel_rfl) (by kernel_rfl) (by kernel_rfl) (by kernel_rfl) p
theorem en371 {u0 : Value} (G : Gr w g) (x : Ext g h) (hm : ∀ p ∈ mu, h.get? p.1 = some p.2 ∧ g.get? p.1 = none) (nd : (mu.map (·.1)).Nodup) (hA : A.depth < 900)
    (H : ∀ L h₁, L = h.objs.size → St g L h₁ (frL ns371 [some (u0)]) mu → Ext h h₁ → W w (A.deeper (env371 L)) (execs (fnBod (mtAt 10 3)) (env371 L)) h₁ fun fl h' => P (retOf fl) h') : WC w A (.call (.ref 371) ⟨[u0], []⟩) h P :=
  W_call_def (fd := fd371) (ns := [s_self]) (rest := []) (as := [u0]) G x hm nd hA (by kernel_rfl) (by kernel_rfl) rfl (fun s X => BindsTo.of_eq (by kernel_rfl)) rfl (by kernel_rfl) (by kernel_rfl) (by kernel_rfl) (by kernel_rfl) (by kernel_rfl) (by kernel_rfl) H
noncomputable abbrev env385 (L : Addr) : Env := callEnv fd385 L 385
noncomputable abbrev ns385 : List Str := [s_self, s_limit, s_start, s_stop, s_cut, s_newline, s_i, s_j, s_end]
theorem ld385_self {v1 v2 v3 v4 v5 v6 v7 v8 : Option Value} (S : St g L h (frL ns385 [some v, v1, v2, v3, v4, v5, v6, v7, v8]) mu) (p : P v h) : W w A (eval (.Name s_self pos) (env385 L)) h P := W_nameL S rfl (by kernel_rfl) (by kernel_rfl) (by kernel_rfl) (by kernel_rfl) p
theorem ld385_limit {v0 v2 v3 v4 v5 v6 v7 v8 : Option Value} (S : St g L h (frL ns385 [v0, some v, v2, v3, v4, v5, v6, v7, v8]) mu) (p : P v h) : W w A (eval (.Name s_limit pos) (env385 L)) h P := W_nameL S rfl (by kernel_rfl) (by kernel_rfl) (by kernel_rfl) (by kernel_rfl) p
theorem ld385_start {v0 v1 v3 v4 v5 v6 v7 v8 : Option Value} (S : St g L h (frL ns385 [v0, v1, some v, v3, v4, v5, v6, v7, v8]) mu) (p : P v h) : W w A (eval (.Name s_start pos) (env385 L)) h P := W_nameL S rfl (by kernel_rfl) (by kernel_rfl) (by kernel_rfl) (by kernel_rfl) p
theorem st385_start {v0 v1 v2 v3 v4 v5 v6 v7 v8 : Option Value} (S : St g L h (frL ns385 [v0, v1, v2, v3, v4, v5, v6, v7, v8]) mu) (p : ∀ h', h'.objs.size = h.objs.size → St g L h' (frL ns385 [v0, v1, some v, v3, v4, v5, v6, v7, v8]) mu → U () h') : W w A (storeName (env385 L) s_start v) h U := W_st S rfl (by kernel_rfl) (by kernel_rfl) fun h' e S' => p h' e (S'.as (frL_set 2 rfl (by simp) (by decide +kernel)))
theorem ld385_stop {v0 v1 v2 v4 v5 v6 v7 v8 : Option Value} (S : St g L h (frL ns385 [v0, v1, v2, some v, v4, v5, v6, v7, v8]) mu) (p : P v h) : W w A (eval (.Name s_stop pos) (env385 L)) h P := W_nameL S rfl (by kernel_rfl) (by kernel_rfl) (by kernel_rfl) (by kernel_rfl) p
theorem st385_stop {v0 v1 v2 v3 v4 v5 v6 v7 v8 : Option Value} (S : St g L h (frL ns385 [v0, v1, v2, v3, v4, v5, v6, v7, v8]) mu) (p : ∀ h', h'.objs.size = h.objs.size → St g L h' (frL ns385 [v0, v1, v2, some v, v4, v5, v6, v7, v8]) mu → U () h') : W w A (storeName (env385 L) s_stop v) h U := W_st S rfl (by kernel_rfl) (by kernel_rfl) fun h' e S' => p h' e (S'.as (frL_set 3 rfl (by simp) (by decide +kernel)))
theorem ld385_cut {v0 v1 v2 v3 v5 v6 v7 v8 : Option Value} (S : St g L h (frL ns385 [v0, v1, v2, v3, some v, v5, v6, v7, v8]) mu) (p : P v h) : W w A (eval (.Name s_cut pos) (env385 L)) h P := W_nameL S rfl (by kernel_rfl) (by kernel_rfl) (by kernel_rfl) (by kernel_rfl) p
theorem st385_cut {v0 v1 v2 v3 v4 v5 v6 v7 v8 : Option Value} (S : St g L h (frL ns385 [v0, v1, v2, v3, v4, v5, v6, v7, v8]) mu) (p : ∀ h', h'.objs.size = h.objs.size → St g L h' (frL ns385 [v0, v1, v2, v3, some v, v5, v6, v7, v8]) mu → U () h') : W w A (storeName (env385 L) s_cut v) h U := W_st S rfl (by kernel_rfl) (by kernel_rfl) fun h' e S' => p h' e (S'.as (frL_set 4 rfl (by simp) (by decide +kernel)))
theorem ld385_newline {v0 v1 v2 v3 v4 v6 v7 v8 : Option Value} (S : St g L h (frL ns385 [v0, v1, v2, v3, v4, some v, v6, v7, v8]) mu) (p : P v h) : W w A (eval (.Name s_newline pos) (env385 L)) h P := W_nameL S rfl (by kernel_rfl) (by kernel_rfl) (by kernel_rfl) (by kernel_rfl) p
theorem st385_newline {v0 v1 v2 v3 v4 v5 v6 v7 v8 : Option Value} (S : St g L h (frL ns385 [v0, v1, v2, v3, v4, v5, v6, v7, v8]) mu) (p : ∀ h', h'.objs.size = h.objs.size → St g L h' (frL ns385 [v0, v1, v2, v3, v4, some v, v6, v7, v8]) mu → U () h') : W w A (storeName (env385 L) s_newline v) h U := W_st S rfl (by kernel_rfl) (by kernel_rfl) fun h' e S' => p h' e (S'.as (frL_set 5 rfl (by simp) (by decide +kernel)))
theorem ld385_i {v0 v1 v2 v3 v4 v5 v7 v8 : Option Value} (S : St g L h (frL ns385 [v0, v1, v2, v3, v4, v5, some v, v7, v8]) mu) (p : P v h) : W w A (eval (.Name s_i pos) (env385 L)) h P := W_nameL S rfl (by kernel_rfl) (by kernel_rfl) (by kernel_rfl) (by kernel_rfl) p
theorem st385_i {v0 v1 v2 v3 v4 v5 v6 v7 v8 : Option Value} (S : St g L h (frL ns385 [v0, v1, v2, v3, v4, v5, v6, v7, v8]) mu) (p : ∀ h', h'.objs.size = h.objs.size → St g L h' (frL ns385 [v0, v1, v2, v3, v4, v5, some v, v7, v8]) mu → U () h') : W w A (storeName (env385 L) s_i v) h U := W_st S rfl (by kernel_rfl) (by kernel_rfl) fun h' e S' => p h' e (S'.as (frL_set 6 rfl (by simp) (by decide +kernel)))
theorem ld385_end {v0 v1 v2 v3 v4 v5 v6 v7 : Option Value} (S : St g L h (frL ns385 [v0, v1, v2, v3, v4, v5, v6, v7, some v]) mu) (p : P v h) : W w A (eval (.Name s_end pos) (env385 L)) h P := W_nameL S rfl (by kernel_rfl) (by kernel_rfl) (by kernel_rfl) (by kernel_rfl) p
theorem st385_end {v0 v1 v2 v3 v4 v5 v6 v7 v8 : Option Value} (S : St g L h (frL ns385 [v0, v1, v2, v3, v4, v5, v6, v7, v8]) mu) (p : ∀ h', h'.objs.size = h.objs.size → St g L h' (frL ns385 [v0, v1, v2, v3, v4, v5, v6, v7, some v]) mu → U () h') : W w A (storeName (env385 L) s_end v) h U := W_st S rfl (by kernel_rfl) (by kernel_rfl) fun h' e S' => p h' e (S'.as (frL_set 8 rfl (by simp) (by decide +kernel)))
theorem gl385_len (G : Gr w g) (S : St g L h m mu) (p : P (.builtin "len") h) : W w A (eval (.Name s_len pos) (env385 L)) h P := W_nameB G S.keep rfl rfl (by kernel_rfl) (by kernel_rfl) (by kernel_rfl) (by kernel_rfl) nn_len bb_len p
theorem en385 {u0 u1 : Value} (G : Gr w g) (x : Ext g h) (hm : ∀ p ∈ mu, h.get? p.1 = some p.2 ∧ g.get? p.1 = none) (nd : (mu.map (·.1)).Nodup) (hA : A.depth < 900)
    (H : ∀ L h₁, L = h.objs.size → St g L h₁ (frL ns385 [some (u0), some (u1), none, none, none, none, none, none, none]) mu → Ext h h₁ → W w (A.deeper (env385 L)) (execs (fnBod (mtAt 10 5)) (env385 L)) h₁ fun fl h' => P (retOf fl) h') : WC w A (.call (.ref 385) ⟨[u0, u1], []⟩) h P :=
  W_call_def (fd := fd385) (ns := [s_self, s_limit]) (rest := [s_start, s_stop, s_cut, s_newline, s_i, s_j, s_end]) (as := [u0, u1]) G x hm nd hA (by kernel_rfl) (by kernel_rfl) rfl (fun s X => BindsTo.of_eq (by kernel_rfl)) rfl (by kernel_rfl) (by kernel_rfl) (by kernel_rfl) (by kernel_rfl) (by kernel_rfl) (by kernel_rfl) H
noncomputable abbrev env533 (L : Addr) : Env := callEnv fd533 L 533
noncomputable abbrev ns533 : List Str := [s_self, s_size, s_start, s_stop]
theorem ld533_self {v1 v2 v3 : Option Value} (S : St g L h (frL ns533 [some v, v1, v2, v3]) mu) (p : P v h) : W w A (eval (.Name s_self pos) (env533 L)) h P := W_nameL S rfl (by kernel_rfl) (by kernel_rfl) (by kernel_rfl) (by kernel_rfl) p
theorem ld533_size {v0 v2 v3 : Option Value} (S : St g L h (frL ns533 [v0, some v, v2, v3]) mu) (p : P v h) : W w A (eval (.Name s_size pos) (env533 L)) h P := W_nameL S rfl (by kernel_rfl) (by kernel_rfl) (by kernel_rfl) (by kernel_rfl) p
theorem st533_size {v0 v1 v2 v3 : Option Value} (S : St g L h (frL ns533 [v0, v1, v2, v3]) mu) (p : ∀ h', h'.objs.size = h.objs.size → St g L h' (frL ns533 [v0, some v, v2, v3]) mu → U () h') : W w A (storeName (env533 L) s_size v) h U := W_st S rfl (by kernel_rfl) (by kernel_rfl) fun h' e S' => p h' e (S'.as (frL_set 1 rfl (by simp) (by decide +kernel)))
theorem ld533_start {v0 v1 v3 : Option Value} (S : St g L h (frL ns533 [v0, v1, some v, v3]) mu) (p : P v h) : W w A (eval (.Name s_start pos) (env533 L)) h P := W_nameL S rfl (by kernel_rfl) (by kernel_rfl) (by kernel_rfl) (by kernel_rfl) p
theorem st533_start {v0 v1 v2 v3 : Option Value} (S : St g L h (frL ns533 [v0, v1, v2, v3]) mu) (p : ∀ h', h'.objs.size = h.objs.size → St g L h' (frL ns533 [v0, v1, some v, v3]) mu → U () h') : W w A (storeName (env533 L) s_start v) h U := W_st S rfl (by kernel_rfl) (by kernel_rfl) fun h' e S' => p h' e (S'.as (frL_set 2 rfl (by simp) (by decide +kernel)))
theorem ld533_stop {v0 v1 v2 : Option Value} (S : St g L h (frL ns533 [v0, v1, v2, some v]) mu) (p : P v h) : W w A (eval (.Name s_stop pos) (env533 L)) h P := W_nameL S rfl (by kernel_rfl) (by kernel_rfl) (by kernel_rfl) (by kernel_rfl) p
theorem st533_stop {v0 v1 v2 v3 : Option Value} (S : St g L h (frL ns533 [v0, v1, v2, v3]) mu) (p : ∀ h', h'.objs.size = h.objs.size → St g L h' (frL ns533 [v0, v1, v2, some v]) mu → U () h') : W w A (storeName (env533 L) s_stop v) h U := W_st S rfl (by kernel_rfl) (by kernel_rfl) fun h' e S' => p h' e (S'.as (frL_set 3 rfl (by simp) (by decide +kernel)))
theorem gl533__index (G : Gr w g) (S : St g L h m mu) (p : P (.ref 53) h) : W w A (eval (.Name s__index pos) (env533 L)) h P := W_nameG G S.keep rfl (by kernel_rfl) (by kernel_rfl) (by kernel_rfl) (by kernel_rfl) p
theorem gl533_len (G : Gr w g) (S : St g L h m mu) (p : P (.builtin "len") h) : W w A (eval (.Name s_len pos) (env533 L)) h P := W_nameB G S.keep rfl rfl (by kernel_rfl) (by kernel_rfl) (by kernel_rfl) (by kernel_rfl) nn_len bb_len p
theorem en533 {u0 u1 : Value} (G : Gr w g) (x : Ext g h) (hm : ∀ p ∈ mu, h.get? p.1 = some p.2 ∧ g.get? p.1 = none) (nd : (mu.map (·.1)).Nodup) (hA : A.depth < 900)
    (H : ∀ L h₁, L = h.objs.size → St g L h₁ (frL ns533 [some (u0), some (u1), none, none]) mu → Ext h h₁ → W w (A.deeper (env533 L)) (execs (fnBod (mtAt 10 25)) (env533 L)) h₁ fun fl h' => P (retOf fl) h') : WC w A (.call (.ref 533) ⟨[u0, u1], []⟩) h P :=
  W_call_def (fd := fd533) (ns := [s_self, s_size]) (rest := [s_start, s_stop]) (as := [u0, u1]) G x hm nd hA (by kernel_rfl) (by kernel_rfl) rfl (fun s X => binds_K X rfl (show (kK w.params).lookup 526 = some (o526 w.params) from by kernel_rfl) (show (o526 w.params).data = .seq ([.int (-1) 863]).toArray 0 from rfl) rfl rfl) rfl (by kernel_rfl) (by kernel_rfl) (by kernel_rfl) (by kernel_rfl) (by kernel_rfl) (by kernel_rfl) H
noncomputable abbrev env541 (L : Addr) : Env := callEnv fd541 L 541
noncomputable abbrev ns541 : List Str := [s_self, s_size]
theorem ld541_self {v1 : Option Value} (S : St g L h (frL ns541 [some v, v1]) mu) (p : P v h) : W w A (eval (.Name s_self pos) (env541 L)) h P := W_nameL S rfl (by kernel_rfl) (by kernel_rfl) (by kernel_rfl) (by kernel_rfl) p
theorem ld541_size {v0 : Option Value} (S : St g L h (frL ns541 [v0, some v]) mu) (p : P v h) : W w A (eval (.Name s_size pos) (env541 L)) h P := W_nameL S rfl (by kernel_rfl) (by kernel_rfl) (by kernel_rfl) (by kernel_rfl) p
theorem st541_size {v0 v1 : Option Value} (S : St g L h (frL ns541 [v0, v1]) mu) (p : ∀ h', h'.objs.size = h.objs.size → St g L h' (frL ns541 [v0, some v]) mu → U () h') : W w A (storeName (env541 L) s_size v) h U := W_st S rfl (by kernel_rfl) (by kernel_rfl) fun h' e S' => p h' e (S'.as (frL_set 1 rfl (by simp) (by decide +kernel)))
theorem gl541__index (G : Gr w g) (S : St g L h m mu) (p : P (.ref 53) h) : W w A (eval (.Name s__index pos) (env541 L)) h P := W_nameG G S.keep rfl (by kernel_rfl) (by kernel_rfl) (by kernel_rfl) (by kernel_rfl) p
theorem en541d {u0 : Value} (G : Gr w g) (x : Ext g h) (hm : ∀ p ∈ mu, h.get? p.1 = some p.2 ∧ g.get? p.1 = none) (nd : (mu.map (·.1)).Nodup) (hA : A.depth < 900)
    (H : ∀ L h₁, L = h.objs.size → St g L h₁ (frL ns541 [some (u0), some (.int (-1) 875)]) mu → Ext h h₁ → W w (A.deeper (env541 L)) (execs (fnBod (mtAt 10 26)) (env541 L)) h₁ fun fl h' => P (retOf fl) h') : WC w A (.call (.ref 541) ⟨[u0], []⟩) h P :=
  W_call_def (fd := fd541) (ns := [s_self, s_size]) (rest := []) (as := [u0, .int (-1) 875]) G x hm nd hA (by kernel_rfl) (by kernel_rfl) rfl (fun s X => binds_K X rfl (show (kK w.params).lookup 534 = some (o534 w.params) from by kernel_rfl) (show (o534 w.params).data = .seq ([.int (-1) 875]).toArray 0 from rfl) rfl rfl) rfl (by kernel_rfl) (by kernel_rfl) (by kernel_rfl) (by kernel_rfl) (by kernel_rfl) (by kernel_rfl) H
noncomputable abbrev env646 (L : Addr) : Env := callEnv fd646 L 646
noncomputable abbrev ns646 : List Str := [s_self, s_instream, s_infile, s_posix, s_punctuation_chars, s_t]
theorem ld646_self {v1 v2 v3 v4 v5 : Option Value} (S : St g L h (frL ns646 [some v, v1, v2, v3, v4, v5]) mu) (p : P v h) : W w A (eval (.Name s_self pos) (env646 L)) h P := W_nameL S rfl (by kernel_rfl) (by kernel_rfl) (by kernel_rfl) (by kernel_rfl) p
theorem ld646_instream {v0 v2 v3 v4 v5 : Option Value} (S : St g L h (frL ns646 [v0, some v, v2, v3, v4, v5]) mu) (p : P v h) : W w A (eval (.Name s_instream pos) (env646 L)) h P := W_nameL S rfl (by kernel_rfl) (by kernel_rfl) (by kernel_rfl) (by kernel_rfl) p
theorem st646_instream {v0 v1 v2 v3 v4 v5 : Option Value} (S : St g L h (frL ns646 [v0, v1, v2, v3, v4, v5]) mu) (p : ∀ h', h'.objs.size = h.objs.size → St g L h' (frL ns646 [v0, some v, v2, v3, v4, v5]) mu → U () h') : W w A (storeName (env646 L) s_instream v) h U := W_st S rfl (by kernel_rfl) (by kernel_rfl) fun h' e S' => p h' e (S'.as (frL_set 1 rfl (by simp) (by decide +kernel)))
theorem ld646_infile {v0 v1 v3 v4 v5 : Option Value} (S : St g L h (frL ns646 [v0, v1, some v, v3, v4, v5]) mu) (p : P v h) : W w A (eval (.Name s_infile pos) (env646 L)) h P := W_nameL S rfl (by kernel_rfl) (by kernel_rfl) (by kernel_rfl) (by kernel_rfl) p
theorem ld646_posix {v0 v1 v2 v4 v5 : Option Value} (S : St g L h (frL ns646 [v0, v1, v2, some v, v4, v5]) mu) (p : P v h) : W w A (eval (.Name s_posix pos) (env646 L)) h P := W_nameL S rfl (by kernel_rfl) (by kernel_rfl) (by kernel_rfl) (by kernel_rfl) p
theorem ld646_punctuation_chars {v0 v1 v2 v3 v5 : Option Value} (S : St g L h (frL ns646 [v0, v1, v2, v3, some v, v5]) mu) (p : P v h) : W w A (eval (.Name s_punctuation_chars pos) (env646 L)) h P := W_nameL S rfl (by kernel_rfl) (by kernel_rfl) (by kernel_rfl) (by kernel_rfl) p
theorem st646_punctuation_chars {v0 v1 v2 v3 v4 v5 : Option Value} (S : St g L h (frL ns646 [v0, v1, v2, v3, v4, v5]) mu) (p : ∀ h', h'.objs.size = h.objs.size → St g L h' (frL ns646 [v0, v1, v2, v3, some v, v5]) mu → U () h') : W w A (storeName (env646 L) s_punctuation_chars v) h U := W_st S rfl (by kernel_rfl) (by kernel_rfl) fun h' e S' => p h' e (S'.as (frL_set 4 rfl (by simp) (by decide +kernel)))
theorem gl646_isinstance (G : Gr w g) (S : St g L h m mu) (p : P (.builtin "isinstance") h) : W w A (eval (.Name s_isinstance pos) (env646 L)) h P := W_nameB G S.keep rfl rfl (by kernel_rfl) (by kernel_rfl) (by kernel_rfl) (by kernel_rfl) nn_isinstance bb_isinstance p
theorem gl646_str (G : Gr w g) (S : St g L h m mu) (p : P (.type "str") h) : W w A (eval (.Name s_str pos) (env646 L)) h P := W_nameB G S.keep rfl rfl (by kernel_rfl) (by kernel_rfl) (by kernel_rfl) (by kernel_rfl) nn_str bb_str p
theorem gl646_StringIO (G : Gr w g) (S : St g L h m mu) (p : P (.ref 587) h) : W w A (eval (.Name s_StringIO pos) (env646 L)) h P := W_nameG G S.keep rfl (by kernel_rfl) (by kernel_rfl) (by kernel_rfl) (by kernel_rfl) p
theorem gl646_deque (G : Gr w g) (S : St g L h m mu) (p : P (.type "collections.deque") h) : W w A (eval (.Name s_deque pos) (env646 L)) h P := W_nameG G S.keep rfl (by kernel_rfl) (by kernel_rfl) (by kernel_rfl) (by kernel_rfl) p
theorem en646d {u0 u1 u2 u3 : Value} (G : Gr w g) (x : Ext g h) (hm : ∀ p ∈ mu, h.get? p.1 = some p.2 ∧ g.get? p.1 = none) (nd : (mu.map (·.1)).Nodup) (hA : A.depth < 900)
    (H : ∀ L h₁, L = h.objs.size → St g L h₁ (frL ns646 [some (u0), some (u1), some (u2), some (u3), some (.bool false), none]) mu → Ext h h₁ → W w (A.deeper (env646 L)) (execs (fnBod (mtAt 19 0)) (env646 L)) h₁ fun fl h' => P (retOf fl) h') : WC w A (.call (.ref 646) ⟨[u0, u1, u2, u3], []⟩) h P :=
  W_call_def (fd := fd646) (ns := [s_self, s_instream, s_infile, s_posix, s_punctuation_chars]) (rest := [s_t]) (as := [u0, u1, u2, u3, .bool false]) G x hm nd hA (by kernel_rfl) (by kernel_rfl) rfl (fun s X => binds_K X rfl (show (kK w.params).lookup 639 = some (o639 w.params) from by kernel_rfl) (show (o639 w.params).data = .seq ([.none, .none, .bool false, .bool false]).toArray 0 from rfl) rfl rfl) rfl (by kernel_rfl) (by kernel_rfl) (by kernel_rfl) (by kernel_rfl) (by kernel_rfl) (by kernel_rfl) H
noncomputable abbrev env653 (L : Addr) : Env := callEnv fd653 L 653
noncomputable abbrev ns653 : List Str := [s_self]
theorem ld653_self (S : St g L h (frL ns653 [some v]) mu) (p : P v h) : W w A (eval (.Name s_self pos) (env653 L)) h P := W_nameL S rfl (by kernel_rfl) (by kernel_rfl) (by kernel_rfl) (by kernel_rfl) p
theorem en653 {u0 : Value} (G : Gr w g) (x : Ext g h) (hm : ∀ p ∈ mu, h.get? p.1 = some p.2 ∧ g.get? p.1 = none) (nd : (mu.map (·.1)).Nodup) (hA : A.depth < 900)
    (H : ∀ L h₁, L = h.objs.size → St g L h₁ (frL ns653 [some (u0)]) mu → Ext h h₁ → W w (A.deeper (env653 L)) (execs (fnBod (mtAt 19 1)) (env653 L)) h₁ fun fl h' => P (retOf fl) h') : WC w A (.call (.ref 653) ⟨[u0], []⟩) h P :=
  W_call_def (fd := fd653) (ns := [s_self]) (rest := []) (as := [u0]) G x hm nd hA (by kernel_rfl) (by kernel_rfl) rfl (fun s X => BindsTo.of_eq (by kernel_rfl)) rfl (by kernel_rfl) (by kernel_rfl) (by kernel_rfl) (by kernel_rfl) (by kernel_rfl) (by kernel_rfl) H
noncomputable abbrev env683 (L : Addr) : Env := callEnv fd683 L 683
noncomputable abbrev ns683 : List Str := [s_self, s_tok, s_raw, s_spec, s_newfile, s_newstream]
theorem ld683_self {v1 v2 v3 v4 v5 : Option Value} (S : St g L h (frL ns683 [some v, v1, v2, v3, v4, v5]) mu) (p : P v h) : W w A (eval (.Name s_self pos) (env683 L)) h P := W_nameL S rfl (by kernel_rfl) (by kernel_rfl) (by kernel_rfl) (by kernel_rfl) p
theorem ld683_raw {v0 v1 v3 v4 v5 : Option Value} (S : St g L h (frL ns683 [v0, v1, some v, v3, v4, v5]) mu) (p : P v h) : W w A (eval (.Name s_raw pos) (env683 L)) h P := W_nameL S rfl (by kernel_rfl) (by kernel_rfl) (by kernel_rfl) (by kernel_rfl) p
theorem st683_raw {v0 v1 v2 v3 v4 v5 : Option Value} (S : St g L h (frL ns683 [v0, v1, v2, v3, v4, v5]) mu) (p : ∀ h', h'.objs.size = h.objs.size → St g L h' (frL ns683 [v0, v1, some v, v3, v4, v5]) mu → U () h') : W w A (storeName (env683 L) s_raw v) h U := W_st S rfl (by kernel_rfl) (by kernel_rfl) fun h' e S' => p h' e (S'.as (frL_set 2 rfl (by simp) (by decide +kernel)))
theorem en683 {u0 : Value} (G : Gr w g) (x : Ext g h) (hm : ∀ p ∈ mu, h.get? p.1 = some p.2 ∧ g.get? p.1 = none) (nd : (mu.map (·.1)).Nodup) (hA : A.depth < 900)
    (H : ∀ L h₁, L = h.objs.size → St g L h₁ (frL ns683 [some (u0), none, none, none, none, none]) mu → Ext h h₁ → W w (A.deeper (env683 L)) (execs (fnBod (mtAt 19 5)) (env683 L)) h₁ fun fl h' => P (retOf fl) h') : WC w A (.call (.ref 683) ⟨[u0], []⟩) h P :=
  W_call_def (fd := fd683) (ns := [s_self]) (rest := [s_tok, s_raw, s_spec, s_newfile, s_newstream]) (as := [u0]) G x hm nd hA (by kernel_rfl) (by kernel_rfl) rfl (fun s X => BindsTo.of_eq (by kernel_rfl)) rfl (by kernel_rfl) (by kernel_rfl) (by kernel_rfl) (by kernel_rfl) (by kernel_rfl) (by kernel_rfl) H
noncomputable abbrev env690 (L : Addr) : Env := callEnv fd690 L 690
noncomputable abbrev ns690 : List Str := [s_self, s_quoted, s_escapedstate, s_nextchar, s_result]
theorem ld690_self {v1 v2 v3 v4 : Option Value} (S : St g L h (frL ns690 [some v, v1, v2, v3, v4]) mu) (p : P v h) : W w A (eval (.Name s_self pos) (env690 L)) h P := W_nameL S rfl (by kernel_rfl) (by kernel_rfl) (by kernel_rfl) (by kernel_rfl) p
theorem ld690_quoted {v0 v2 v3 v4 : Option Value} (S : St g L h (frL ns690 [v0, some v, v2, v3, v4]) mu) (p : P v h) : W w A (eval (.Name s_quoted pos) (env690 L)) h P := W_nameL S rfl (by kernel_rfl) (by kernel_rfl) (by kernel_rfl) (by kernel_rfl) p
theorem st690_quoted {v0 v1 v2 v3 v4 : Option Value} (S : St g L h (frL ns690 [v0, v1, v2, v3, v4]) mu) (p : ∀ h', h'.objs.size = h.objs.size → St g L h' (frL ns690 [v0, some v, v2, v3, v4]) mu → U () h') : W w A (storeName (env690 L) s_quoted v) h U := W_st S rfl (by kernel_rfl) (by kernel_rfl) fun h' e S' => p h' e (S'.as (frL_set 1 rfl (by simp) (by decide +kernel)))
theorem st690_escapedstate {v0 v1 v2 v3 v4 : Option Value} (S : St g L h (frL ns690 [v0, v1, v2, v3, v4]) mu) (p : ∀ h', h'.objs.size = h.objs.size → St g L h' (frL ns690 [v0, v1, some v, v3, v4]) mu → U () h') : W w A (storeName (env690 L) s_escapedstate v) h U := W_st S rfl (by kernel_rfl) (by kernel_rfl) fun h' e S' => p h' e (S'.as (frL_set 2 rfl (by simp) (by decide +kernel)))
theorem ld690_nextchar {v0 v1 v2 v4 : Option Value} (S : St g L h (frL ns690 [v0, v1, v2, some v, v4]) mu) (p : P v h) : W w A (eval (.Name s_nextchar pos) (env690 L)) h P := W_nameL S rfl (by kernel_rfl) (by kernel_rfl) (by kernel_rfl) (by kernel_rfl) p
theorem st690_nextchar {v0 v1 v2 v3 v4 : Option Value} (S : St g L h (frL ns690 [v0, v1, v2, v3, v4]) mu) (p : ∀ h', h'.objs.size = h.objs.size → St g L h' (frL ns690 [v0, v1, v2, some v, v4]) mu → U () h') : W w A (storeName (env690 L) s_nextchar v) h U := W_st S rfl (by kernel_rfl) (by kernel_rfl) fun h' e S' => p h' e (S'.as (frL_set 3 rfl (by simp) (by decide +kernel)))
theorem ld690_result {v0 v1 v2 v3 : Option Value} (S : St g L h (frL ns690 [v0, v1, v2, v3, some v]) mu) (p : P v h) : W w A (eval (.Name s_result pos) (env690 L)) h P := W_nameL S rfl (by kernel_rfl) (by kernel_rfl) (by kernel_rfl) (by kernel_rfl) p
theorem st690_result {v0 v1 v2 v3 v4 : Option Value} (S : St g L h (frL ns690 [v0, v1, v2, v3, v4]) mu) (p : ∀ h', h'.objs.size = h.objs.size → St g L h' (frL ns690 [v0, v1, v2, v3, some v]) mu → U () h') : W w A (storeName (env690 L) s_result v) h U := W_st S rfl (by kernel_rfl) (by kernel_rfl) fun h' e S' => p h' e (S'.as (frL_set 4 rfl (by simp) (by decide +kernel)))
theorem en690 {u0 : Value} (G : Gr w g) (x : Ext g h) (hm : ∀ p ∈ mu, h.get? p.1 = some p.2 ∧ g.get? p.1 = none) (nd : (mu.map (·.1)).Nodup) (hA : A.depth < 900)
    (H : ∀ L h₁, L = h.objs.size → St g L h₁ (frL ns690 [some (u0), none, none, none, none]) mu → Ext h h₁ → W w (A.deeper (env690 L)) (execs (fnBod (mtAt 19 6)) (env690 L)) h₁ fun fl h' => P (retOf fl) h') : WC w A (.call (.ref 690) ⟨[u0], []⟩) h P :=
  W_call_def (fd := fd690) (ns := [s_self]) (rest := [s_quoted, s_escapedstate, s_nextchar, s_result]) (as := [u0]) G x hm nd hA (by kernel_rfl) (by kernel_rfl) rfl (fun s X => BindsTo.of_eq (by kernel_rfl)) rfl (by kernel_rfl) (by kernel_rfl) (by kernel_rfl) (by kernel_rfl) (by kernel_rfl) (by kernel_rfl) H
noncomputable abbrev env705 (L : Addr) : Env := callEnv fd705 L 705
noncomputable abbrev ns705 : List Str := [s_self, s_infile, s_lineno]
theorem ld705_self {v1 v2 : Option Value} (S : St g L h (frL ns705 [some v, v1, v2]) mu) (p : P v h) : W w A (eval (.Name s_self pos) (env705 L)) h P := W_nameL S rfl (by kernel_rfl) (by kernel_rfl) (by kernel_rfl) (by kernel_rfl) p
theorem ld705_infile {v0 v2 : Option Value} (S : St g L h (frL ns705 [v0, some v, v2]) mu) (p : P v h) : W w A (eval (.Name s_infile pos) (env705 L)) h P := W_nameL S rfl (by kernel_rfl) (by kernel_rfl) (by kernel_rfl) (by kernel_rfl) p
theorem st705_infile {v0 v1 v2 : Option Value} (S : St g L h (frL ns705 [v0, v1, v2]) mu) (p : ∀ h', h'.objs.size = h.objs.size → St g L h' (frL ns705 [v0, some v, v2]) mu → U () h') : W w A (storeName (env705 L) s_infile v) h U := W_st S rfl (by kernel_rfl) (by kernel_rfl) fun h' e S' => p h' e (S'.as (frL_set 1 rfl (by simp) (by decide +kernel)))
theorem ld705_lineno {v0 v1 : Option Value} (S : St g L h (frL ns705 [v0, v1, some v]) mu) (p : P v h) : W w A (eval (.Name s_lineno pos) (env705 L)) h P := W_nameL S rfl (by kernel_rfl) (by kernel_rfl) (by kernel_rfl) (by kernel_rfl) p
theorem st705_lineno {v0 v1 v2 : Option Value} (S : St g L h (frL ns705 [v0, v1, v2]) mu) (p : ∀ h', h'.objs.size = h.objs.size → St g L h' (frL ns705 [v0, v1, some v]) mu → U () h') : W w A (storeName (env705 L) s_lineno v) h U := W_st S rfl (by kernel_rfl) (by kernel_rfl) fun h' e S' => p h' e (S'.as (frL_set 2 rfl (by simp) (by decide +kernel)))
theorem en705d {u0 : Value} (G : Gr w g) (x : Ext g h) (hm : ∀ p ∈ mu, h.get? p.1 = some p.2 ∧ g.get? p.1 = none) (nd : (mu.map (·.1)).Nodup) (hA : A.depth < 900)
    (H : ∀ L h₁, L = h.objs.size → St g L h₁ (frL ns705 [some (u0), some (.none), some (.none)]) mu → Ext h h₁ → W w (A.deeper (env705 L)) (execs (fnBod (mtAt 19 8)) (env705 L)) h₁ fun fl h' => P (retOf fl) h') : WC w A (.call (.ref 705) ⟨[u0], []⟩) h P :=
  W_call_def (fd := fd705) (ns := [s_self, s_infile, s_lineno]) (rest := []) (as := [u0, .none, .none]) G x hm nd hA (by kernel_rfl) (by kernel_rfl) rfl (fun s X => binds_K X rfl (show (kK w.params).lookup 698 = some (o698 w.params) from by kernel_rfl) (show (o698 w.params).data = .seq ([.none, .none]).toArray 0 from rfl) rfl rfl) rfl (by kernel_rfl) (by kernel_rfl) (by kernel_rfl) (by kernel_rfl) (by kernel_rfl) (by kernel_rfl) H
noncomputable abbrev env733 (L : Addr) : Env := callEnv fd733 L 733
noncomputable abbrev ns733 : List Str := [s_target, s_source, s_cc, s_nc, s_tt, s_ct, s_callers, s_t_cc, s_t_nc, s_t_tt, s_t_ct, s_t_callers]
theorem ld733_target {v1 v2 v3 v4 v5 v6 v7 v8 v9 v10 v11 : Option Value} (S : St g L h (frL ns733 [some v, v1, v2, v3, v4, v5, v6, v7, v8, v9, v10, v11]) mu) (p : P v h) : W w A (eval (.Name s_target pos) (env733 L)) h P := W_nameL S rfl (by kernel_rfl) (by kernel_rfl) (by kernel_rfl) (by kernel_rfl) p
theorem ld733_source {v0 v2 v3 v4 v5 v6 v7 v8 v9 v10 v11 : Option Value} (S : St g L h (frL ns733 [v0, some v, v2, v3, v4, v5, v6, v7, v8, v9, v10, v11]) mu) (p : P v h) : W w A (eval (.Name s_source pos) (env733 L)) h P := W_nameL S rfl (by kernel_rfl) (by kernel_rfl) (by kernel_rfl) (by kernel_rfl) p
theorem ld733_cc {v0 v1 v3 v4 v5 v6 v7 v8 v9 v10 v11 : Option Value} (S : St g L h (frL ns733 [v0, v1, some v, v3, v4, v5, v6, v7, v8, v9, v10, v11]) mu) (p : P v h) : W w A (eval (.Name s_cc pos) (env733 L)) h P := W_nameL S rfl (by kernel_rfl) (by kernel_rfl) (by kernel_rfl) (by kernel_rfl) p
theorem st733_cc {v0 v1 v2 v3 v4 v5 v6 v7 v8 v9 v10 v11 : Option Value} (S : St g L h (frL ns733 [v0, v1, v2, v3, v4, v5, v6, v7, v8, v9, v10, v11]) mu) (p : ∀ h', h'.objs.size = h.objs.size → St g L h' (frL ns733 [v0, v1, some v, v3, v4, v5, v6, v7, v8, v9, v10, v11]) mu → U () h') : W w A (storeName (env733 L) s_cc v) h U := W_st S rfl (by kernel_rfl) (by kernel_rfl) fun h' e S' => p h' e (S'.as (frL_set 2 rfl (by simp) (by decide +kernel)))
theorem ld733_nc {v0 v1 v2 v4 v5 v6 v7 v8 v9 v10 v11 : Option Value} (S : St g L h (frL ns733 [v0, v1, v2, some v, v4, v5, v6, v7, v8, v9, v10, v11]) mu) (p : P v h) : W w A (eval (.Name s_nc pos) (env733 L)) h P := W_nameL S rfl (by kernel_rfl) (by kernel_rfl) (by kernel_rfl) (by kernel_rfl) p
theorem st733_nc {v0 v1 v2 v3 v4 v5 v6 v7 v8 v9 v10 v11 : Option Value} (S : St g L h (frL ns733 [v0, v1, v2, v3, v4, v5, v6, v7, v8, v9, v10, v11]) mu) (p : ∀ h', h'.objs.size = h.objs.size → St g L h' (frL ns733 [v0, v1, v2, some v, v4, v5, v6, v7, v8, v9, v10, v11]) mu → U () h') : W w A (storeName (env733 L) s_nc v) h U := W_st S rfl (by kernel_rfl) (by kernel_rfl) fun h' e S' => p h' e (S'.as (frL_set 3 rfl (by simp) (by decide +kernel)))
theorem ld733_tt {v0 v1 v2 v3 v5 v6 v7 v8 v9 v10 v11 : Option Value} (S : St g L h (frL ns733 [v0, v1, v2, v3, some v, v5, v6, v7, v8, v9, v10, v11]) mu) (p : P v h) : W w A (eval (.Name s_tt pos) (env733 L)) h P := W_nameL S rfl (by kernel_rfl) (by kernel_rfl) (by kernel_rfl) (by kernel_rfl) p
theorem st733_tt {v0 v1 v2 v3 v4 v5 v6 v7 v8 v9 v10 v11 : Option Value} (S : St g L h (frL ns733 [v0, v1, v2, v3, v4, v5, v6, v7, v8, v9, v10, v11]) mu) (p : ∀ h', h'.objs.size = h.objs.size → St g L h' (frL ns733 [v0, v1, v2, v3, some v, v5, v6, v7, v8, v9, v10, v11]) mu → U () h') : W w A (storeName (env733 L) s_tt v) h U := W_st S rfl (by kernel_rfl) (by kernel_rfl) fun h' e S' => p h' e (S'.as (frL_set 4 rfl (by simp) (by decide +kernel)))
theorem ld733_ct {v0 v1 v2 v3 v4 v6 v7 v8 v9 v10 v11 : Option Value} (S : St g L h (frL ns733 [v0, v1, v2, v3, v4, some v, v6, v7, v8, v9, v10, v11]) mu) (p : P v h) : W w A (eval (.Name s_ct pos) (env733 L)) h P := W_nameL S rfl (by kernel_rfl) (by kernel_rfl) (by kernel_rfl) (by kernel_rfl) p
theorem st733_ct {v0 v1 v2 v3 v4 v5 v6 v7 v8 v9 v10 v11 : Option Value} (S : St g L h (frL ns733 [v0, v1, v2, v3, v4, v5, v6, v7, v8, v9, v10, v11]) mu) (p : ∀ h', h'.objs.size = h.objs.size → St g L h' (frL ns733 [v0, v1, v2, v3, v4, some v, v6, v7, v8, v9, v10, v11]) mu → U () h') : W w A (storeName (env733 L) s_ct v) h U := W_st S rfl (by kernel_rfl) (by kernel_rfl) fun h' e S' => p h' e (S'.as (frL_set 5 rfl (by simp) (by decide +kernel)))
theorem ld733_callers {v0 v1 v2 v3 v4 v5 v7 v8 v9 v10 v11 : Option Value} (S : St g L h (frL ns733 [v0, v1, v2, v3, v4, v5, some v, v7, v8, v9, v10, v11]) mu) (p : P v h) : W w A (eval (.Name s_callers pos) (env733 L)) h P := W_nameL S rfl (by kernel_rfl) (by kernel_rfl) (by kernel_rfl) (by kernel_rfl) p
theorem st733_callers {v0 v1 v2 v3 v4 v5 v6 v7 v8 v9 v10 v11 : Option Value} (S : St g L h (frL ns733 [v0, v1, v2, v3, v4, v5, v6, v7, v8, v9, v10, v11]) mu) (p : ∀ h', h'.objs.size = h.objs.size → St g L h' (frL ns733 [v0, v1, v2, v3, v4, v5, some v, v7, v8, v9, v10, v11]) mu → U () h') : W w A (storeName (env733 L) s_callers v) h U := W_st S rfl (by kernel_rfl) (by kernel_rfl) fun h' e S' => p h' e (S'.as (frL_set 6 rfl (by simp) (by decide +kernel)))
theorem ld733_t_cc {v0 v1 v2 v3 v4 v5 v6 v8 v9 v10 v11 : Option Value} (S : St g L h (frL ns733 [v0, v1, v2, v3, v4, v5, v6, some v, v8, v9, v10, v11]) mu) (p : P v h) : W w A (eval (.Name s_t_cc pos) (env733 L)) h P := W_nameL S rfl (by kernel_rfl) (by kernel_rfl) (by kernel_rfl) (by kernel_rfl) p
theorem st733_t_cc {v0 v1 v2 v3 v4 v5 v6 v7 v8 v9 v10 v11 : Option Value} (S : St g L h (frL ns733 [v0, v1, v2, v3, v4, v5, v6, v7, v8, v9, v10, v11]) mu) (p : ∀ h', h'.objs.size = h.objs.size → St g L h' (frL ns733 [v0, v1, v2, v3, v4, v5, v6, some v, v8, v9, v10, v11]) mu → U () h') : W w A (storeName (env733 L) s_t_cc v) h U := W_st S rfl (by kernel_rfl) (by kernel_rfl) fun h' e S' => p h' e (S'.as (frL_set 7 rfl (by simp) (by decide +kernel)))
theorem ld733_t_nc {v0 v1 v2 v3 v4 v5 v6 v7 v9 v10 v11 : Option Value} (S : St g L h (frL ns733 [v0, v1, v2, v3, v4, v5, v6, v7, some v, v9, v10, v11]) mu) (p : P v h) : W w A (eval (.Name s_t_nc pos) (env733 L)) h P := W_nameL S rfl (by kernel_rfl) (by kernel_rfl) (by kernel_rfl) (by kernel_rfl) p
theorem st733_t_nc {v0 v1 v2 v3 v4 v5 v6 v7 v8 v9 v10 v11 : Option Value} (S : St g L h (frL ns733 [v0, v1, v2, v3, v4, v5, v6, v7, v8, v9, v10, v11]) mu) (p : ∀ h', h'.objs.size = h.objs.size → St g L h' (frL ns733 [v0, v1, v2, v3, v4, v5, v6, v7, some v, v9, v10, v11]) mu → U () h') : W w A (storeName (env733 L) s_t_nc v) h U := W_st S rfl (by kernel_rfl) (by kernel_rfl) fun h' e S' => p h' e (S'.as (frL_set 8 rfl (by simp) (by decide +kernel)))
theorem ld733_t_tt {v0 v1 v2 v3 v4 v5 v6 v7 v8 v10 v11 : Option Value} (S : St g L h (frL ns733 [v0, v1, v2, v3, v4, v5, v6, v7, v8, some v, v10, v11]) mu) (p : P v h) : W w A (eval (.Name s_t_tt pos) (env733 L)) h P := W_nameL S rfl (by kernel_rfl) (by kernel_rfl) (by kernel_rfl) (by kernel_rfl) p
theorem st733_t_tt {v0 v1 v2 v3 v4 v5 v6 v7 v8 v9 v10 v11 : Option Value} (S : St g L h (frL ns733 [v0, v1, v2, v3, v4, v5, v6, v7, v8, v9, v10, v11]) mu) (p : ∀ h', h'.objs.size = h.objs.size → St g L h' (frL ns733 [v0, v1, v2, v3, v4, v5, v6, v7, v8, some v, v10, v11]) mu → U () h') : W w A (storeName (env733 L) s_t_tt v) h U := W_st S rfl (by kernel_rfl) (by kernel_rfl) fun h' e S' => p h' e (S'.as (frL_set 9 rfl (by simp) (by decide +kernel)))
theorem ld733_t_ct {v0 v1 v2 v3 v4 v5 v6 v7 v8 v9 v11 : Option Value} (S : St g L h (frL ns733 [v0, v1, v2, v3, v4, v5, v6, v7, v8, v9, some v, v11]) mu) (p : P v h) : W w A (eval (.Name s_t_ct pos) (env733 L)) h P := W_nameL S rfl (by kernel_rfl) (by kernel_rfl) (by kernel_rfl) (by kernel_rfl) p
theorem st733_t_ct {v0 v1 v2 v3 v4 v5 v6 v7 v8 v9 v10 v11 : Option Value} (S : St g L h (frL ns733 [v0, v1, v2, v3, v4, v5, v6, v7, v8, v9, v10, v11]) mu) (p : ∀ h', h'.objs.size = h.objs.size → St g L h' (frL ns733 [v0, v1, v2, v3, v4, v5, v6, v7, v8, v9, some v, v11]) mu → U () h') : W w A (storeName (env733 L) s_t_ct v) h U := W_st S rfl (by kernel_rfl) (by kernel_rfl) fun h' e S' => p h' e (S'.as (frL_set 10 rfl (by simp) (by decide +kernel)))
theorem ld733_t_callers {v0 v1 v2 v3 v4 v5 v6 v7 v8 v9 v10 : Option Value} (S : St g L h (frL ns733 [v0, v1, v2, v3, v4, v5, v6, v7, v8, v9, v10, some v]) mu) (p : P v h) : W w A (eval (.Name s_t_callers pos) (env733 L)) h P := W_nameL S rfl (by kernel_rfl) (by kernel_rfl) (by kernel_rfl) (by kernel_rfl) p
theorem st733_t_callers {v0 v1 v2 v3 v4 v5 v6 v7 v8 v9 v10 v11 : Option Value} (S : St g L h (frL ns733 [v0, v1, v2, v3, v4, v5, v6, v7, v8, v9, v10, v11]) mu) (p : ∀ h', h'.objs.size = h.objs.size → St g L h' (frL ns733 [v0, v1, v2, v3, v4, v5, v6, v7, v8, v9, v10, some v]) mu → U () h') : W w A (storeName (env733 L) s_t_callers v) h U := W_st S rfl (by kernel_rfl) (by kernel_rfl) fun h' e S' => p h' e (S'.as (frL_set 11 rfl (by simp) (by decide +kernel)))
theorem gl733_add_callers (G : Gr w g) (S : St g L h m mu) (p : P (.ref 740) h) : W w A (eval (.Name s_add_callers pos) (env733 L)) h P := W_nameG G S.keep rfl (by kernel_rfl) (by kernel_rfl) (by kernel_rfl) (by kernel_rfl) p
theorem en733 {u0 u1 : Value} (G : Gr w g) (x : Ext g h) (hm : ∀ p ∈ mu, h.get? p.1 = some p.2 ∧ g.get? p.1 = none) (nd : (mu.map (·.1)).Nodup) (hA : A.depth < 900)
    (H : ∀ L h₁, L = h.objs.size → St g L h₁ (frL ns733 [some (u0), some (u1), none, none, none, none, none, none, none, none, none, none]) mu → Ext h h₁ → W w (A.deeper (env733 L)) (execs (fnBod (stAt 21)) (env733 L)) h₁ fun fl h' => P (retOf fl) h') : WC w A (.call (.ref 733) ⟨[u0, u1], []⟩) h P :=
  W_call_def (fd := fd733) (ns := [s_target, s_source]) (rest := [s_cc, s_nc, s_tt, s_ct, s_callers, s_t_cc, s_t_nc, s_t_tt, s_t_ct, s_t_callers]) (as := [u0, u1]) G x hm nd hA (by kernel_rfl) (by kernel_rfl) rfl (fun s X => BindsTo.of_eq (by kernel_rfl)) rfl (by kernel_rfl) (by kernel_rfl) (by kernel_rfl) (by kernel_rfl) (by kernel_rfl) (by kernel_rfl) H
noncomputable abbrev env740 (L : Addr) : Env := callEnv fd740 L 740
noncomputable abbrev ns740 : List Str := [s_target, s_source, s_new_callers, s_func, s_caller]
theorem ld740_target {v1 v2 v3 v4 : Option Value} (S : St g L h (frL ns740 [some v, v1, v2, v3, v4]) mu) (p : P v h) : W w A (eval (.Name s_target pos) (env740 L)) h P := W_nameL S rfl (by kernel_rfl) (by kernel_rfl) (by kernel_rfl) (by kernel_rfl) p
theorem ld740_source {v0 v2 v3 v4 : Option Value} (S : St g L h (frL ns740 [v0, some v, v2, v3, v4]) mu) (p : P v h) : W w A (eval (.Name s_source pos) (env740 L)) h P := W_nameL S rfl (by kernel_rfl) (by kernel_rfl) (by kernel_rfl) (by kernel_rfl) p
theorem ld740_new_callers {v0 v1 v3 v4 : Option Value} (S : St g L h (frL ns740 [v0, v1, some v, v3, v4]) mu) (p : P v h) : W w A (eval (.Name s_new_callers pos) (env740 L)) h P := W_nameL S rfl (by kernel_rfl) (by kernel_rfl) (by kernel_rfl) (by kernel_rfl) p
theorem st740_new_callers {v0 v1 v2 v3 v4 : Option Value} (S : St g L h (frL ns740 [v0, v1, v2, v3, v4]) mu) (p : ∀ h', h'.objs.size = h.objs.size → St g L h' (frL ns740 [v0, v1, some v, v3, v4]) mu → U () h') : W w A (storeName (env740 L) s_new_callers v) h U := W_st S rfl (by kernel_rfl) (by kernel_rfl) fun h' e S' => p h' e (S'.as (frL_set 2 rfl (by simp) (by decide +kernel)))
theorem ld740_func {v0 v1 v2 v4 : Option Value} (S : St g L h (frL ns740 [v0, v1, v2, some v, v4]) mu) (p : P v h) : W w A (eval (.Name s_func pos) (env740 L)) h P := W_nameL S rfl (by kernel_rfl) (by kernel_rfl) (by kernel_rfl) (by kernel_rfl) p
theorem st740_func {v0 v1 v2 v3 v4 : Option Value} (S : St g L h (frL ns740 [v0, v1, v2, v3, v4]) mu) (p : ∀ h', h'.objs.size = h.objs.size → St g L h' (frL ns740 [v0, v1, v2, some v, v4]) mu → U () h') : W w A (storeName (env740 L) s_func v) h U := W_st S rfl (by kernel_rfl) (by kernel_rfl) fun h' e S' => p h' e (S'.as (frL_set 3 rfl (by simp) (by decide +kernel)))
theorem ld740_caller {v0 v1 v2 v3 : Option Value} (S : St g L h (frL ns740 [v0, v1, v2, v3, some v]) mu) (p : P v h) : W w A (eval (.Name s_caller pos) (env740 L)) h P := W_nameL S rfl (by kernel_rfl) (by kernel_rfl) (by kernel_rfl) (by kernel_rfl) p
theorem st740_caller {v0 v1 v2 v3 v4 : Option Value} (S : St g L h (frL ns740 [v0, v1, v2, v3, v4]) mu) (p : ∀ h', h'.objs.size = h.objs.size → St g L h' (frL ns740 [v0, v1, v2, v3, some v]) mu → U () h') : W w A (storeName (env740 L) s_caller v) h U := W_st S rfl (by kernel_rfl) (by kernel_rfl) fun h' e S' => p h' e (S'.as (frL_set 4 rfl (by simp) (by decide +kernel)))
theorem gl740_isinstance (G : Gr w g) (S : St g L h m mu) (p : P (.builtin "isinstance") h) : W w A (eval (.Name s_isinstance pos) (env740 L)) h P := W_nameB G S.keep rfl rfl (by kernel_rfl) (by kernel_rfl) (by kernel_rfl) (by kernel_rfl) nn_isinstance bb_isinstance p
theorem gl740_tuple (G : Gr w g) (S : St g L h m mu) (p : P (.type "tuple") h) : W w A (eval (.Name s_tuple pos) (env740 L)) h P := W_nameB G S.keep rfl rfl (by kernel_rfl) (by kernel_rfl) (by kernel_rfl) (by kernel_rfl) nn_tuple bb_tuple p
theorem en740 {u0 u1 : Value} (G : Gr w g) (x : Ext g h) (hm : ∀ p ∈ mu, h.get? p.1 = some p.2 ∧ g.get? p.1 = none) (nd : (mu.map (·.1)).Nodup) (hA : A.depth < 900)
    (H : ∀ L h₁, L = h.objs.size → St g L h₁ (frL ns740 [some (u0), some (u1), none, none, none]) mu → Ext h h₁ → W w (A.deeper (env740 L)) (execs (fnBod (stAt 22)) (env740 L)) h₁ fun fl h' => P (retOf fl) h') : WC w A (.call (.ref 740) ⟨[u0, u1], []⟩) h P :=
  W_call_def (fd := fd740) (ns := [s_target, s_source]) (rest := [s_new_callers, s_func, s_caller]) (as := [u0, u1]) G x hm nd hA (by kernel_rfl) (by kernel_rfl) rfl (fun s X => BindsTo.of_eq (by kernel_rfl)) rfl (by kernel_rfl) (by kernel_rfl) (by kernel_rfl) (by kernel_rfl) (by kernel_rfl) (by kernel_rfl) H
noncomputable abbrev env747 (L : Addr) : Env := callEnv fd747 L 747
noncomputable abbrev ns747 : List Str := [s_callers, s_nc, s_calls]
theorem ld747_callers {v1 v2 : Option Value} (S : St g L h (frL ns747 [some v, v1, v2]) mu) (p : P v h) : W w A (eval (.Name s_callers pos) (env747 L)) h P := W_nameL S rfl (by kernel_rfl) (by kernel_rfl) (by kernel_rfl) (by kernel_rfl) p
theorem ld747_nc {v0 v2 : Option Value} (S : St g L h (frL ns747 [v0, some v, v2]) mu) (p : P v h) : W w A (eval (.Name s_nc pos) (env747 L)) h P := W_nameL S rfl (by kernel_rfl) (by kernel_rfl) (by kernel_rfl) (by kernel_rfl) p
theorem ln747_nc {v0 v2 : Option Value} (S : St g L h (frL ns747 [v0, some v, v2]) mu) (p : P v h) : W w A (loadName (env747 L) s_nc) h P := W_ld S rfl (by kernel_rfl) (by kernel_rfl) (by kernel_rfl) p
theorem st747_nc {v0 v1 v2 : Option Value} (S : St g L h (frL ns747 [v0, v1, v2]) mu) (p : ∀ h', h'.objs.size = h.objs.size → St g L h' (frL ns747 [v0, some v, v2]) mu → U () h') : W w A (storeName (env747 L) s_nc v) h U := W_st S rfl (by kernel_rfl) (by kernel_rfl) fun h' e S' => p h' e (S'.as (frL_set 1 rfl (by simp) (by decide +kernel)))
theorem ld747_calls {v0 v1 : Option Value} (S : St g L h (frL ns747 [v0, v1, some v]) mu) (p : P v h) : W w A (eval (.Name s_calls pos) (env747 L)) h P := W_nameL S rfl (by kernel_rfl) (by kernel_rfl) (by kernel_rfl) (by kernel_rfl) p
theorem st747_calls {v0 v1 v2 : Option Value} (S : St g L h (frL ns747 [v0, v1, v2]) mu) (p : ∀ h', h'.objs.size = h.objs.size → St g L h' (frL ns747 [v0, v1, some v]) mu → U () h') : W w A (storeName (env747 L) s_calls v) h U := W_st S rfl (by kernel_rfl) (by kernel_rfl) fun h' e S' => p h' e (S'.as (frL_set 2 rfl (by simp) (by decide +kernel)))
theorem en747 {u0 : Value} (G : Gr w g) (x : Ext g h) (hm : ∀ p ∈ mu, h.get? p.1 = some p.2 ∧ g.get? p.1 = none) (nd : (mu.map (·.1)).Nodup) (hA : A.depth < 900)
    (H : ∀ L h₁, L = h.objs.size → St g L h₁ (frL ns747 [some (u0), none, none]) mu → Ext h h₁ → W w (A.deeper (env747 L)) (execs (fnBod (stAt 23)) (env747 L)) h₁ fun fl h' => P (retOf fl) h') : WC w A (.call (.ref 747) ⟨[u0], []⟩) h P :=
  W_call_def (fd := fd747) (ns := [s_callers]) (rest := [s_nc, s_calls]) (as := [u0]) G x hm nd hA (by kernel_rfl) (by kernel_rfl) rfl (fun s X => BindsTo.of_eq (by kernel_rfl)) rfl (by kernel_rfl) (by kernel_rfl) (by kernel_rfl) (by kernel_rfl) (by kernel_rfl) (by kernel_rfl) H
noncomputable abbrev env754 (L : Addr) : Env := callEnv fd754 L 754
noncomputable abbrev ns754 : List Str := [s_script, s_names, s_texts, s_words, s_uses, s_name, s_x, s_later, s_kind, s_rest, s_white, s_used, s_mark]
theorem ld754_script {v1 v2 v3 v4 v5 v6 v7 v8 v9 v10 v11 v12 : Option Value} (S : St g L h (frL ns754 [some v, v1, v2, v3, v4, v5, v6, v7, v8, v9, v10, v11, v12]) mu) (p : P v h) : W w A (eval (.Name s_script pos) (env754 L)) h P := W_nameL S rfl (by kernel_rfl) (by kernel_rfl) (by kernel_rfl) (by kernel_rfl) p
theorem ld754_names {v0 v2 v3 v4 v5 v6 v7 v8 v9 v10 v11 v12 : Option Value} (S : St g L h (frL ns754 [v0, some v, v2, v3, v4, v5, v6, v7, v8, v9, v10, v11, v12]) mu) (p : P v h) : W w A (eval (.Name s_names pos) (env754 L)) h P := W_nameL S rfl (by kernel_rfl) (by kernel_rfl) (by kernel_rfl) (by kernel_rfl) p
theorem st754_names {v0 v1 v2 v3 v4 v5 v6 v7 v8 v9 v10 v11 v12 : Option Value} (S : St g L h (frL ns754 [v0, v1, v2, v3, v4, v5, v6, v7, v8, v9, v10, v11, v12]) mu) (p : ∀ h', h'.objs.size = h.objs.size → St g L h' (frL ns754 [v0, some v, v2, v3, v4, v5, v6, v7, v8, v9, v10, v11, v12]) mu → U () h') : W w A (storeName (env754 L) s_names v) h U := W_st S rfl (by kernel_rfl) (by kernel_rfl) fun h' e S' => p h' e (S'.as (frL_set 1 rfl (by simp) (by decide +kernel)))
theorem ld754_texts {v0 v1 v3 v4 v5 v6 v7 v8 v9 v10 v11 v12 : Option Value} (S : St g L h (frL ns754 [v0, v1, some v, v3, v4, v5, v6, v7, v8, v9, v10, v11, v12]) mu) (p : P v h) : W w A (eval (.Name s_texts pos) (env754 L)) h P := W_nameL S rfl (by kernel_rfl) (by kernel_rfl) (by kernel_rfl) (by kernel_rfl) p
theorem st754_texts {v0 v1 v2 v3 v4 v5 v6 v7 v8 v9 v10 v11 v12 : Option Value} (S : St g L h (frL ns754 [v0, v1, v2, v3, v4, v5, v6, v7, v8, v9, v10, v11, v12]) mu) (p : ∀ h', h'.objs.size = h.objs.size → St g L h' (frL ns754 [v0, v1, some v, v3, v4, v5, v6, v7, v8, v9, v10, v11, v12]) mu → U () h') : W w A (storeName (env754 L) s_texts v) h U := W_st S rfl (by kernel_rfl) (by kernel_rfl) fun h' e S' => p h' e (S'.as (frL_set 2 rfl (by simp) (by decide +kernel)))
theorem ld754_words {v0 v1 v2 v4 v5 v6 v7 v8 v9 v10 v11 v12 : Option Value} (S : St g L h (frL ns754 [v0, v1, v2, some v, v4, v5, v6, v7, v8, v9, v10, v11, v12]) mu) (p : P v h) : W w A (eval (.Name s_words pos) (env754 L)) h P := W_nameL S rfl (by kernel_rfl) (by kernel_rfl) (by kernel_rfl) (by kernel_rfl) p
theorem st754_words {v0 v1 v2 v3 v4 v5 v6 v7 v8 v9 v10 v11 v12 : Option Value} (S : St g L h (frL ns754 [v0, v1, v2, v3, v4, v5, v6, v7, v8, v9, v10, v11, v12]) mu) (p : ∀ h', h'.objs.size = h.objs.size → St g L h' (frL ns754 [v0, v1, v2, some v, v4, v5, v6, v7, v8, v9, v10, v11, v12]) mu → U () h') : W w A (storeName (env754 L) s_words v) h U := W_st S rfl (by kernel_rfl) (by kernel_rfl) fun h' e S' => p h' e (S'.as (frL_set 3 rfl (by simp) (by decide +kernel)))
theorem ld754_uses {v0 v1 v2 v3 v5 v6 v7 v8 v9 v10 v11 v12 : Option Value} (S : St g L h (frL ns754 [v0, v1, v2, v3, some v, v5, v6, v7, v8, v9, v10, v11, v12]) mu) (p : P v h) : W w A (eval (.Name s_uses pos) (env754 L)) h P := W_nameL S rfl (by kernel_rfl) (by kernel_rfl) (by kernel_rfl) (by kernel_rfl) p
theorem st754_uses {v0 v1 v2 v3 v4 v5 v6 v7 v8 v9 v10 v11 v12 : Option Value} (S : St g L h (frL ns754 [v0, v1, v2, v3, v4, v5, v6, v7, v8, v9, v10, v11, v12]) mu) (p : ∀ h', h'.objs.size = h.objs.size → St g L h' (frL ns754 [v0, v1, v2, v3, some v, v5, v6, v7, v8, v9, v10, v11, v12]) mu → U () h') : W w A (storeName (env754 L) s_uses v) h U := W_st S rfl (by kernel_rfl) (by kernel_rfl) fun h' e S' => p h' e (S'.as (frL_set 4 rfl (by simp) (by decide +kernel)))
theorem ld754_name {v0 v1 v2 v3 v4 v6 v7 v8 v9 v10 v11 v12 : Option Value} (S : St g L h (frL ns754 [v0, v1, v2, v3, v4, some v, v6, v7, v8, v9, v10, v11, v12]) mu) (p : P v h) : W w A (eval (.Name s_name pos) (env754 L)) h P := W_nameL S rfl (by kernel_rfl) (by kernel_rfl) (by kernel_rfl) (by kernel_rfl) p
theorem st754_name {v0 v1 v2 v3 v4 v5 v6 v7 v8 v9 v10 v11 v12 : Option Value} (S : St g L h (frL ns754 [v0, v1, v2, v3, v4, v5, v6, v7, v8, v9, v10, v11, v12]) mu) (p : ∀ h', h'.objs.size = h.objs.size → St g L h' (frL ns754 [v0, v1, v2, v3, v4, some v, v6, v7, v8, v9, v10, v11, v12]) mu → U () h') : W w A (storeName (env754 L) s_name v) h U := W_st S rfl (by kernel_rfl) (by kernel_rfl) fun h' e S' => p h' e (S'.as (frL_set 5 rfl (by simp) (by decide +kernel)))
theorem ld754_x {v0 v1 v2 v3 v4 v5 v7 v8 v9 v10 v11 v12 : Option Value} (S : St g L h (frL ns754 [v0, v1, v2, v3, v4, v5, some v, v7, v8, v9, v10, v11, v12]) mu) (p : P v h) : W w A (eval (.Name s_x pos) (env754 L)) h P := W_nameL S rfl (by kernel_rfl) (by kernel_rfl) (by kernel_rfl) (by kernel_rfl) p
theorem st754_x {v0 v1 v2 v3 v4 v5 v6 v7 v8 v9 v10 v11 v12 : Option Value} (S : St g L h (frL ns754 [v0, v1, v2, v3, v4, v5, v6, v7, v8, v9, v10, v11, v12]) mu) (p : ∀ h', h'.objs.size = h.objs.size → St g L h' (frL ns754 [v0, v1, v2, v3, v4, v5, some v, v7, v8, v9, v10, v11, v12]) mu → U () h') : W w A (storeName (env754 L) s_x v) h U := W_st S rfl (by kernel_rfl) (by kernel_rfl) fun h' e S' => p h' e (S'.as (frL_set 6 rfl (by simp) (by decide +kernel)))
theorem ld754_later {v0 v1 v2 v3 v4 v5 v6 v8 v9 v10 v11 v12 : Option Value} (S : St g L h (frL ns754 [v0, v1, v2, v3, v4, v5, v6, some v, v8, v9, v10, v11, v12]) mu) (p : P v h) : W w A (eval (.Name s_later pos) (env754 L)) h P := W_nameL S rfl (by kernel_rfl) (by kernel_rfl) (by kernel_rfl) (by kernel_rfl) p
theorem st754_later {v0 v1 v2 v3 v4 v5 v6 v7 v8 v9 v10 v11 v12 : Option Value} (S : St g L h (frL ns754 [v0, v1, v2, v3, v4, v5, v6, v7, v8, v9, v10, v11, v12]) mu) (p : ∀ h', h'.objs.size = h.objs.size → St g L h' (frL ns754 [v0, v1, v2, v3, v4, v5, v6, some v, v8, v9, v10, v11, v12]) mu → U () h') : W w A (storeName (env754 L) s_later v) h U := W_st S rfl (by kernel_rfl) (by kernel_rfl) fun h' e S' => p h' e (S'.as (frL_set 7 rfl (by simp) (by decide +kernel)))
theorem ld754_kind {v0 v1 v2 v3 v4 v5 v6 v7 v9 v10 v11 v12 : Option Value} (S : St g L h (frL ns754 [v0, v1, v2, v3, v4, v5, v6, v7, some v, v9, v10, v11, v12]) mu) (p : P v h) : W w A (eval (.Name s_kind pos) (env754 L)) h P := W_nameL S rfl (by kernel_rfl) (by kernel_rfl) (by kernel_rfl) (by kernel_rfl) p
theorem st754_kind {v0 v1 v2 v3 v4 v5 v6 v7 v8 v9 v10 v11 v12 : Option Value} (S : St g L h (frL ns754 [v0, v1, v2, v3, v4, v5, v6, v7, v8, v9, v10, v11, v12]) mu) (p : ∀ h', h'.objs.size = h.objs.size → St g L h' (frL ns754 [v0, v1, v2, v3, v4, v5, v6, v7, some v, v9, v10, v11, v12]) mu → U () h') : W w A (storeName (env754 L) s_kind v) h U := W_st S rfl (by kernel_rfl) (by kernel_rfl) fun h' e S' => p h' e (S'.as (frL_set 8 rfl (by simp) (by decide +kernel)))
theorem ld754_rest {v0 v1 v2 v3 v4 v5 v6 v7 v8 v10 v11 v12 : Option Value} (S : St g L h (frL ns754 [v0, v1, v2, v3, v4, v5, v6, v7, v8, some v, v10, v11, v12]) mu) (p : P v h) : W w A (eval (.Name s_rest pos) (env754 L)) h P := W_nameL S rfl (by kernel_rfl) (by kernel_rfl) (by kernel_rfl) (by kernel_rfl) p
theorem st754_rest {v0 v1 v2 v3 v4 v5 v6 v7 v8 v9 v10 v11 v12 : Option Value} (S : St g L h (frL ns754 [v0, v1, v2, v3, v4, v5, v6, v7, v8, v9, v10, v11, v12]) mu) (p : ∀ h', h'.objs.size = h.objs.size → St g L h' (frL ns754 [v0, v1, v2, v3, v4, v5, v6, v7, v8, some v, v10, v11, v12]) mu → U () h') : W w A (storeName (env754 L) s_rest v) h U := W_st S rfl (by kernel_rfl) (by kernel_rfl) fun h' e S' => p h' e (S'.as (frL_set 9 rfl (by simp) (by decide +kernel)))
theorem ld754_white {v0 v1 v2 v3 v4 v5 v6 v7 v8 v9 v11 v12 : Option Value} (S : St g L h (frL ns754 [v0, v1, v2, v3, v4, v5, v6, v7, v8, v9, some v, v11, v12]) mu) (p : P v h) : W w A (eval (.Name s_white pos) (env754 L)) h P := W_nameL S rfl (by kernel_rfl) (by kernel_rfl) (by kernel_rfl) (by kernel_rfl) p
theorem st754_white {v0 v1 v2 v3 v4 v5 v6 v7 v8 v9 v10 v11 v12 : Option Value} (S : St g L h (frL ns754 [v0, v1, v2, v3, v4, v5, v6, v7, v8, v9, v10, v11, v12]) mu) (p : ∀ h', h'.objs.size = h.objs.size → St g L h' (frL ns754 [v0, v1, v2, v3, v4, v5, v6, v7, v8, v9, some v, v11, v12]) mu → U () h') : W w A (storeName (env754 L) s_white v) h U := W_st S rfl (by kernel_rfl) (by kernel_rfl) fun h' e S' => p h' e (S'.as (frL_set 10 rfl (by simp) (by decide +kernel)))
theorem ld754_used {v0 v1 v2 v3 v4 v5 v6 v7 v8 v9 v10 v12 : Option Value} (S : St g L h (frL ns754 [v0, v1, v2, v3, v4, v5, v6, v7, v8, v9, v10, some v, v12]) mu) (p : P v h) : W w A (eval (.Name s_used pos) (env754 L)) h P := W_nameL S rfl (by kernel_rfl) (by kernel_rfl) (by kernel_rfl) (by kernel_rfl) p
theorem st754_used {v0 v1 v2 v3 v4 v5 v6 v7 v8 v9 v10 v11 v12 : Option Value} (S : St g L h (frL ns754 [v0, v1, v2, v3, v4, v5, v6, v7, v8, v9, v10, v11, v12]) mu) (p : ∀ h', h'.objs.size = h.objs.size → St g L h' (frL ns754 [v0, v1, v2, v3, v4, v5, v6, v7, v8, v9, v10, some v, v12]) mu → U () h') : W w A (storeName (env754 L) s_used v) h U := W_st S rfl (by kernel_rfl) (by kernel_rfl) fun h' e S' => p h' e (S'.as (frL_set 11 rfl (by simp) (by decide +kernel)))
theorem ld754_mark {v0 v1 v2 v3 v4 v5 v6 v7 v8 v9 v10 v11 : Option Value} (S : St g L h (frL ns754 [v0, v1, v2, v3, v4, v5, v6, v7, v8, v9, v10, v11, some v]) mu) (p : P v h) : W w A (eval (.Name s_mark pos) (env754 L)) h P := W_nameL S rfl (by kernel_rfl) (by kernel_rfl) (by kernel_rfl) (by kernel_rfl) p
theorem st754_mark {v0 v1 v2 v3 v4 v5 v6 v7 v8 v9 v10 v11 v12 : Option Value} (S : St g L h (frL ns754 [v0, v1, v2, v3, v4, v5, v6, v7, v8, v9, v10, v11, v12]) mu) (p : ∀ h', h'.objs.size = h.objs.size → St g L h' (frL ns754 [v0, v1, v2, v3, v4, v5, v6, v7, v8, v9, v10, v11, some v]) mu → U () h') : W w A (storeName (env754 L) s_mark v) h U := W_st S rfl (by kernel_rfl) (by kernel_rfl) fun h' e S' => p h' e (S'.as (frL_set 12 rfl (by simp) (by decide +kernel)))
theorem gl754_len (G : Gr w g) (S : St g L h m mu) (p : P (.builtin "len") h) : W w A (eval (.Name s_len pos) (env754 L)) h P := W_nameB G S.keep rfl rfl (by kernel_rfl) (by kernel_rfl) (by kernel_rfl) (by kernel_rfl) nn_len bb_len p
theorem en754 {u0 : Value} (G : Gr w g) (x : Ext g h) (hm : ∀ p ∈ mu, h.get? p.1 = some p.2 ∧ g.get? p.1 = none) (nd : (mu.map (·.1)).Nodup) (hA : A.depth < 900)
    (H : ∀ L h₁, L = h.objs.size → St g L h₁ (frL ns754 [some (u0), none, none, none, none, none, none, none, none, none, none, none, none]) mu → Ext h h₁ → W w (A.deeper (env754 L)) (execs (fnBod (stAt 25)) (env754 L)) h₁ fun fl h' => P (retOf fl) h') : WC w A (.call (.ref 754) ⟨[u0], []⟩) h P :=
  W_call_def (fd := fd754) (ns := [s_script]) (rest := [s_names, s_texts, s_words, s_uses, s_name, s_x, s_later, s_kind, s_rest, s_white, s_used, s_mark]) (as := [u0]) G x hm nd hA (by kernel_rfl) (by kernel_rfl) rfl (fun s X => BindsTo.of_eq (by kernel_rfl)) rfl (by kernel_rfl) (by kernel_rfl) (by kernel_rfl) (by kernel_rfl) (by kernel_rfl) (by kernel_rfl) H
noncomputable abbrev env761 (L : Addr) : Env := callEnv fd761 L 761
noncomputable abbrev ns761 : List Str := [s_texts, s_whole, s_name, s_lexer, s_rows, s_own, s_size, s_turn, s_token, s_other, s_mine, s_below]
theorem ld761_texts {v1 v2 v3 v4 v5 v6 v7 v8 v9 v10 v11 : Option Value} (S : St g L h (frL ns761 [some v, v1, v2, v3, v4, v5, v6, v7, v8, v9, v10, v11]) mu) (p : P v h) : W w A (eval (.Name s_texts pos) (env761 L)) h P := W_nameL S rfl (by kernel_rfl) (by kernel_rfl) (by kernel_rfl) (by kernel_rfl) p
theorem ld761_whole {v0 v2 v3 v4 v5 v6 v7 v8 v9 v10 v11 : Option Value} (S : St g L h (frL ns761 [v0, some v, v2, v3, v4, v5, v6, v7, v8, v9, v10, v11]) mu) (p : P v h) : W w A (eval (.Name s_whole pos) (env761 L)) h P := W_nameL S rfl (by kernel_rfl) (by kernel_rfl) (by kernel_rfl) (by kernel_rfl) p
theorem st761_whole {v0 v1 v2 v3 v4 v5 v6 v7 v8 v9 v10 v11 : Option Value} (S : St g L h (frL ns761 [v0, v1, v2, v3, v4, v5, v6, v7, v8, v9, v10, v11]) mu) (p : ∀ h', h'.objs.size = h.objs.size → St g L h' (frL ns761 [v0, some v, v2, v3, v4, v5, v6, v7, v8, v9, v10, v11]) mu → U () h') : W w A (storeName (env761 L) s_whole v) h U := W_st S rfl (by kernel_rfl) (by kernel_rfl) fun h' e S' => p h' e (S'.as (frL_set 1 rfl (by simp) (by decide +kernel)))
theorem ld761_name {v0 v1 v3 v4 v5 v6 v7 v8 v9 v10 v11 : Option Value} (S : St g L h (frL ns761 [v0, v1, some v, v3, v4, v5, v6, v7, v8, v9, v10, v11]) mu) (p : P v h) : W w A (eval (.Name s_name pos) (env761 L)) h P := W_nameL S rfl (by kernel_rfl) (by kernel_rfl) (by kernel_rfl) (by kernel_rfl) p
theorem st761_name {v0 v1 v2 v3 v4 v5 v6 v7 v8 v9 v10 v11 : Option Value} (S : St g L h (frL ns761 [v0, v1, v2, v3, v4, v5, v6, v7, v8, v9, v10, v11]) mu) (p : ∀ h', h'.objs.size = h.objs.size → St g L h' (frL ns761 [v0, v1, some v, v3, v4, v5, v6, v7, v8, v9, v10, v11]) mu → U () h') : W w A (storeName (env761 L) s_name v) h U := W_st S rfl (by kernel_rfl) (by kernel_rfl) fun h' e S' => p h' e (S'.as (frL_set 2 rfl (by simp) (by decide +kernel)))
theorem ld761_lexer {v0 v1 v2 v4 v5 v6 v7 v8 v9 v10 v11 : Option Value} (S : St g L h (frL ns761 [v0, v1, v2, some v, v4, v5, v6, v7, v8, v9, v10, v11]) mu) (p : P v h) : W w A (eval (.Name s_lexer pos) (env761 L)) h P := W_nameL S rfl (by kernel_rfl) (by kernel_rfl) (by kernel_rfl) (by kernel_rfl) p
theorem st761_lexer {v0 v1 v2 v3 v4 v5 v6 v7 v8 v9 v10 v11 : Option Value} (S : St g L h (frL ns761 [v0, v1, v2, v3, v4, v5, v6, v7, v8, v9, v10, v11]) mu) (p : ∀ h', h'.objs.size = h.objs.size → St g L h' (frL ns761 [v0, v1, v2, some v, v4, v5, v6, v7, v8, v9, v10, v11]) mu → U () h') : W w A (storeName (env761 L) s_lexer v) h U := W_st S rfl (by kernel_rfl) (by kernel_rfl) fun h' e S' => p h' e (S'.as (frL_set 3 rfl (by simp) (by decide +kernel)))
theorem ld761_rows {v0 v1 v2 v3 v5 v6 v7 v8 v9 v10 v11 : Option Value} (S : St g L h (frL ns761 [v0, v1, v2, v3, some v, v5, v6, v7, v8, v9, v10, v11]) mu) (p : P v h) : W w A (eval (.Name s_rows pos) (env761 L)) h P := W_nameL S rfl (by kernel_rfl) (by kernel_rfl) (by kernel_rfl) (by kernel_rfl) p
theorem st761_rows {v0 v1 v2 v3 v4 v5 v6 v7 v8 v9 v10 v11 : Option Value} (S : St g L h (frL ns761 [v0, v1, v2, v3, v4, v5, v6, v7, v8, v9, v10, v11]) mu) (p : ∀ h', h'.objs.size = h.objs.size → St g L h' (frL ns761 [v0, v1, v2, v3, some v, v5, v6, v7, v8, v9, v10, v11]) mu → U () h') : W w A (storeName (env761 L) s_rows v) h U := W_st S rfl (by kernel_rfl) (by kernel_rfl) fun h' e S' => p h' e (S'.as (frL_set 4 rfl (by simp) (by decide +kernel)))
theorem ld761_own {v0 v1 v2 v3 v4 v6 v7 v8 v9 v10 v11 : Option Value} (S : St g L h (frL ns761 [v0, v1, v2, v3, v4, some v, v6, v7, v8, v9, v10, v11]) mu) (p : P v h) : W w A (eval (.Name s_own pos) (env761 L)) h P := W_nameL S rfl (by kernel_rfl) (by kernel_rfl) (by kernel_rfl) (by kernel_rfl) p
theorem ln761_own {v0 v1 v2 v3 v4 v6 v7 v8 v9 v10 v11 : Option Value} (S : St g L h (frL ns761 [v0, v1, v2, v3, v4, some v, v6, v7, v8, v9, v10, v11]) mu) (p : P v h) : W w A (loadName (env761 L) s_own) h P := W_ld S rfl (by kernel_rfl) (by kernel_rfl) (by kernel_rfl) p
theorem st761_own {v0 v1 v2 v3 v4 v5 v6 v7 v8 v9 v10 v11 : Option Value} (S : St g L h (frL ns761 [v0, v1, v2, v3, v4, v5, v6, v7, v8, v9, v10, v11]) mu) (p : ∀ h', h'.objs.size = h.objs.size → St g L h' (frL ns761 [v0, v1, v2, v3, v4, some v, v6, v7, v8, v9, v10, v11]) mu → U () h') : W w A (storeName (env761 L) s_own v) h U := W_st S rfl (by kernel_rfl) (by kernel_rfl) fun h' e S' => p h' e (S'.as (frL_set 5 rfl (by simp) (by decide +kernel)))
theorem ld761_size {v0 v1 v2 v3 v4 v5 v7 v8 v9 v10 v11 : Option Value} (S : St g L h (frL ns761 [v0, v1, v2, v3, v4, v5, some v, v7, v8, v9, v10, v11]) mu) (p : P v h) : W w A (eval (.Name s_size pos) (env761 L)) h P := W_nameL S rfl (by kernel_rfl) (by kernel_rfl) (by kernel_rfl) (by kernel_rfl) p
theorem st761_size {v0 v1 v2 v3 v4 v5 v6 v7 v8 v9 v10 v11 : Option Value} (S : St g L h (frL ns761 [v0, v1, v2, v3, v4, v5, v6, v7, v8, v9, v10, v11]) mu) (p : ∀ h', h'.objs.size = h.objs.size → St g L h' (frL ns761 [v0, v1, v2, v3, v4, v5, some v, v7, v8, v9, v10, v11]) mu → U () h') : W w A (storeName (env761 L) s_size v) h U := W_st S rfl (by kernel_rfl) (by kernel_rfl) fun h' e S' => p h' e (S'.as (frL_set 6 rfl (by simp) (by decide +kernel)))
theorem ld761_turn {v0 v1 v2 v3 v4 v5 v6 v8 v9 v10 v11 : Option Value} (S : St g L h (frL ns761 [v0, v1, v2, v3, v4, v5, v6, some v, v8, v9, v10, v11]) mu) (p : P v h) : W w A (eval (.Name s_turn pos) (env761 L)) h P := W_nameL S rfl (by kernel_rfl) (by kernel_rfl) (by kernel_rfl) (by kernel_rfl) p
theorem st761_turn {v0 v1 v2 v3 v4 v5 v6 v7 v8 v9 v10 v11 : Option Value} (S : St g L h (frL ns761 [v0, v1, v2, v3, v4, v5, v6, v7, v8, v9, v10, v11]) mu) (p : ∀ h', h'.objs.size = h.objs.size → St g L h' (frL ns761 [v0, v1, v2, v3, v4, v5, v6, some v, v8, v9, v10, v11]) mu → U () h') : W w A (storeName (env761 L) s_turn v) h U := W_st S rfl (by kernel_rfl) (by kernel_rfl) fun h' e S' => p h' e (S'.as (frL_set 7 rfl (by simp) (by decide +kernel)))
theorem ld761_token {v0 v1 v2 v3 v4 v5 v6 v7 v9 v10 v11 : Option Value} (S : St g L h (frL ns761 [v0, v1, v2, v3, v4, v5, v6, v7, some v, v9, v10, v11]) mu) (p : P v h) : W w A (eval (.Name s_token pos) (env761 L)) h P := W_nameL S rfl (by kernel_rfl) (by kernel_rfl) (by kernel_rfl) (by kernel_rfl) p
theorem st761_token {v0 v1 v2 v3 v4 v5 v6 v7 v8 v9 v10 v11 : Option Value} (S : St g L h (frL ns761 [v0, v1, v2, v3, v4, v5, v6, v7, v8, v9, v10, v11]) mu) (p : ∀ h', h'.objs.size = h.objs.size → St g L h' (frL ns761 [v0, v1, v2, v3, v4, v5, v6, v7, some v, v9, v10, v11]) mu → U () h') : W w A (storeName (env761 L) s_token v) h U := W_st S rfl (by kernel_rfl) (by kernel_rfl) fun h' e S' => p h' e (S'.as (frL_set 8 rfl (by simp) (by decide +kernel)))
theorem ld761_other {v0 v1 v2 v3 v4 v5 v6 v7 v8 v10 v11 : Option Value} (S : St g L h (frL ns761 [v0, v1, v2, v3, v4, v5, v6, v7, v8, some v, v10, v11]) mu) (p : P v h) : W w A (eval (.Name s_other pos) (env761 L)) h P := W_nameL S rfl (by kernel_rfl) (by kernel_rfl) (by kernel_rfl) (by kernel_rfl) p
theorem st761_other {v0 v1 v2 v3 v4 v5 v6 v7 v8 v9 v10 v11 : Option Value} (S : St g L h (frL ns761 [v0, v1, v2, v3, v4, v5, v6, v7, v8, v9, v10, v11]) mu) (p : ∀ h', h'.objs.size = h.objs.size → St g L h' (frL ns761 [v0, v1, v2, v3, v4, v5, v6, v7, v8, some v, v10, v11]) mu → U () h') : W w A (storeName (env761 L) s_other v) h U := W_st S rfl (by kernel_rfl) (by kernel_rfl) fun h' e S' => p h' e (S'.as (frL_set 9 rfl (by simp) (by decide +kernel)))
theorem ld761_mine {v0 v1 v2 v3 v4 v5 v6 v7 v8 v9 v11 : Option Value} (S : St g L h (frL ns761 [v0, v1, v2, v3, v4, v5, v6, v7, v8, v9, some v, v11]) mu) (p : P v h) : W w A (eval (.Name s_mine pos) (env761 L)) h P := W_nameL S rfl (by kernel_rfl) (by kernel_rfl) (by kernel_rfl) (by kernel_rfl) p
theorem st761_mine {v0 v1 v2 v3 v4 v5 v6 v7 v8 v9 v10 v11 : Option Value} (S : St g L h (frL ns761 [v0, v1, v2, v3, v4, v5, v6, v7, v8, v9, v10, v11]) mu) (p : ∀ h', h'.objs.size = h.objs.size → St g L h' (frL ns761 [v0, v1, v2, v3, v4, v5, v6, v7, v8, v9, some v, v11]) mu → U () h') : W w A (storeName (env761 L) s_mine v) h U := W_st S rfl (by kernel_rfl) (by kernel_rfl) fun h' e S' => p h' e (S'.as (frL_set 10 rfl (by simp) (by decide +kernel)))
theorem ld761_below {v0 v1 v2 v3 v4 v5 v6 v7 v8 v9 v10 : Option Value} (S : St g L h (frL ns761 [v0, v1, v2, v3, v4, v5, v6, v7, v8, v9, v10, some v]) mu) (p : P v h) : W w A (eval (.Name s_below pos) (env761 L)) h P := W_nameL S rfl (by kernel_rfl) (by kernel_rfl) (by kernel_rfl) (by kernel_rfl) p
theorem st761_below {v0 v1 v2 v3 v4 v5 v6 v7 v8 v9 v10 v11 : Option Value} (S : St g L h (frL ns761 [v0, v1, v2, v3, v4, v5, v6, v7, v8, v9, v10, v11]) mu) (p : ∀ h', h'.objs.size = h.objs.size → St g L h' (frL ns761 [v0, v1, v2, v3, v4, v5, v6, v7, v8, v9, v10, some v]) mu → U () h') : W w A (storeName (env761 L) s_below v) h U := W_st S rfl (by kernel_rfl) (by kernel_rfl) fun h' e S' => p h' e (S'.as (frL_set 11 rfl (by simp) (by decide +kernel)))
theorem gl761_shlex (G : Gr w g) (S : St g L h m mu) (p : P (.ref 722) h) : W w A (eval (.Name s_shlex pos) (env761 L)) h P := W_nameG G S.keep rfl (by kernel_rfl) (by kernel_rfl) (by kernel_rfl) (by kernel_rfl) p
theorem gl761_add_func_stats (G : Gr w g) (S : St g L h m mu) (p : P (.ref 733) h) : W w A (eval (.Name s_add_func_stats pos) (env761 L)) h P := W_nameG G S.keep rfl (by kernel_rfl) (by kernel_rfl) (by kernel_rfl) (by kernel_rfl) p
theorem en761 {u0 : Value} (G : Gr w g) (x : Ext g h) (hm : ∀ p ∈ mu, h.get? p.1 = some p.2 ∧ g.get? p.1 = none) (nd : (mu.map (·.1)).Nodup) (hA : A.depth < 900)
    (H : ∀ L h₁, L = h.objs.size → St g L h₁ (frL ns761 [some (u0), none, none, none, none, none, none, none, none, none, none, none]) mu → Ext h h₁ → W w (A.deeper (env761 L)) (execs (fnBod (stAt 26)) (env761 L)) h₁ fun fl h' => P (retOf fl) h') : WC w A (.call (.ref 761) ⟨[u0], []⟩) h P :=
  W_call_def (fd := fd761) (ns := [s_texts]) (rest := [s_whole, s_name, s_lexer, s_rows, s_own, s_size, s_turn, s_token, s_other, s_mine, s_below]) (as := [u0]) G x hm nd hA (by kernel_rfl) (by kernel_rfl) rfl (fun s X => BindsTo.of_eq (by kernel_rfl)) rfl (by kernel_rfl) (by kernel_rfl) (by kernel_rfl) (by kernel_rfl) (by kernel_rfl) (by kernel_rfl) H
noncomputable abbrev env773 (L : Addr) : Env := callEnv fd773 L 773
noncomputable abbrev ns773 : List Str := [s_table, s_start, s_name]
theorem ld773_table {v1 v2 : Option Value} (S : St g L h (frL ns773 [some v, v1, v2]) mu) (p : P v h) : W w A (eval (.Name s_table pos) (env773 L)) h P := W_nameL S rfl (by kernel_rfl) (by kernel_rfl) (by kernel_rfl) (by kernel_rfl) p
theorem ld773_start {v0 v2 : Option Value} (S : St g L h (frL ns773 [v0, some v, v2]) mu) (p : P v h) : W w A (eval (.Name s_start pos) (env773 L)) h P := W_nameL S rfl (by kernel_rfl) (by kernel_rfl) (by kernel_rfl) (by kernel_rfl) p
theorem ld773_name {v0 v1 : Option Value} (S : St g L h (frL ns773 [v0, v1, some v]) mu) (p : P v h) : W w A (eval (.Name s_name pos) (env773 L)) h P := W_nameL S rfl (by kernel_rfl) (by kernel_rfl) (by kernel_rfl) (by kernel_rfl) p
theorem st773_name {v0 v1 v2 : Option Value} (S : St g L h (frL ns773 [v0, v1, v2]) mu) (p : ∀ h', h'.objs.size = h.objs.size → St g L h' (frL ns773 [v0, v1, some v]) mu → U () h') : W w A (storeName (env773 L) s_name v) h U := W_st S rfl (by kernel_rfl) (by kernel_rfl) fun h' e S' => p h' e (S'.as (frL_set 2 rfl (by simp) (by decide +kernel)))
theorem gl773_count_calls (G : Gr w g) (S : St g L h m mu) (p : P (.ref 747) h) : W w A (eval (.Name s_count_calls pos) (env773 L)) h P := W_nameG G S.keep rfl (by kernel_rfl) (by kernel_rfl) (by kernel_rfl) (by kernel_rfl) p
theorem en773 {u0 u1 : Value} (G : Gr w g) (x : Ext g h) (hm : ∀ p ∈ mu, h.get? p.1 = some p.2 ∧ g.get? p.1 = none) (nd : (mu.map (·.1)).Nodup) (hA : A.depth < 900)
    (H : ∀ L h₁, L = h.objs.size → St g L h₁ (frL ns773 [some (u0), some (u1), none]) mu → Ext h h₁ → W w (A.deeper (env773 L)) (execs (fnBod (stAt 28)) (env773 L)) h₁ fun fl h' => P (retOf fl) h') : WC w A (.call (.ref 773) ⟨[u0, u1], []⟩) h P :=
  W_call_def (fd := fd773) (ns := [s_table, s_start]) (rest := [s_name]) (as := [u0, u1]) G x hm nd hA (by kernel_rfl) (by kernel_rfl) rfl (fun s X => BindsTo.of_eq (by kernel_rfl)) rfl (by kernel_rfl) (by kernel_rfl) (by kernel_rfl) (by kernel_rfl) (by kernel_rfl) (by kernel_rfl) H
noncomputable abbrev env780 (L : Addr) : Env := callEnv fd780 L 780
noncomputable abbrev ns780 : List Str := [s_script, s_built, s_tables, s_each]
theorem ld780_script {v1 v2 v3 : Option Value} (S : St g L h (frL ns780 [some v, v1, v2, v3]) mu) (p : P v h) : W w A (eval (.Name s_script pos) (env780 L)) h P := W_nameL S rfl (by kernel_rfl) (by kernel_rfl) (by kernel_rfl) (by kernel_rfl) p
theorem ld780_built {v0 v2 v3 : Option Value} (S : St g L h (frL ns780 [v0, some v, v2, v3]) mu) (p : P v h) : W w A (eval (.Name s_built pos) (env780 L)) h P := W_nameL S rfl (by kernel_rfl) (by kernel_rfl) (by kernel_rfl) (by kernel_rfl) p
theorem st780_built {v0 v1 v2 v3 : Option Value} (S : St g L h (frL ns780 [v0, v1, v2, v3]) mu) (p : ∀ h', h'.objs.size = h.objs.size → St g L h' (frL ns780 [v0, some v, v2, v3]) mu → U () h') : W w A (storeName (env780 L) s_built v) h U := W_st S rfl (by kernel_rfl) (by kernel_rfl) fun h' e S' => p h' e (S'.as (frL_set 1 rfl (by simp) (by decide +kernel)))
theorem ld780_tables {v0 v1 v3 : Option Value} (S : St g L h (frL ns780 [v0, v1, some v, v3]) mu) (p : P v h) : W w A (eval (.Name s_tables pos) (env780 L)) h P := W_nameL S rfl (by kernel_rfl) (by kernel_rfl) (by kernel_rfl) (by kernel_rfl) p
theorem st780_tables {v0 v1 v2 v3 : Option Value} (S : St g L h (frL ns780 [v0, v1, v2, v3]) mu) (p : ∀ h', h'.objs.size = h.objs.size → St g L h' (frL ns780 [v0, v1, some v, v3]) mu → U () h') : W w A (storeName (env780 L) s_tables v) h U := W_st S rfl (by kernel_rfl) (by kernel_rfl) fun h' e S' => p h' e (S'.as (frL_set 2 rfl (by simp) (by decide +kernel)))
theorem ld780_each {v0 v1 v2 : Option Value} (S : St g L h (frL ns780 [v0, v1, v2, some v]) mu) (p : P v h) : W w A (eval (.Name s_each pos) (env780 L)) h P := W_nameL S rfl (by kernel_rfl) (by kernel_rfl) (by kernel_rfl) (by kernel_rfl) p
theorem st780_each {v0 v1 v2 v3 : Option Value} (S : St g L h (frL ns780 [v0, v1, v2, v3]) mu) (p : ∀ h', h'.objs.size = h.objs.size → St g L h' (frL ns780 [v0, v1, v2, some v]) mu → U () h') : W w A (storeName (env780 L) s_each v) h U := W_st S rfl (by kernel_rfl) (by kernel_rfl) fun h' e S' => p h' e (S'.as (frL_set 3 rfl (by simp) (by decide +kernel)))
theorem gl780__law_texts (G : Gr w g) (S : St g L h m mu) (p : P (.ref 754) h) : W w A (eval (.Name s__law_texts pos) (env780 L)) h P := W_nameG G S.keep rfl (by kernel_rfl) (by kernel_rfl) (by kernel_rfl) (by kernel_rfl) p
theorem gl780__law_tables (G : Gr w g) (S : St g L h m mu) (p : P (.ref 761) h) : W w A (eval (.Name s__law_tables pos) (env780 L)) h P := W_nameG G S.keep rfl (by kernel_rfl) (by kernel_rfl) (by kernel_rfl) (by kernel_rfl) p
theorem gl780__law_due (G : Gr w g) (S : St g L h m mu) (p : P (.ref 766) h) : W w A (eval (.Name s__law_due pos) (env780 L)) h P := W_nameG G S.keep rfl (by kernel_rfl) (by kernel_rfl) (by kernel_rfl) (by kernel_rfl) p
theorem gl780__law_counted (G : Gr w g) (S : St g L h m mu) (p : P (.ref 773) h) : W w A (eval (.Name s__law_counted pos) (env780 L)) h P := W_nameG G S.keep rfl (by kernel_rfl) (by kernel_rfl) (by kernel_rfl) (by kernel_rfl) p
theorem en780 {u0 : Value} (G : Gr w g) (x : Ext g h) (hm : ∀ p ∈ mu, h.get? p.1 = some p.2 ∧ g.get? p.1 = none) (nd : (mu.map (·.1)).Nodup) (hA : A.depth < 900)
    (H : ∀ L h₁, L = h.objs.size → St g L h₁ (frL ns780 [some (u0), none, none, none]) mu → Ext h h₁ → W w (A.deeper (env780 L)) (execs (fnBod (stAt 29)) (env780 L)) h₁ fun fl h' => P (retOf fl) h') : WC w A (.call (.ref 780) ⟨[u0], []⟩) h P :=
  W_call_def (fd := fd780) (ns := [s_script]) (rest := [s_built, s_tables, s_each]) (as := [u0]) G x hm nd hA (by kernel_rfl) (by kernel_rfl) rfl (fun s X => BindsTo.of_eq (by kernel_rfl)) rfl (by kernel_rfl) (by kernel_rfl) (by kernel_rfl) (by kernel_rfl) (by kernel_rfl) (by kernel_rfl) H
end names
section
variable {w : World} {A : Around} {h g : Heap} {env : Env} {P : Value → Heap → Prop} {pos : Pos} {x y : Str} {t u : Tok} {a b : Int}
/-! ### calls of built-in functions and types -/
theorem W_cwT {T : String} {e : Expr} {rest : List Expr} (H : W w A (spliced (backTo pos (starEach (e :: rest) env))) h fun vs h₁ => W w A (call (.type T) vs) h₁ P)
    (he : starEach (e :: rest) env = (false, eval e env) :: starEach rest env := by with_unfolding_all rfl) (hp : (backTo pos (starEach rest env)).any (·.1) = false := by with_unfolding_all rfl) : W w A (callWith pos (.type T) [] (backTo pos (starEach (e :: rest) env)) []) h P :=
  fun s hs => Pv.callWith_type1 (H.run hs .rfl' fun vs s₁ l₁ p₁ => p₁.run rfl l₁ fun _ _ l p => ⟨l, p⟩) he hp
theorem W_cwT0 {T : String} (H : W w A (call (.type T) []) h P) : W w A (callWith pos (.type T) [] (backTo pos (starEach [] env)) []) h P :=
  fun s hs => callWith_type0 (H.run hs .rfl' fun _ _ l p => ⟨l, p⟩)
theorem W_cwB {id : String} {e : Expr} {rest : List Expr} (H : W w A (spliced (backTo pos (starEach (e :: rest) env))) h fun vs h₁ => W w A (call (.builtin id) vs) h₁ P)
    (he : starEach (e :: rest) env = (false, eval e env) :: starEach rest env := by with_unfolding_all rfl) (hp : (backTo pos (starEach rest env)).any (·.1) = false := by with_unfolding_all rfl) : W w A (callWith pos (.builtin id) [] (backTo pos (starEach (e :: rest) env)) []) h P :=
  fun s hs => callWith_method1 (first := []) (H.run hs .rfl' fun vs s₁ l₁ p₁ => p₁.run rfl l₁ fun _ _ l p => ⟨l, p⟩) he hp
theorem W_cwB1 {id : String} {self : Value} {e : Expr} {rest : List Expr} (H : W w A (spliced (backTo pos (starEach (e :: rest) env))) h fun vs h₁ => W w A (call (.builtin id) (self :: vs)) h₁ P)
    (he : starEach (e :: rest) env = (false, eval e env) :: starEach rest env := by with_unfolding_all rfl) (hp : (backTo pos (starEach rest env)).any (·.1) = false := by with_unfolding_all rfl) : W w A (callWith pos (.builtin id) [self] (backTo pos (starEach (e :: rest) env)) []) h P :=
  fun s hs => callWith_method1 (first := [self]) (H.run hs .rfl' fun vs s₁ l₁ p₁ => p₁.run rfl l₁ fun _ _ l p => ⟨l, p⟩) he hp
theorem W_cwB0 {id : String} {first : List Value} (H : W w A (call (.builtin id) first) h P) : W w A (callWith pos (.builtin id) first (backTo pos (starEach [] env)) []) h P :=
  fun s hs => callWith_method0 (H.run hs .rfl' fun _ _ l p => ⟨l, p⟩)
theorem c_typeInt (p : P (.type "int") h) : W w A (call (.type "type") [.int a t]) h P := fun s hs => call_type_of (Tx := "int") rfl (by decide) ⟨.rfl', hs ▸ p⟩
theorem c_typeStr (p : P (.type "str") h) : W w A (call (.type "type") [.str x t]) h P := fun s hs => call_type_of (Tx := "str") rfl (by decide) ⟨.rfl', hs ▸ p⟩
theorem c_int (p : P (.int a t) h) : W w A (call (.type "int") [.int a t]) h P := fun s hs => call_int_int ⟨.rfl', hs ▸ p⟩
theorem c_isiStrStr (p : P (.bool true) h) : W w A (call (.builtin "isinstance") [.str x t, .type "str"]) h P := fun s hs => call_isinstance (isinstance_true (Tx := "str") F.isi_meta_str F.sub_str_str) ⟨rfl, .rfl', hs ▸ p⟩
theorem c_isiIntTuple (p : P (.bool false) h) : W w A (call (.builtin "isinstance") [.int a t, .type "tuple"]) h P := fun s hs => call_isinstance (isinstance_false_int (by decide +kernel) F.isi_meta_tuple F.sub_int_tuple) ⟨⟨rfl, rfl, rfl⟩, hs ▸ p⟩
theorem c_lenStr (hx : x.length ≤ 2 ^ 40) (p : ∀ t, P (.int x.length t) h) : W w A (call (.builtin "len") [.str x t]) h P := fun s hs => len_str (by omega) ⟨⟨rfl, rfl, rfl⟩, hs ▸ p _⟩
theorem c_strInt (ha : a.natAbs.log2 < 1920) (p : ∀ t, P (.str (Str.ofString (toString a)) t) h) : W w A (call (.type "str") [.int a t]) h P := fun s hs => PySem.P.str_of_int ha ⟨⟨rfl, rfl, rfl⟩, hs ▸ p _⟩
theorem W_neg {i : Int} {k : Nat} {pos p' : Pos} (p : ∀ t, P (.int (-i) t) h) : W w A (eval (.UnaryOp .USub (.Constant (.int i) k pos) p') env) h P :=
  fun s hs => wpAny_UnaryOp (wpAny_Constant_int (neg_int ⟨⟨rfl, rfl, rfl⟩, hs ▸ p _⟩))
/-! ### displays, targets -/
theorem W_tuple {elts : List Expr} {k : Nat} (H : W w A (spliced (backTo pos (starEach elts env))) h fun vs h₁ => vs.length ≤ sizeLine ∧ P (.ref h₁.objs.size) (h₁.push { cls := .type "tuple", data := .seq vs.toArray })) : W w A (eval (.Tuple elts k pos) env) h P :=
  fun s hs => Tuple_ (H.run hs .rfl' fun vs s₁ l₁ p₁ => wpAny_newObj_type ⟨⟨l₁.1, l₁.2.1, l₁.2.2⟩, p₁.2⟩ (by show vs.toArray.size ≤ sizeLine; rw [List.size_toArray]; exact p₁.1))
theorem W_list {elts : List Expr} (H : W w A (spliced (backTo pos (starEach elts env))) h fun vs h₁ => vs.length ≤ sizeLine ∧ P (.ref h₁.objs.size) (h₁.push { cls := .type "list", data := .seq vs.toArray })) : W w A (eval (.List elts pos) env) h P :=
  fun s hs => List_ (H.run hs .rfl' fun vs s₁ l₁ p₁ => wpAny_newObj_type ⟨⟨l₁.1, l₁.2.1, l₁.2.2⟩, p₁.2⟩ (by show vs.toArray.size ≤ sizeLine; rw [List.size_toArray]; exact p₁.1))
/-! ### is -/
variable {v v' : Value}
theorem o_is (hp : plainIs v v' = true) (p : P (.bool (v == v')) h) : W w A (compareOp .Is v v') h P := fun s hs => wpAny_is_plain hp ⟨.rfl', hs ▸ p⟩
theorem o_isNot (hp : plainIs v v' = true) (p : P (.bool (!(v == v'))) h) : W w A (compareOp .IsNot v v') h P := fun s hs => wpAny_isNot_plain hp ⟨.rfl', hs ▸ p⟩
/-! ### a slice of a text -/
theorem W_slice {lo hi : Expr} {p : Pos} (H : W w A (eval lo env) h fun l h₁ => W w A (eval hi env) h₁ fun u h₂ => P (.ref h₂.objs.size) (h₂.push { cls := .type "slice", data := .fields #[l, u, .none] })) : W w A (eval (.Slice (some lo) (some hi) none p) env) h P :=
  fun s hs => wpAny_Slice (wpAny_evalPart_some (H.run hs .rfl' fun l s₁ l₁ p₁ => wpAny_evalPart_some (p₁.run rfl l₁ fun u s₂ l₂ p₂ => wpAny_evalPart_none ⟨⟨l₂.1, l₂.2.1, l₂.2.2⟩, p₂⟩)))
theorem o_sliceStr {value : Expr} {lo hi : Option Expr} {p' : Pos} {i j : Int} {ti tj : Tok} (hsz : x.length ≤ sizeLine) (ht : ∀ r, letTemporaryGo value (.str x t) r = pure ()) (p : ∀ t h', Ext h h' → P (.str (Txt.slice x (some i) (some j)) t) h') :
    W w A (subscriptTail value (.Slice lo hi none p') (.str x t) (.ref h.objs.size)) (h.push { cls := .type "slice", data := .fields #[.int i ti, .int j tj, .none] }) P := fun s hs => by
  have k := tail_of_ItemOn (M := model pw w) (A := A) (E := fun _ _ => False) (value := value) (slice := .Slice lo hi none p') (SBH.sliceItem_ss (prog := pw) (w := w) (A := A) (s := { s with heap := h }) (x := x) (t := t) (i := i) (j := j) (ui := ti) (uj := tj) (P := Ext h)
    (Q := fun v s' => Like s s' ∧ P v s'.heap) (E := fun _ _ => False) (fun h' ob e => e.trans (Ext.push _ _)) (Ext.refl h) (fun h' t' k e => ⟨⟨rfl, rfl, rfl⟩, p t' h' e⟩) hsz) (ops := [.ref h.objs.size, .str x t]) rfl ht
  have e : s = { s with heap := h.push { cls := .type "slice", data := .fields #[.int i ti, .int j tj, .none] } } := by rw [← hs]
  rw [e]
  exact k
end
section
variable {w : World} {A : Around} {h g : Heap} {P : Value → Heap → Prop}
theorem c53 {i : Int} {t : Tok} {what : Value} (G : Gr w h) (hA : A.depth < 900) (h1 : -1099511627776 ≤ i) (h2 : i ≤ 1099511627776) (k : ∀ t h', Ext h h' → P (.int i t) h') : WC w A (.call (.ref 53) ⟨[.int i t, what], []⟩) h P := by
  refine en53 (mu := []) G (Ext.refl h) (fun _ hp => (nomatch hp)) List.nodup_nil hA ?_
  intro L h₁ hL S x
  refine W_if ?_
  repeat (with_reducible first | (show W _ _ (eval (.Name _ _) _) _ _; first | refine ld53_n ‹_› ?_ | refine gl53_type ‹_› ‹_› ?_ | refine gl53_int ‹_› ‹_› ?_) | (show W _ _ (eval _ _) _ _; first | (refine W_int ?_; intro _) | refine W_callN ?_ | (refine W_neg ?_; intro _)) | (show W _ _ (execs _ _) _ _; first | refine W_asg ?_ | refine W_if ?_ | refine W_ret ?_ | refine W_nil ?_) | (show W _ _ (storeName _ _ _) _ _; (refine st53_n ‹_› ?_; intro _ _ _)) | (show W _ _ (isTrue _ _ _) _ _; first | refine T_cmp ?_ | refine T_bool ?_) | (show W _ _ (allTrue _ _ _) _ _; first | refine T_and ?_ | refine T_or ?_ | refine T_orNil ?_) | (show W _ _ (truthy _) _ _; refine t_bool ?_) | (show W _ _ (spliced _) _ _; first | refine W_sp ?_ | refine W_sp0 ?_) | (show W _ _ (compareOp _ _ _) _ _; first | refine o_lt ?_ | refine o_gt ?_ | refine o_isNot (by with_unfolding_all rfl) ?_) | (show W _ _ (callWith _ _ _ _ _) _ _; refine W_cwT ?_) | (show W _ _ (call _ _ _) _ _; first | refine c_typeInt ?_ | refine c_int ?_) | (show if _ = true then _ else _; refine ite_f (by with_unfolding_all rfl) ?_) | (show Sq _ _ _ _ _ _ _; refine sq_next ?_))
  with_reducible refine ite_f (decide_eq_false (by omega)) ?_
  repeat (with_reducible first | (show W _ _ (eval (.Name _ _) _) _ _; first | refine ld53_n ‹_› ?_ | refine gl53_type ‹_› ‹_› ?_ | refine gl53_int ‹_› ‹_› ?_) | (show W _ _ (eval _ _) _ _; first | (refine W_int ?_; intro _) | refine W_callN ?_ | (refine W_neg ?_; intro _)) | (show W _ _ (execs _ _) _ _; first | refine W_asg ?_ | refine W_if ?_ | refine W_ret ?_ | refine W_nil ?_) | (show W _ _ (storeName _ _ _) _ _; (refine st53_n ‹_› ?_; intro _ _ _)) | (show W _ _ (isTrue _ _ _) _ _; first | refine T_cmp ?_ | refine T_bool ?_) | (show W _ _ (allTrue _ _ _) _ _; first | refine T_and ?_ | refine T_or ?_ | refine T_orNil ?_) | (show W _ _ (truthy _) _ _; refine t_bool ?_) | (show W _ _ (spliced _) _ _; first | refine W_sp ?_ | refine W_sp0 ?_) | (show W _ _ (compareOp _ _ _) _ _; first | refine o_lt ?_ | refine o_gt ?_ | refine o_isNot (by with_unfolding_all rfl) ?_) | (show W _ _ (callWith _ _ _ _ _) _ _; refine W_cwT ?_) | (show W _ _ (call _ _ _) _ _; first | refine c_typeInt ?_ | refine c_int ?_) | (show if _ = true then _ else _; refine ite_f (by with_unfolding_all rfl) ?_) | (show Sq _ _ _ _ _ _ _; refine sq_next ?_))
  with_reducible refine ite_f (decide_eq_false (by omega)) ?_
  repeat (with_reducible first | (show W _ _ (eval (.Name _ _) _) _ _; first | refine ld53_n ‹_› ?_ | refine gl53_type ‹_› ‹_› ?_ | refine gl53_int ‹_› ‹_› ?_) | (show W _ _ (eval _ _) _ _; first | (refine W_int ?_; intro _) | refine W_callN ?_ | (refine W_neg ?_; intro _)) | (show W _ _ (execs _ _) _ _; first | refine W_asg ?_ | refine W_if ?_ | refine W_ret ?_ | refine W_nil ?_) | (show W _ _ (storeName _ _ _) _ _; (refine st53_n ‹_› ?_; intro _ _ _)) | (show W _ _ (isTrue _ _ _) _ _; first | refine T_cmp ?_ | refine T_bool ?_) | (show W _ _ (allTrue _ _ _) _ _; first | refine T_and ?_ | refine T_or ?_ | refine T_orNil ?_) | (show W _ _ (truthy _) _ _; refine t_bool ?_) | (show W _ _ (spliced _) _ _; first | refine W_sp ?_ | refine W_sp0 ?_) | (show W _ _ (compareOp _ _ _) _ _; first | refine o_lt ?_ | refine o_gt ?_ | refine o_isNot (by with_unfolding_all rfl) ?_) | (show W _ _ (callWith _ _ _ _ _) _ _; refine W_cwT ?_) | (show W _ _ (call _ _ _) _ _; first | refine c_typeInt ?_ | refine c_int ?_) | (show if _ = true then _ else _; refine ite_f (by with_unfolding_all rfl) ?_) | (show Sq _ _ _ _ _ _ _; refine sq_next ?_))
  exact k _ _ (St.keep (by assumption))

/-! ### the stream -/
noncomputable abbrev sioNs : List Str := [s__StringIO__newline, s__StringIO__buf, s__StringIO__pos]
/-- the stream's dict: its text, its place -/
noncomputable def SioO (od : Obj) (x : Str) (p : Nat) : Prop := ∃ t1 t2 t3, NsO od (frL sioNs [some (.str t_45 t1), some (.str x t2), some (.int p t3)]) 3
variable {L y dy : Addr} {m : Str → Option Value} {r : List (Addr × Obj)} {od : Obj} {x : Str} {p : Nat} {ex : Bool}
theorem gs_nl (G : Gr w g) (S : St g L h m ((dy, od) :: r)) (hy : g.get? y = some (instObj 587 dy)) (hO : SioO od x p) (k : ∀ t, P (.str t_45 t) h) : W w A (getAttr (.ref y) s__StringIO__newline ex) h P := by
  obtain ⟨t1, t2, t3, N⟩ := hO
  exact W_get (G.keeps S.keep).k (S.keep _ _ hy) S.get0 N (by kernel_rfl) (by kernel_rfl) (show _ = some none from by kernel_rfl) rfl (show _ = some (.str t_45 t1) from by kernel_rfl) rfl (k _)
theorem gs_buf (G : Gr w g) (S : St g L h m ((dy, od) :: r)) (hy : g.get? y = some (instObj 587 dy)) (hO : SioO od x p) (k : ∀ t, P (.str x t) h) : W w A (getAttr (.ref y) s__StringIO__buf ex) h P := by
  obtain ⟨t1, t2, t3, N⟩ := hO
  exact W_get (G.keeps S.keep).k (S.keep _ _ hy) S.get0 N (by kernel_rfl) (by kernel_rfl) (show _ = some none from by kernel_rfl) rfl (show _ = some (.str x t2) from by kernel_rfl) rfl (k _)
theorem gs_pos (G : Gr w g) (S : St g L h m ((dy, od) :: r)) (hy : g.get? y = some (instObj 587 dy)) (hO : SioO od x p) (k : ∀ t, P (.int p t) h) : W w A (getAttr (.ref y) s__StringIO__pos ex) h P := by
  obtain ⟨t1, t2, t3, N⟩ := hO
  exact W_get (G.keeps S.keep).k (S.keep _ _ hy) S.get0 N (by kernel_rfl) (by kernel_rfl) (show _ = some none from by kernel_rfl) rfl (show _ = some (.int p t3) from by kernel_rfl) rfl (k _)
theorem ss_pos {U : Unit → Heap → Prop} {q : Nat} {i : Int} {t : Tok} (G : Gr w g) (S : St g L h m ((dy, od) :: r)) (hy : g.get? y = some (instObj 587 dy)) (hO : SioO od x p) (hi : i = q)
    (k : ∀ h' od', St g L h' m ((dy, od') :: r) → SioO od' x q → U () h') : W w A (setAttr (.ref y) s__StringIO__pos (.int i t)) h U := by
  obtain ⟨t1, t2, t3, N⟩ := hO
  refine W_set S (G.keeps S.keep).k (S.keep _ _ hy) S.get0 (S.mus _ (.head _)).2.1 N (by decide) (by kernel_rfl) (by kernel_rfl) (by kernel_rfl) (by kernel_rfl) fun h' od' e N' kp n => k h' od' (S.turned0 e kp n) ⟨t1, t2, t, ?_⟩
  rw [frL_set 2 rfl (by simp) (by decide +kernel)] at N'
  subst hi
  exact N'
theorem ms_check {pl : Sem Bool} {Q : Value × List Value → Heap → Prop} (G : Gr w g) (S : St g L h m ((dy, od) :: r)) (hy : g.get? y = some (instObj 587 dy)) (hO : SioO od x p) (k : Q (.ref 371, [.ref y]) h) : W w A (getMethod (.ref y) s__StringIO__check pl) h Q := by
  obtain ⟨t1, t2, t3, N⟩ := hO
  exact W_meth (G.keeps S.keep).k (S.keep _ _ hy) S.get0 N (by kernel_rfl) (by kernel_rfl) (by kernel_rfl) (by kernel_rfl) k
theorem ms_line {pl : Sem Bool} {Q : Value × List Value → Heap → Prop} (G : Gr w g) (S : St g L h m ((dy, od) :: r)) (hy : g.get? y = some (instObj 587 dy)) (hO : SioO od x p) (k : Q (.ref 385, [.ref y]) h) : W w A (getMethod (.ref y) s__StringIO__line pl) h Q := by
  obtain ⟨t1, t2, t3, N⟩ := hO
  exact W_meth (G.keeps S.keep).k (S.keep _ _ hy) S.get0 N (by kernel_rfl) (by kernel_rfl) (by kernel_rfl) (by kernel_rfl) k
end
section
variable {w : World} {A : Around} {h g : Heap} {P : Value → Heap → Prop} {L y dy : Addr} {m : Str → Option Value} {r : List (Addr × Obj)} {od : Obj} {x : Str} {p : Nat}
theorem hideL (G : Gr w g) (e : Ext g h) (as : List Addr) (ha : ∀ a ∈ as, g.get? a = none) : ∃ g', Gr w g' ∧ Ext g g' ∧ Ext g' h ∧ (∀ a ∈ as, g'.get? a = none) ∧ ∀ b o, b ∉ as → h.get? b = some o → g'.get? b = some o := by
  have e' : Ext g (hideAll h as) := fun b o q => hideAll_get _ (e b o q) fun z => by rw [ha b z] at q; cases q
  exact ⟨hideAll h as, G.keeps e', e', fun b o q => of_hideAll _ q, fun a z => hideAll_none _ z, fun b o z q => hideAll_get _ q z⟩
theorem c371 (G : Gr w g) (e : Ext g h) (hy : g.get? y = some (instObj 587 dy)) (hd : h.get? dy = some od) (gd : g.get? dy = none) (hO : SioO od x p) (hA : A.depth < 900) (k : ∀ h', Ext h h' → P .none h') :
    WC w A (.call (.ref 371) ⟨[.ref y], []⟩) h P := by
  obtain ⟨g', G', e1, e2, gd', kp⟩ := hideL G e [dy] (fun a ha => by rw [List.mem_singleton.mp ha]; exact gd)
  have hy' := e1 _ _ hy
  refine en371 (mu := [(dy, od)]) G' e2 (fun q hq => by cases List.mem_singleton.mp hq; exact ⟨hd, gd' _ (.head _)⟩) (by simp) hA ?_
  intro L h₁ hL S x₁
  refine W_if ?_
  repeat (with_reducible first | (show W _ _ (eval (.Name _ _) _) _ _; refine ld371_self ‹_› ?_) | (show W _ _ (eval _ _) _ _; first | refine W_attr ?_ | refine W_none ?_) | (show W _ _ (execs _ _) _ _; first | refine W_if ?_ | refine W_nil ?_) | (show W _ _ (isTrue _ _ _) _ _; refine T_cmp ?_) | (show W _ _ (truthy _) _ _; refine t_bool ?_) | (show W _ _ (compareOp _ _ _) _ _; refine o_is (by with_unfolding_all rfl) ?_) | (show if _ = true then _ else _; refine ite_f (by with_unfolding_all rfl) ?_) | (show Sq _ _ _ _ _ _ _; refine sq_next ?_) | (show W _ _ (getAttr _ _ _) _ _; (refine gs_buf ‹_› ‹_› ‹_› ‹_› ?_; intro _)))
  refine k _ fun b o q => ?_
  by_cases z : b = dy
  · rw [z] at q ⊢; rw [hd] at q; cases q; exact S.get0
  · exact S.keep b o (kp b o (by simpa using z) q)
end
section
variable {w : World} {A : Around} {h g : Heap} {P : Value → Heap → Prop} {L y dy : Addr} {m : Str → Option Value} {r : List (Addr × Obj)} {od : Obj} {x : Str} {p : Nat}
theorem c533 {t0 : Tok} (G : Gr w g) (e : Ext g h) (hy : g.get? y = some (instObj 587 dy)) (hd : h.get? dy = some od) (gd : g.get? dy = none) (hO : SioO od x p) (hx : x.length ≤ 1048576) (hA : A.depth < 890)
    (k1 : x.length ≤ p → ∀ t h', Ext h h' → P (.str t_44 t) h')
    (k2 : p < x.length → ∀ t h' od', ExtB [dy] h h' → h'.get? dy = some od' → SioO od' x (p + 1) → P (.str (Txt.slice x (some (p : Int)) (some ((p : Int) + 1))) t) h') :
    WC w A (.call (.ref 533) ⟨[.ref y, .int 1 t0], []⟩) h P := by
  obtain ⟨g', G', e1, e2, gd', kp⟩ := hideL G e [dy] (fun a ha => by rw [List.mem_singleton.mp ha]; exact gd)
  have hy' := e1 _ _ hy
  clear G e hy
  refine en533 (mu := [(dy, od)]) G' e2 (fun q hq => by cases List.mem_singleton.mp hq; exact ⟨hd, gd' _ (.head _)⟩) (by simp) (by omega) ?_
  intro L h₁ hL S x₁
  refine W_if ?_
  repeat (with_reducible first | (show W _ _ (eval (.Name _ _) _) _ _; first | refine ld533_self ‹_› ?_ | refine ld533_size ‹_› ?_ | refine ld533_start ‹_› ?_ | refine ld533_stop ‹_› ?_ | refine gl533__index ‹_› ‹_› ?_ | refine gl533_len ‹_› ‹_› ?_) | (show W _ _ (eval _ _) _ _; first | refine W_attr ?_ | (refine W_int ?_; intro _) | (refine W_str ?_; intro _) | refine W_none ?_ | refine W_callN ?_ | refine W_BinOp ?_ | refine W_sub ?_ | refine W_slice ?_) | (show W _ _ (execs _ _) _ _; first | refine W_asg ?_ | refine W_if ?_ | refine W_ret ?_ | refine W_nil ?_ | refine W_asgAttr ?_ | refine W_expr ?_) | (show W _ _ (storeName _ _ _) _ _; first | (refine st533_size ‹_› ?_; intro _ _ _) | (refine st533_start ‹_› ?_; intro _ _ _) | (refine st533_stop ‹_› ?_; intro _ _ _)) | (show W _ _ (isTrue _ _ _) _ _; first | refine T_cmp ?_ | refine T_bool ?_) | (show W _ _ (allTrue _ _ _) _ _; first | refine T_and ?_ | refine T_andNil ?_) | (show W _ _ (truthy _) _ _; refine t_bool ?_) | (show W _ _ (spliced _) _ _; first | refine W_sp ?_ | refine W_sp0 ?_) | (show W _ _ (compareOp _ _ _) _ _; first | refine o_lt ?_ | refine o_ge ?_ | refine o_is (by with_unfolding_all rfl) ?_) | (show W _ _ (callWith _ _ _ _ _) _ _; refine W_cwB ?_) | (show W _ _ (binaryOp _ _ _) _ _; (refine o_add ?_; intro _)) | (show if _ = true then _ else _; first | refine ite_f (by with_unfolding_all rfl) ?_ | refine ite_t (by with_unfolding_all rfl) ?_) | (show Sq _ _ _ _ _ _ _; first | refine sq_next ?_ | refine sq_ret ?_) | (show W _ _ (getAttr _ _ _) _ _; first | (refine gs_buf ‹_› ‹_› ‹_› ‹_› ?_; intro _) | (refine gs_pos ‹_› ‹_› ‹_› ‹_› ?_; intro _)))
  with_reducible refine W_cw (by kernel_rfl) ?_
  repeat (with_reducible first | (show W _ _ (eval (.Name _ _) _) _ _; first | refine ld533_self ‹_› ?_ | refine ld533_size ‹_› ?_ | refine ld533_start ‹_› ?_ | refine ld533_stop ‹_› ?_ | refine gl533__index ‹_› ‹_› ?_ | refine gl533_len ‹_› ‹_› ?_) | (show W _ _ (eval _ _) _ _; first | refine W_attr ?_ | (refine W_int ?_; intro _) | (refine W_str ?_; intro _) | refine W_none ?_ | refine W_callN ?_ | refine W_BinOp ?_ | refine W_sub ?_ | refine W_slice ?_) | (show W _ _ (execs _ _) _ _; first | refine W_asg ?_ | refine W_if ?_ | refine W_ret ?_ | refine W_nil ?_ | refine W_asgAttr ?_ | refine W_expr ?_) | (show W _ _ (storeName _ _ _) _ _; first | (refine st533_size ‹_› ?_; intro _ _ _) | (refine st533_start ‹_› ?_; intro _ _ _) | (refine st533_stop ‹_› ?_; intro _ _ _)) | (show W _ _ (isTrue _ _ _) _ _; first | refine T_cmp ?_ | refine T_bool ?_) | (show W _ _ (allTrue _ _ _) _ _; first | refine T_and ?_ | refine T_andNil ?_) | (show W _ _ (truthy _) _ _; refine t_bool ?_) | (show W _ _ (spliced _) _ _; first | refine W_sp ?_ | refine W_sp0 ?_) | (show W _ _ (compareOp _ _ _) _ _; first | refine o_lt ?_ | refine o_ge ?_ | refine o_is (by with_unfolding_all rfl) ?_) | (show W _ _ (callWith _ _ _ _ _) _ _; refine W_cwB ?_) | (show W _ _ (binaryOp _ _ _) _ _; (refine o_add ?_; intro _)) | (show if _ = true then _ else _; first | refine ite_f (by with_unfolding_all rfl) ?_ | refine ite_t (by with_unfolding_all rfl) ?_) | (show Sq _ _ _ _ _ _ _; first | refine sq_next ?_ | refine sq_ret ?_) | (show W _ _ (getAttr _ _ _) _ _; first | (refine gs_buf ‹_› ‹_› ‹_› ‹_› ?_; intro _) | (refine gs_pos ‹_› ‹_› ‹_› ‹_› ?_; intro _)))
  refine ⟨(G'.keeps S.keep).k, ?_⟩
  refine (c53 (G'.keeps S.keep) (by show A.depth + 1 < 900; omega) (by decide) (by decide) ?_).call
  intro t₁ h₂ x₂
  replace S := S.ext x₂
  repeat (with_reducible first | (show W _ _ (eval (.Name _ _) _) _ _; first | refine ld533_self ‹_› ?_ | refine ld533_size ‹_› ?_ | refine ld533_start ‹_› ?_ | refine ld533_stop ‹_› ?_ | refine gl533__index ‹_› ‹_› ?_ | refine gl533_len ‹_› ‹_› ?_) | (show W _ _ (eval _ _) _ _; first | refine W_attr ?_ | (refine W_int ?_; intro _) | (refine W_str ?_; intro _) | refine W_none ?_ | refine W_callN ?_ | refine W_BinOp ?_ | refine W_sub ?_ | refine W_slice ?_) | (show W _ _ (execs _ _) _ _; first | refine W_asg ?_ | refine W_if ?_ | refine W_ret ?_ | refine W_nil ?_ | refine W_asgAttr ?_ | refine W_expr ?_) | (show W _ _ (storeName _ _ _) _ _; first | (refine st533_size ‹_› ?_; intro _ _ _) | (refine st533_start ‹_› ?_; intro _ _ _) | (refine st533_stop ‹_› ?_; intro _ _ _)) | (show W _ _ (isTrue _ _ _) _ _; first | refine T_cmp ?_ | refine T_bool ?_) | (show W _ _ (allTrue _ _ _) _ _; first | refine T_and ?_ | refine T_andNil ?_) | (show W _ _ (truthy _) _ _; refine t_bool ?_) | (show W _ _ (spliced _) _ _; first | refine W_sp ?_ | refine W_sp0 ?_) | (show W _ _ (compareOp _ _ _) _ _; first | refine o_lt ?_ | refine o_ge ?_ | refine o_is (by with_unfolding_all rfl) ?_) | (show W _ _ (callWith _ _ _ _ _) _ _; refine W_cwB ?_) | (show W _ _ (binaryOp _ _ _) _ _; (refine o_add ?_; intro _)) | (show if _ = true then _ else _; first | refine ite_f (by with_unfolding_all rfl) ?_ | refine ite_t (by with_unfolding_all rfl) ?_) | (show Sq _ _ _ _ _ _ _; first | refine sq_next ?_ | refine sq_ret ?_) | (show W _ _ (getAttr _ _ _) _ _; first | (refine gs_buf ‹_› ‹_› ‹_› ‹_› ?_; intro _) | (refine gs_pos ‹_› ‹_› ‹_› ‹_› ?_; intro _)))
  with_reducible refine W_callM ?_
  repeat (with_reducible first | (show W _ _ (eval (.Name _ _) _) _ _; first | refine ld533_self ‹_› ?_ | refine ld533_size ‹_› ?_ | refine ld533_start ‹_› ?_ | refine ld533_stop ‹_› ?_ | refine gl533__index ‹_› ‹_› ?_ | refine gl533_len ‹_› ‹_› ?_) | (show W _ _ (eval _ _) _ _; first | refine W_attr ?_ | (refine W_int ?_; intro _) | (refine W_str ?_; intro _) | refine W_none ?_ | refine W_callN ?_ | refine W_BinOp ?_ | refine W_sub ?_ | refine W_slice ?_) | (show W _ _ (execs _ _) _ _; first | refine W_asg ?_ | refine W_if ?_ | refine W_ret ?_ | refine W_nil ?_ | refine W_asgAttr ?_ | refine W_expr ?_) | (show W _ _ (storeName _ _ _) _ _; first | (refine st533_size ‹_› ?_; intro _ _ _) | (refine st533_start ‹_› ?_; intro _ _ _) | (refine st533_stop ‹_› ?_; intro _ _ _)) | (show W _ _ (isTrue _ _ _) _ _; first | refine T_cmp ?_ | refine T_bool ?_) | (show W _ _ (allTrue _ _ _) _ _; first | refine T_and ?_ | refine T_andNil ?_) | (show W _ _ (truthy _) _ _; refine t_bool ?_) | (show W _ _ (spliced _) _ _; first | refine W_sp ?_ | refine W_sp0 ?_) | (show W _ _ (compareOp _ _ _) _ _; first | refine o_lt ?_ | refine o_ge ?_ | refine o_is (by with_unfolding_all rfl) ?_) | (show W _ _ (callWith _ _ _ _ _) _ _; refine W_cwB ?_) | (show W _ _ (binaryOp _ _ _) _ _; (refine o_add ?_; intro _)) | (show if _ = true then _ else _; first | refine ite_f (by with_unfolding_all rfl) ?_ | refine ite_t (by with_unfolding_all rfl) ?_) | (show Sq _ _ _ _ _ _ _; first | refine sq_next ?_ | refine sq_ret ?_) | (show W _ _ (getAttr _ _ _) _ _; first | (refine gs_buf ‹_› ‹_› ‹_› ‹_› ?_; intro _) | (refine gs_pos ‹_› ‹_› ‹_› ‹_› ?_; intro _)))
  with_reducible refine ms_check G' (by assumption) hy' hO ?_
  with_reducible refine W_cw0 (G'.keeps (St.keep (by assumption))).k (by kernel_rfl) ?_
  refine (c371 G' (St.keep (by assumption)) hy' (St.get0 (by assumption)) (gd' _ (.head _)) hO (by show A.depth + 1 < 900; omega) ?_).call
  intro h₃ x₃
  rename St _ _ _ _ _ => S₃
  replace S := S₃.ext x₃
  repeat (with_reducible first | (show W _ _ (eval (.Name _ _) _) _ _; first | refine ld533_self ‹_› ?_ | refine ld533_size ‹_› ?_ | refine ld533_start ‹_› ?_ | refine ld533_stop ‹_› ?_ | refine gl533__index ‹_› ‹_› ?_ | refine gl533_len ‹_› ‹_› ?_) | (show W _ _ (eval _ _) _ _; first | refine W_attr ?_ | (refine W_int ?_; intro _) | (refine W_str ?_; intro _) | refine W_none ?_ | refine W_callN ?_ | refine W_BinOp ?_ | refine W_sub ?_ | refine W_slice ?_) | (show W _ _ (execs _ _) _ _; first | refine W_asg ?_ | refine W_if ?_ | refine W_ret ?_ | refine W_nil ?_ | refine W_asgAttr ?_ | refine W_expr ?_) | (show W _ _ (storeName _ _ _) _ _; first | (refine st533_size ‹_› ?_; intro _ _ _) | (refine st533_start ‹_› ?_; intro _ _ _) | (refine st533_stop ‹_› ?_; intro _ _ _)) | (show W _ _ (isTrue _ _ _) _ _; first | refine T_cmp ?_ | refine T_bool ?_) | (show W _ _ (allTrue _ _ _) _ _; first | refine T_and ?_ | refine T_andNil ?_) | (show W _ _ (truthy _) _ _; refine t_bool ?_) | (show W _ _ (spliced _) _ _; first | refine W_sp ?_ | refine W_sp0 ?_) | (show W _ _ (compareOp _ _ _) _ _; first | refine o_lt ?_ | refine o_ge ?_ | refine o_is (by with_unfolding_all rfl) ?_) | (show W _ _ (callWith _ _ _ _ _) _ _; refine W_cwB ?_) | (show W _ _ (binaryOp _ _ _) _ _; (refine o_add ?_; intro _)) | (show if _ = true then _ else _; first | refine ite_f (by with_unfolding_all rfl) ?_ | refine ite_t (by with_unfolding_all rfl) ?_) | (show Sq _ _ _ _ _ _ _; first | refine sq_next ?_ | refine sq_ret ?_) | (show W _ _ (getAttr _ _ _) _ _; first | (refine gs_buf ‹_› ‹_› ‹_› ‹_› ?_; intro _) | (refine gs_pos ‹_› ‹_› ‹_› ‹_› ?_; intro _)))
  with_reducible refine c_lenStr (by omega) ?_
  intro _
  repeat (with_reducible first | (show W _ _ (eval (.Name _ _) _) _ _; first | refine ld533_self ‹_› ?_ | refine ld533_size ‹_› ?_ | refine ld533_start ‹_› ?_ | refine ld533_stop ‹_› ?_ | refine gl533__index ‹_› ‹_› ?_ | refine gl533_len ‹_› ‹_› ?_) | (show W _ _ (eval _ _) _ _; first | refine W_attr ?_ | (refine W_int ?_; intro _) | (refine W_str ?_; intro _) | refine W_none ?_ | refine W_callN ?_ | refine W_BinOp ?_ | refine W_sub ?_ | refine W_slice ?_) | (show W _ _ (execs _ _) _ _; first | refine W_asg ?_ | refine W_if ?_ | refine W_ret ?_ | refine W_nil ?_ | refine W_asgAttr ?_ | refine W_expr ?_) | (show W _ _ (storeName _ _ _) _ _; first | (refine st533_size ‹_› ?_; intro _ _ _) | (refine st533_start ‹_› ?_; intro _ _ _) | (refine st533_stop ‹_› ?_; intro _ _ _)) | (show W _ _ (isTrue _ _ _) _ _; first | refine T_cmp ?_ | refine T_bool ?_) | (show W _ _ (allTrue _ _ _) _ _; first | refine T_and ?_ | refine T_andNil ?_) | (show W _ _ (truthy _) _ _; refine t_bool ?_) | (show W _ _ (spliced _) _ _; first | refine W_sp ?_ | refine W_sp0 ?_) | (show W _ _ (compareOp _ _ _) _ _; first | refine o_lt ?_ | refine o_ge ?_ | refine o_is (by with_unfolding_all rfl) ?_) | (show W _ _ (callWith _ _ _ _ _) _ _; refine W_cwB ?_) | (show W _ _ (binaryOp _ _ _) _ _; (refine o_add ?_; intro _)) | (show if _ = true then _ else _; first | refine ite_f (by with_unfolding_all rfl) ?_ | refine ite_t (by with_unfolding_all rfl) ?_) | (show Sq _ _ _ _ _ _ _; first | refine sq_next ?_ | refine sq_ret ?_) | (show W _ _ (getAttr _ _ _) _ _; first | (refine gs_buf ‹_› ‹_› ‹_› ‹_› ?_; intro _) | (refine gs_pos ‹_› ‹_› ‹_› ‹_› ?_; intro _)))
  refine ite_s (fun q => ?_) fun q => ?_
  · have q' : x.length ≤ p := by have := of_decide_eq_true q; omega
    repeat (with_reducible first | (show W _ _ (eval (.Name _ _) _) _ _; first | refine ld533_self ‹_› ?_ | refine ld533_size ‹_› ?_ | refine ld533_start ‹_› ?_ | refine ld533_stop ‹_› ?_ | refine gl533__index ‹_› ‹_› ?_ | refine gl533_len ‹_› ‹_› ?_) | (show W _ _ (eval _ _) _ _; first | refine W_attr ?_ | (refine W_int ?_; intro _) | (refine W_str ?_; intro _) | refine W_none ?_ | refine W_callN ?_ | refine W_BinOp ?_ | refine W_sub ?_ | refine W_slice ?_) | (show W _ _ (execs _ _) _ _; first | refine W_asg ?_ | refine W_if ?_ | refine W_ret ?_ | refine W_nil ?_ | refine W_asgAttr ?_ | refine W_expr ?_) | (show W _ _ (storeName _ _ _) _ _; first | (refine st533_size ‹_› ?_; intro _ _ _) | (refine st533_start ‹_› ?_; intro _ _ _) | (refine st533_stop ‹_› ?_; intro _ _ _)) | (show W _ _ (isTrue _ _ _) _ _; first | refine T_cmp ?_ | refine T_bool ?_) | (show W _ _ (allTrue _ _ _) _ _; first | refine T_and ?_ | refine T_andNil ?_) | (show W _ _ (truthy _) _ _; refine t_bool ?_) | (show W _ _ (spliced _) _ _; first | refine W_sp ?_ | refine W_sp0 ?_) | (show W _ _ (compareOp _ _ _) _ _; first | refine o_lt ?_ | refine o_ge ?_ | refine o_is (by with_unfolding_all rfl) ?_) | (show W _ _ (callWith _ _ _ _ _) _ _; refine W_cwB ?_) | (show W _ _ (binaryOp _ _ _) _ _; (refine o_add ?_; intro _)) | (show if _ = true then _ else _; first | refine ite_f (by with_unfolding_all rfl) ?_ | refine ite_t (by with_unfolding_all rfl) ?_) | (show Sq _ _ _ _ _ _ _; first | refine sq_next ?_ | refine sq_ret ?_) | (show W _ _ (getAttr _ _ _) _ _; first | (refine gs_buf ‹_› ‹_› ‹_› ‹_› ?_; intro _) | (refine gs_pos ‹_› ‹_› ‹_› ‹_› ?_; intro _)))
    rename St _ _ _ _ _ => S₄
    refine k1 q' _ _ fun b o z => ?_
    by_cases u : b = dy
    · rw [u] at z ⊢; rw [hd] at z; cases z; exact S₄.get0
    · exact S₄.keep b o (kp b o (by simpa using u) z)
  · have q' : p < x.length := by have := of_decide_eq_false q; omega
    repeat (with_reducible first | (show W _ _ (eval (.Name _ _) _) _ _; first | refine ld533_self ‹_› ?_ | refine ld533_size ‹_› ?_ | refine ld533_start ‹_› ?_ | refine ld533_stop ‹_› ?_ | refine gl533__index ‹_› ‹_› ?_ | refine gl533_len ‹_› ‹_› ?_) | (show W _ _ (eval _ _) _ _; first | refine W_attr ?_ | (refine W_int ?_; intro _) | (refine W_str ?_; intro _) | refine W_none ?_ | refine W_callN ?_ | refine W_BinOp ?_ | refine W_sub ?_ | refine W_slice ?_) | (show W _ _ (execs _ _) _ _; first | refine W_asg ?_ | refine W_if ?_ | refine W_ret ?_ | refine W_nil ?_ | refine W_asgAttr ?_ | refine W_expr ?_) | (show W _ _ (storeName _ _ _) _ _; first | (refine st533_size ‹_› ?_; intro _ _ _) | (refine st533_start ‹_› ?_; intro _ _ _) | (refine st533_stop ‹_› ?_; intro _ _ _)) | (show W _ _ (isTrue _ _ _) _ _; first | refine T_cmp ?_ | refine T_bool ?_) | (show W _ _ (allTrue _ _ _) _ _; first | refine T_and ?_ | refine T_andNil ?_) | (show W _ _ (truthy _) _ _; refine t_bool ?_) | (show W _ _ (spliced _) _ _; first | refine W_sp ?_ | refine W_sp0 ?_) | (show W _ _ (compareOp _ _ _) _ _; first | refine o_lt ?_ | refine o_ge ?_ | refine o_is (by with_unfolding_all rfl) ?_) | (show W _ _ (callWith _ _ _ _ _) _ _; refine W_cwB ?_) | (show W _ _ (binaryOp _ _ _) _ _; (refine o_add ?_; intro _)) | (show if _ = true then _ else _; first | refine ite_f (by with_unfolding_all rfl) ?_ | refine ite_t (by with_unfolding_all rfl) ?_) | (show Sq _ _ _ _ _ _ _; first | refine sq_next ?_ | refine sq_ret ?_) | (show W _ _ (getAttr _ _ _) _ _; first | (refine gs_buf ‹_› ‹_› ‹_› ‹_› ?_; intro _) | (refine gs_pos ‹_› ‹_› ‹_› ‹_› ?_; intro _)))
    refine ite_s (fun q2 => ?_) fun q2 => ?_
    all_goals
      repeat (with_reducible first | (show W _ _ (eval (.Name _ _) _) _ _; first | refine ld533_self ‹_› ?_ | refine ld533_size ‹_› ?_ | refine ld533_start ‹_› ?_ | refine ld533_stop ‹_› ?_ | refine gl533__index ‹_› ‹_› ?_ | refine gl533_len ‹_› ‹_› ?_) | (show W _ _ (eval _ _) _ _; first | refine W_attr ?_ | (refine W_int ?_; intro _) | (refine W_str ?_; intro _) | refine W_none ?_ | refine W_callN ?_ | refine W_BinOp ?_ | refine W_sub ?_ | refine W_slice ?_) | (show W _ _ (execs _ _) _ _; first | refine W_asg ?_ | refine W_if ?_ | refine W_ret ?_ | refine W_nil ?_ | refine W_asgAttr ?_ | refine W_expr ?_) | (show W _ _ (storeName _ _ _) _ _; first | (refine st533_size ‹_› ?_; intro _ _ _) | (refine st533_start ‹_› ?_; intro _ _ _) | (refine st533_stop ‹_› ?_; intro _ _ _)) | (show W _ _ (isTrue _ _ _) _ _; first | refine T_cmp ?_ | refine T_bool ?_) | (show W _ _ (allTrue _ _ _) _ _; first | refine T_and ?_ | refine T_andNil ?_) | (show W _ _ (truthy _) _ _; refine t_bool ?_) | (show W _ _ (spliced _) _ _; first | refine W_sp ?_ | refine W_sp0 ?_) | (show W _ _ (compareOp _ _ _) _ _; first | refine o_lt ?_ | refine o_ge ?_ | refine o_is (by with_unfolding_all rfl) ?_) | (show W _ _ (callWith _ _ _ _ _) _ _; refine W_cwB ?_) | (show W _ _ (binaryOp _ _ _) _ _; (refine o_add ?_; intro _)) | (show if _ = true then _ else _; first | refine ite_f (by with_unfolding_all rfl) ?_ | refine ite_t (by with_unfolding_all rfl) ?_) | (show Sq _ _ _ _ _ _ _; first | refine sq_next ?_ | refine sq_ret ?_) | (show W _ _ (getAttr _ _ _) _ _; first | (refine gs_buf ‹_› ‹_› ‹_› ‹_› ?_; intro _) | (refine gs_pos ‹_› ‹_› ‹_› ‹_› ?_; intro _)))
      with_reducible refine ss_pos (q := p + 1) G' (by assumption) hy' hO (by first | omega | (have := of_decide_eq_false q2; omega)) ?_
      intro h₅ od' S₅ hO'
      repeat (with_reducible first | (show W _ _ (eval (.Name _ _) _) _ _; first | refine ld533_self ‹_› ?_ | refine ld533_size ‹_› ?_ | refine ld533_start ‹_› ?_ | refine ld533_stop ‹_› ?_ | refine gl533__index ‹_› ‹_› ?_ | refine gl533_len ‹_› ‹_› ?_) | (show W _ _ (eval _ _) _ _; first | refine W_attr ?_ | (refine W_int ?_; intro _) | (refine W_str ?_; intro _) | refine W_none ?_ | refine W_callN ?_ | refine W_BinOp ?_ | refine W_sub ?_ | refine W_slice ?_) | (show W _ _ (execs _ _) _ _; first | refine W_asg ?_ | refine W_if ?_ | refine W_ret ?_ | refine W_nil ?_ | refine W_asgAttr ?_ | refine W_expr ?_) | (show W _ _ (storeName _ _ _) _ _; first | (refine st533_size ‹_› ?_; intro _ _ _) | (refine st533_start ‹_› ?_; intro _ _ _) | (refine st533_stop ‹_› ?_; intro _ _ _)) | (show W _ _ (isTrue _ _ _) _ _; first | refine T_cmp ?_ | refine T_bool ?_) | (show W _ _ (allTrue _ _ _) _ _; first | refine T_and ?_ | refine T_andNil ?_) | (show W _ _ (truthy _) _ _; refine t_bool ?_) | (show W _ _ (spliced _) _ _; first | refine W_sp ?_ | refine W_sp0 ?_) | (show W _ _ (compareOp _ _ _) _ _; first | refine o_lt ?_ | refine o_ge ?_ | refine o_is (by with_unfolding_all rfl) ?_) | (show W _ _ (callWith _ _ _ _ _) _ _; refine W_cwB ?_) | (show W _ _ (binaryOp _ _ _) _ _; (refine o_add ?_; intro _)) | (show if _ = true then _ else _; first | refine ite_f (by with_unfolding_all rfl) ?_ | refine ite_t (by with_unfolding_all rfl) ?_) | (show Sq _ _ _ _ _ _ _; first | refine sq_next ?_ | refine sq_ret ?_) | (show W _ _ (getAttr _ _ _) _ _; first | (refine gs_buf ‹_› ‹_› ‹_› ‹_› ?_; intro _) | (refine gs_pos ‹_› ‹_› ‹_› ‹_› ?_; intro _)))
      with_reducible refine o_sliceStr (by rw [sizeLine_eq]; omega) (fun _ => rfl) ?_
      intro t₆ h₆ x₆
    · exact k2 q' _ _ od' (fun b o z u => x₆ b o (S₅.keep b o (kp b o z u))) (x₆ _ _ S₅.get0) hO'
    · have e : (x.length : Int) = (p : Int) + 1 := by have := of_decide_eq_false q2; omega
      show P (.str (Txt.slice x (some (p : Int)) (some (x.length : Int))) t₆) h₆
      rw [e]
      exact k2 q' _ _ od' (fun b o z u => x₆ b o (S₅.keep b o (kp b o z u))) (x₆ _ _ S₅.get0) hO'
end
section
variable {w : World} {A : Around} {h g : Heap} {P : Value → Heap → Prop} {L y dy : Addr} {m : Str → Option Value} {r : List (Addr × Obj)} {od : Obj} {x z : Str} {p : Nat} {t u : Tok}
theorem m_find {pl : Sem Bool} {Q : Value × List Value → Heap → Prop} (k : Q (.builtin "str.find", [.str x t]) h) : W w A (getMethod (.str x t) s_find pl) h Q := fun s hs => by
  rw [show s_find = Str.ofString "find" from by decide +kernel]
  exact GM.find ⟨.rfl', hs ▸ k⟩
theorem gives_find4 (x y : Str) (i j : Int) (t u v v' : Tok) : Gives (Builtin.«str.find» ⟨[.str x t, .str y u, .int i v, .int j v'], []⟩) (.int (match Builtin.Str.occurrences x y (fromIndex x.length i) (min (fromIndex x.length j) x.length) 1 with | k :: _ => (k : Int) | [] => -1)) := by
  show Gives (match Builtin.Str.occurrences x y (fromIndex x.length i) (min (fromIndex x.length j) x.length) 1 with | k :: _ => retInt k | [] => (do rule "str.find.not-found"; retInt (-1))) _
  cases Builtin.Str.occurrences x y (fromIndex x.length i) (min (fromIndex x.length j) x.length) 1 with
  | nil => exact .rule (.of_eq rfl)
  | cons k _ => exact .of_eq rfl
theorem c_find {i j : Int} {v v' : Tok} (hj : j = x.length) (k : ∀ t, P (.int (Txt.find3 x z i) t) h) : W w A (call (.builtin "str.find") [.str x t, .str z u, .int i v, .int j v']) h P := fun s hs => by
  refine call_gives F.slot_str_find (typeIs_str _ _ _) F.entry_str_find (F.args_str_find_4 _ _ _ _) (gives_find4 x z i j t u v v') ?_
  have e : min (fromIndex x.length j) x.length = x.length := by subst hj; unfold fromIndex; omega
  rw [e]
  exact ⟨⟨rfl, rfl, rfl⟩, hs ▸ k _⟩
theorem c385 {q : Nat} {t0 : Tok} (G : Gr w g) (e : Ext g h) (hy : g.get? y = some (instObj 587 dy)) (hd : h.get? dy = some od) (gd : g.get? dy = none) (hO : SioO od x p) (hx : x.length ≤ 1048576) (hA : A.depth < 890)
    (hp : p < x.length) (hq : Txt.find3 x t_45 (p : Int) = (q : Int)) (k : ∀ t h' od', ExtB [dy] h h' → h'.get? dy = some od' → SioO od' x (q + 1) → P (.str (Txt.slice x (some (p : Int)) (some ((q : Int) + 1))) t) h') :
    WC w A (.call (.ref 385) ⟨[.ref y, .int (-1) t0], []⟩) h P := by
  obtain ⟨g', G', e1, e2, gd', kp⟩ := hideL G e [dy] (fun a ha => by rw [List.mem_singleton.mp ha]; exact gd)
  have hy' := e1 _ _ hy
  clear G e hy
  refine en385 (mu := [(dy, od)]) G' e2 (fun q hq => by cases List.mem_singleton.mp hq; exact ⟨hd, gd' _ (.head _)⟩) (by simp) (by omega) ?_
  intro L h₁ hL S x₁
  refine W_asg ?_
  repeat (with_reducible first | (show W _ _ (eval (.Name _ _) _) _ _; first | refine ld385_self ‹_› ?_ | refine ld385_limit ‹_› ?_ | refine ld385_start ‹_› ?_ | refine ld385_stop ‹_› ?_ | refine ld385_cut ‹_› ?_ | refine ld385_newline ‹_› ?_ | refine ld385_i ‹_› ?_ | refine ld385_end ‹_› ?_ | refine gl385_len ‹_› ‹_› ?_) | (show W _ _ (eval _ _) _ _; first | refine W_attr ?_ | (refine W_int ?_; intro _) | (refine W_str ?_; intro _) | refine W_bool ?_ | refine W_none ?_ | refine W_callN ?_ | refine W_BinOp ?_ | refine W_sub ?_ | refine W_IfExp ?_ | refine W_slice ?_) | (show W _ _ (execs _ _) _ _; first | refine W_asg ?_ | refine W_if ?_ | refine W_ret ?_ | refine W_nil ?_ | refine W_asgAttr ?_) | (show W _ _ (storeName _ _ _) _ _; first | (refine st385_start ‹_› ?_; intro _ _ _) | (refine st385_stop ‹_› ?_; intro _ _ _) | (refine st385_cut ‹_› ?_; intro _ _ _) | (refine st385_newline ‹_› ?_; intro _ _ _) | (refine st385_i ‹_› ?_; intro _ _ _) | (refine st385_end ‹_› ?_; intro _ _ _)) | (show W _ _ (isTrue _ _ _) _ _; first | refine T_cmp ?_ | refine T_bool ?_ | refine T_val ?_) | (show W _ _ (allTrue _ _ _) _ _; refine T_and ?_) | (show W _ _ (truthy _) _ _; refine t_bool ?_) | (show W _ _ (spliced _) _ _; first | refine W_sp ?_ | refine W_sp0 ?_) | (show W _ _ (compareOp _ _ _) _ _; first | refine o_eqs ?_ | refine o_ge ?_ | refine o_is (by with_unfolding_all rfl) ?_) | (show W _ _ (callWith _ _ _ _ _) _ _; first | refine W_cwB ?_ | refine W_cwB1 ?_) | (show W _ _ (binaryOp _ _ _) _ _; (refine o_add ?_; intro _)) | (show if _ = true then _ else _; first | refine ite_f (by with_unfolding_all rfl) ?_ | refine ite_t (by with_unfolding_all rfl) ?_) | (show Sq _ _ _ _ _ _ _; refine sq_next ?_) | (show W _ _ (getAttr _ _ _) _ _; first | (refine gs_nl ‹_› ‹_› ‹_› ‹_› ?_; intro _) | (refine gs_buf ‹_› ‹_› ‹_› ‹_› ?_; intro _) | (refine gs_pos ‹_› ‹_› ‹_› ‹_› ?_; intro _)))
  with_reducible refine c_lenStr (by omega) ?_
  intro _
  repeat (with_reducible first | (show W _ _ (eval (.Name _ _) _) _ _; first | refine ld385_self ‹_› ?_ | refine ld385_limit ‹_› ?_ | refine ld385_start ‹_› ?_ | refine ld385_stop ‹_› ?_ | refine ld385_cut ‹_› ?_ | refine ld385_newline ‹_› ?_ | refine ld385_i ‹_› ?_ | refine ld385_end ‹_› ?_ | refine gl385_len ‹_› ‹_› ?_) | (show W _ _ (eval _ _) _ _; first | refine W_attr ?_ | (refine W_int ?_; intro _) | (refine W_str ?_; intro _) | refine W_bool ?_ | refine W_none ?_ | refine W_callN ?_ | refine W_BinOp ?_ | refine W_sub ?_ | refine W_IfExp ?_ | refine W_slice ?_) | (show W _ _ (execs _ _) _ _; first | refine W_asg ?_ | refine W_if ?_ | refine W_ret ?_ | refine W_nil ?_ | refine W_asgAttr ?_) | (show W _ _ (storeName _ _ _) _ _; first | (refine st385_start ‹_› ?_; intro _ _ _) | (refine st385_stop ‹_› ?_; intro _ _ _) | (refine st385_cut ‹_› ?_; intro _ _ _) | (refine st385_newline ‹_› ?_; intro _ _ _) | (refine st385_i ‹_› ?_; intro _ _ _) | (refine st385_end ‹_› ?_; intro _ _ _)) | (show W _ _ (isTrue _ _ _) _ _; first | refine T_cmp ?_ | refine T_bool ?_ | refine T_val ?_) | (show W _ _ (allTrue _ _ _) _ _; refine T_and ?_) | (show W _ _ (truthy _) _ _; refine t_bool ?_) | (show W _ _ (spliced _) _ _; first | refine W_sp ?_ | refine W_sp0 ?_) | (show W _ _ (compareOp _ _ _) _ _; first | refine o_eqs ?_ | refine o_ge ?_ | refine o_is (by with_unfolding_all rfl) ?_) | (show W _ _ (callWith _ _ _ _ _) _ _; first | refine W_cwB ?_ | refine W_cwB1 ?_) | (show W _ _ (binaryOp _ _ _) _ _; (refine o_add ?_; intro _)) | (show if _ = true then _ else _; first | refine ite_f (by with_unfolding_all rfl) ?_ | refine ite_t (by with_unfolding_all rfl) ?_) | (show Sq _ _ _ _ _ _ _; refine sq_next ?_) | (show W _ _ (getAttr _ _ _) _ _; first | (refine gs_nl ‹_› ‹_› ‹_› ‹_› ?_; intro _) | (refine gs_buf ‹_› ‹_› ‹_› ‹_› ?_; intro _) | (refine gs_pos ‹_› ‹_› ‹_› ‹_› ?_; intro _)))
  with_reducible refine ite_f (decide_eq_false (by omega)) ?_
  repeat (with_reducible first | (show W _ _ (eval (.Name _ _) _) _ _; first | refine ld385_self ‹_› ?_ | refine ld385_limit ‹_› ?_ | refine ld385_start ‹_› ?_ | refine ld385_stop ‹_› ?_ | refine ld385_cut ‹_› ?_ | refine ld385_newline ‹_› ?_ | refine ld385_i ‹_› ?_ | refine ld385_end ‹_› ?_ | refine gl385_len ‹_› ‹_› ?_) | (show W _ _ (eval _ _) _ _; first | refine W_attr ?_ | (refine W_int ?_; intro _) | (refine W_str ?_; intro _) | refine W_bool ?_ | refine W_none ?_ | refine W_callN ?_ | refine W_BinOp ?_ | refine W_sub ?_ | refine W_IfExp ?_ | refine W_slice ?_) | (show W _ _ (execs _ _) _ _; first | refine W_asg ?_ | refine W_if ?_ | refine W_ret ?_ | refine W_nil ?_ | refine W_asgAttr ?_) | (show W _ _ (storeName _ _ _) _ _; first | (refine st385_start ‹_› ?_; intro _ _ _) | (refine st385_stop ‹_› ?_; intro _ _ _) | (refine st385_cut ‹_› ?_; intro _ _ _) | (refine st385_newline ‹_› ?_; intro _ _ _) | (refine st385_i ‹_› ?_; intro _ _ _) | (refine st385_end ‹_› ?_; intro _ _ _)) | (show W _ _ (isTrue _ _ _) _ _; first | refine T_cmp ?_ | refine T_bool ?_ | refine T_val ?_) | (show W _ _ (allTrue _ _ _) _ _; refine T_and ?_) | (show W _ _ (truthy _) _ _; refine t_bool ?_) | (show W _ _ (spliced _) _ _; first | refine W_sp ?_ | refine W_sp0 ?_) | (show W _ _ (compareOp _ _ _) _ _; first | refine o_eqs ?_ | refine o_ge ?_ | refine o_is (by with_unfolding_all rfl) ?_) | (show W _ _ (callWith _ _ _ _ _) _ _; first | refine W_cwB ?_ | refine W_cwB1 ?_) | (show W _ _ (binaryOp _ _ _) _ _; (refine o_add ?_; intro _)) | (show if _ = true then _ else _; first | refine ite_f (by with_unfolding_all rfl) ?_ | refine ite_t (by with_unfolding_all rfl) ?_) | (show Sq _ _ _ _ _ _ _; refine sq_next ?_) | (show W _ _ (getAttr _ _ _) _ _; first | (refine gs_nl ‹_› ‹_› ‹_› ‹_› ?_; intro _) | (refine gs_buf ‹_› ‹_› ‹_› ‹_› ?_; intro _) | (refine gs_pos ‹_› ‹_› ‹_› ‹_› ?_; intro _)))
  with_reducible refine W_callM ?_
  repeat (with_reducible first | (show W _ _ (eval (.Name _ _) _) _ _; first | refine ld385_self ‹_› ?_ | refine ld385_limit ‹_› ?_ | refine ld385_start ‹_› ?_ | refine ld385_stop ‹_› ?_ | refine ld385_cut ‹_› ?_ | refine ld385_newline ‹_› ?_ | refine ld385_i ‹_› ?_ | refine ld385_end ‹_› ?_ | refine gl385_len ‹_› ‹_› ?_) | (show W _ _ (eval _ _) _ _; first | refine W_attr ?_ | (refine W_int ?_; intro _) | (refine W_str ?_; intro _) | refine W_bool ?_ | refine W_none ?_ | refine W_callN ?_ | refine W_BinOp ?_ | refine W_sub ?_ | refine W_IfExp ?_ | refine W_slice ?_) | (show W _ _ (execs _ _) _ _; first | refine W_asg ?_ | refine W_if ?_ | refine W_ret ?_ | refine W_nil ?_ | refine W_asgAttr ?_) | (show W _ _ (storeName _ _ _) _ _; first | (refine st385_start ‹_› ?_; intro _ _ _) | (refine st385_stop ‹_› ?_; intro _ _ _) | (refine st385_cut ‹_› ?_; intro _ _ _) | (refine st385_newline ‹_› ?_; intro _ _ _) | (refine st385_i ‹_› ?_; intro _ _ _) | (refine st385_end ‹_› ?_; intro _ _ _)) | (show W _ _ (isTrue _ _ _) _ _; first | refine T_cmp ?_ | refine T_bool ?_ | refine T_val ?_) | (show W _ _ (allTrue _ _ _) _ _; refine T_and ?_) | (show W _ _ (truthy _) _ _; refine t_bool ?_) | (show W _ _ (spliced _) _ _; first | refine W_sp ?_ | refine W_sp0 ?_) | (show W _ _ (compareOp _ _ _) _ _; first | refine o_eqs ?_ | refine o_ge ?_ | refine o_is (by with_unfolding_all rfl) ?_) | (show W _ _ (callWith _ _ _ _ _) _ _; first | refine W_cwB ?_ | refine W_cwB1 ?_) | (show W _ _ (binaryOp _ _ _) _ _; (refine o_add ?_; intro _)) | (show if _ = true then _ else _; first | refine ite_f (by with_unfolding_all rfl) ?_ | refine ite_t (by with_unfolding_all rfl) ?_) | (show Sq _ _ _ _ _ _ _; refine sq_next ?_) | (show W _ _ (getAttr _ _ _) _ _; first | (refine gs_nl ‹_› ‹_› ‹_› ‹_› ?_; intro _) | (refine gs_buf ‹_› ‹_› ‹_› ‹_› ?_; intro _) | (refine gs_pos ‹_› ‹_› ‹_› ‹_› ?_; intro _)))
  with_reducible refine m_find ?_
  repeat (with_reducible first | (show W _ _ (eval (.Name _ _) _) _ _; first | refine ld385_self ‹_› ?_ | refine ld385_limit ‹_› ?_ | refine ld385_start ‹_› ?_ | refine ld385_stop ‹_› ?_ | refine ld385_cut ‹_› ?_ | refine ld385_newline ‹_› ?_ | refine ld385_i ‹_› ?_ | refine ld385_end ‹_› ?_ | refine gl385_len ‹_› ‹_› ?_) | (show W _ _ (eval _ _) _ _; first | refine W_attr ?_ | (refine W_int ?_; intro _) | (refine W_str ?_; intro _) | refine W_bool ?_ | refine W_none ?_ | refine W_callN ?_ | refine W_BinOp ?_ | refine W_sub ?_ | refine W_IfExp ?_ | refine W_slice ?_) | (show W _ _ (execs _ _) _ _; first | refine W_asg ?_ | refine W_if ?_ | refine W_ret ?_ | refine W_nil ?_ | refine W_asgAttr ?_) | (show W _ _ (storeName _ _ _) _ _; first | (refine st385_start ‹_› ?_; intro _ _ _) | (refine st385_stop ‹_› ?_; intro _ _ _) | (refine st385_cut ‹_› ?_; intro _ _ _) | (refine st385_newline ‹_› ?_; intro _ _ _) | (refine st385_i ‹_› ?_; intro _ _ _) | (refine st385_end ‹_› ?_; intro _ _ _)) | (show W _ _ (isTrue _ _ _) _ _; first | refine T_cmp ?_ | refine T_bool ?_ | refine T_val ?_) | (show W _ _ (allTrue _ _ _) _ _; refine T_and ?_) | (show W _ _ (truthy _) _ _; refine t_bool ?_) | (show W _ _ (spliced _) _ _; first | refine W_sp ?_ | refine W_sp0 ?_) | (show W _ _ (compareOp _ _ _) _ _; first | refine o_eqs ?_ | refine o_ge ?_ | refine o_is (by with_unfolding_all rfl) ?_) | (show W _ _ (callWith _ _ _ _ _) _ _; first | refine W_cwB ?_ | refine W_cwB1 ?_) | (show W _ _ (binaryOp _ _ _) _ _; (refine o_add ?_; intro _)) | (show if _ = true then _ else _; first | refine ite_f (by with_unfolding_all rfl) ?_ | refine ite_t (by with_unfolding_all rfl) ?_) | (show Sq _ _ _ _ _ _ _; refine sq_next ?_) | (show W _ _ (getAttr _ _ _) _ _; first | (refine gs_nl ‹_› ‹_› ‹_› ‹_› ?_; intro _) | (refine gs_buf ‹_› ‹_› ‹_› ‹_› ?_; intro _) | (refine gs_pos ‹_› ‹_› ‹_› ‹_› ?_; intro _)))
  with_reducible refine c_find rfl ?_
  intro _
  rw [hq]
  repeat (with_reducible first | (show W _ _ (eval (.Name _ _) _) _ _; first | refine ld385_self ‹_› ?_ | refine ld385_limit ‹_› ?_ | refine ld385_start ‹_› ?_ | refine ld385_stop ‹_› ?_ | refine ld385_cut ‹_› ?_ | refine ld385_newline ‹_› ?_ | refine ld385_i ‹_› ?_ | refine ld385_end ‹_› ?_ | refine gl385_len ‹_› ‹_› ?_) | (show W _ _ (eval _ _) _ _; first | refine W_attr ?_ | (refine W_int ?_; intro _) | (refine W_str ?_; intro _) | refine W_bool ?_ | refine W_none ?_ | refine W_callN ?_ | refine W_BinOp ?_ | refine W_sub ?_ | refine W_IfExp ?_ | refine W_slice ?_) | (show W _ _ (execs _ _) _ _; first | refine W_asg ?_ | refine W_if ?_ | refine W_ret ?_ | refine W_nil ?_ | refine W_asgAttr ?_) | (show W _ _ (storeName _ _ _) _ _; first | (refine st385_start ‹_› ?_; intro _ _ _) | (refine st385_stop ‹_› ?_; intro _ _ _) | (refine st385_cut ‹_› ?_; intro _ _ _) | (refine st385_newline ‹_› ?_; intro _ _ _) | (refine st385_i ‹_› ?_; intro _ _ _) | (refine st385_end ‹_› ?_; intro _ _ _)) | (show W _ _ (isTrue _ _ _) _ _; first | refine T_cmp ?_ | refine T_bool ?_ | refine T_val ?_) | (show W _ _ (allTrue _ _ _) _ _; refine T_and ?_) | (show W _ _ (truthy _) _ _; refine t_bool ?_) | (show W _ _ (spliced _) _ _; first | refine W_sp ?_ | refine W_sp0 ?_) | (show W _ _ (compareOp _ _ _) _ _; first | refine o_eqs ?_ | refine o_ge ?_ | refine o_is (by with_unfolding_all rfl) ?_) | (show W _ _ (callWith _ _ _ _ _) _ _; first | refine W_cwB ?_ | refine W_cwB1 ?_) | (show W _ _ (binaryOp _ _ _) _ _; (refine o_add ?_; intro _)) | (show if _ = true then _ else _; first | refine ite_f (by with_unfolding_all rfl) ?_ | refine ite_t (by with_unfolding_all rfl) ?_) | (show Sq _ _ _ _ _ _ _; refine sq_next ?_) | (show W _ _ (getAttr _ _ _) _ _; first | (refine gs_nl ‹_› ‹_› ‹_› ‹_› ?_; intro _) | (refine gs_buf ‹_› ‹_› ‹_› ‹_› ?_; intro _) | (refine gs_pos ‹_› ‹_› ‹_› ‹_› ?_; intro _)))
  with_reducible refine c_lenStr (by decide +kernel) ?_
  intro _
  repeat (with_reducible first | (show W _ _ (eval (.Name _ _) _) _ _; first | refine ld385_self ‹_› ?_ | refine ld385_limit ‹_› ?_ | refine ld385_start ‹_› ?_ | refine ld385_stop ‹_› ?_ | refine ld385_cut ‹_› ?_ | refine ld385_newline ‹_› ?_ | refine ld385_i ‹_› ?_ | refine ld385_end ‹_› ?_ | refine gl385_len ‹_› ‹_› ?_) | (show W _ _ (eval _ _) _ _; first | refine W_attr ?_ | (refine W_int ?_; intro _) | (refine W_str ?_; intro _) | refine W_bool ?_ | refine W_none ?_ | refine W_callN ?_ | refine W_BinOp ?_ | refine W_sub ?_ | refine W_IfExp ?_ | refine W_slice ?_) | (show W _ _ (execs _ _) _ _; first | refine W_asg ?_ | refine W_if ?_ | refine W_ret ?_ | refine W_nil ?_ | refine W_asgAttr ?_) | (show W _ _ (storeName _ _ _) _ _; first | (refine st385_start ‹_› ?_; intro _ _ _) | (refine st385_stop ‹_› ?_; intro _ _ _) | (refine st385_cut ‹_› ?_; intro _ _ _) | (refine st385_newline ‹_› ?_; intro _ _ _) | (refine st385_i ‹_› ?_; intro _ _ _) | (refine st385_end ‹_› ?_; intro _ _ _)) | (show W _ _ (isTrue _ _ _) _ _; first | refine T_cmp ?_ | refine T_bool ?_ | refine T_val ?_) | (show W _ _ (allTrue _ _ _) _ _; refine T_and ?_) | (show W _ _ (truthy _) _ _; refine t_bool ?_) | (show W _ _ (spliced _) _ _; first | refine W_sp ?_ | refine W_sp0 ?_) | (show W _ _ (compareOp _ _ _) _ _; first | refine o_eqs ?_ | refine o_ge ?_ | refine o_is (by with_unfolding_all rfl) ?_) | (show W _ _ (callWith _ _ _ _ _) _ _; first | refine W_cwB ?_ | refine W_cwB1 ?_) | (show W _ _ (binaryOp _ _ _) _ _; (refine o_add ?_; intro _)) | (show if _ = true then _ else _; first | refine ite_f (by with_unfolding_all rfl) ?_ | refine ite_t (by with_unfolding_all rfl) ?_) | (show Sq _ _ _ _ _ _ _; refine sq_next ?_) | (show W _ _ (getAttr _ _ _) _ _; first | (refine gs_nl ‹_› ‹_› ‹_› ‹_› ?_; intro _) | (refine gs_buf ‹_› ‹_› ‹_› ‹_› ?_; intro _) | (refine gs_pos ‹_› ‹_› ‹_› ‹_› ?_; intro _)))
  with_reducible refine ss_pos (q := q + 1) G' (by assumption) hy' hO (by have e : t_45.length = 1 := rfl; omega) ?_
  intro h₅ od' S₅ hO'
  repeat (with_reducible first | (show W _ _ (eval (.Name _ _) _) _ _; first | refine ld385_self ‹_› ?_ | refine ld385_limit ‹_› ?_ | refine ld385_start ‹_› ?_ | refine ld385_stop ‹_› ?_ | refine ld385_cut ‹_› ?_ | refine ld385_newline ‹_› ?_ | refine ld385_i ‹_› ?_ | refine ld385_end ‹_› ?_ | refine gl385_len ‹_› ‹_› ?_) | (show W _ _ (eval _ _) _ _; first | refine W_attr ?_ | (refine W_int ?_; intro _) | (refine W_str ?_; intro _) | refine W_bool ?_ | refine W_none ?_ | refine W_callN ?_ | refine W_BinOp ?_ | refine W_sub ?_ | refine W_IfExp ?_ | refine W_slice ?_) | (show W _ _ (execs _ _) _ _; first | refine W_asg ?_ | refine W_if ?_ | refine W_ret ?_ | refine W_nil ?_ | refine W_asgAttr ?_) | (show W _ _ (storeName _ _ _) _ _; first | (refine st385_start ‹_› ?_; intro _ _ _) | (refine st385_stop ‹_› ?_; intro _ _ _) | (refine st385_cut ‹_› ?_; intro _ _ _) | (refine st385_newline ‹_› ?_; intro _ _ _) | (refine st385_i ‹_› ?_; intro _ _ _) | (refine st385_end ‹_› ?_; intro _ _ _)) | (show W _ _ (isTrue _ _ _) _ _; first | refine T_cmp ?_ | refine T_bool ?_ | refine T_val ?_) | (show W _ _ (allTrue _ _ _) _ _; refine T_and ?_) | (show W _ _ (truthy _) _ _; refine t_bool ?_) | (show W _ _ (spliced _) _ _; first | refine W_sp ?_ | refine W_sp0 ?_) | (show W _ _ (compareOp _ _ _) _ _; first | refine o_eqs ?_ | refine o_ge ?_ | refine o_is (by with_unfolding_all rfl) ?_) | (show W _ _ (callWith _ _ _ _ _) _ _; first | refine W_cwB ?_ | refine W_cwB1 ?_) | (show W _ _ (binaryOp _ _ _) _ _; (refine o_add ?_; intro _)) | (show if _ = true then _ else _; first | refine ite_f (by with_unfolding_all rfl) ?_ | refine ite_t (by with_unfolding_all rfl) ?_) | (show Sq _ _ _ _ _ _ _; refine sq_next ?_) | (show W _ _ (getAttr _ _ _) _ _; first | (refine gs_nl ‹_› ‹_› ‹_› ‹_› ?_; intro _) | (refine gs_buf ‹_› ‹_› ‹_› ‹_› ?_; intro _) | (refine gs_pos ‹_› ‹_› ‹_› ‹_› ?_; intro _)))
  with_reducible refine o_sliceStr (by rw [sizeLine_eq]; omega) (fun _ => rfl) ?_
  intro t₆ h₆ x₆
  exact k _ _ od' (fun b o z u => x₆ b o (S₅.keep b o (kp b o z u))) (x₆ _ _ S₅.get0) hO'
theorem c541 {q : Nat} (G : Gr w g) (e : Ext g h) (hy : g.get? y = some (instObj 587 dy)) (hd : h.get? dy = some od) (gd : g.get? dy = none) (hO : SioO od x p) (hx : x.length ≤ 1048576) (hA : A.depth < 880)
    (hp : p < x.length) (hq : Txt.find3 x t_45 (p : Int) = (q : Int)) (k : ∀ t h' od', ExtB [dy] h h' → h'.get? dy = some od' → SioO od' x (q + 1) → P (.str (Txt.slice x (some (p : Int)) (some ((q : Int) + 1))) t) h') :
    WC w A (.call (.ref 541) ⟨[.ref y], []⟩) h P := by
  obtain ⟨g', G', e1, e2, gd', kp⟩ := hideL G e [dy] (fun a ha => by rw [List.mem_singleton.mp ha]; exact gd)
  have hy' := e1 _ _ hy
  clear G e hy
  refine en541d (mu := [(dy, od)]) G' e2 (fun q hq => by cases List.mem_singleton.mp hq; exact ⟨hd, gd' _ (.head _)⟩) (by simp) (by omega) ?_
  intro L h₁ hL S x₁
  refine W_if ?_
  repeat (with_reducible first | (show W _ _ (eval (.Name _ _) _) _ _; first | refine ld541_self ‹_› ?_ | refine ld541_size ‹_› ?_ | refine gl541__index ‹_› ‹_› ?_) | (show W _ _ (eval _ _) _ _; first | (refine W_str ?_; intro _) | refine W_none ?_ | refine W_callN ?_) | (show W _ _ (execs _ _) _ _; first | refine W_asg ?_ | refine W_if ?_ | refine W_ret ?_ | refine W_nil ?_ | refine W_expr ?_) | (show W _ _ (storeName _ _ _) _ _; (refine st541_size ‹_› ?_; intro _ _ _)) | (show W _ _ (isTrue _ _ _) _ _; refine T_cmp ?_) | (show W _ _ (truthy _) _ _; refine t_bool ?_) | (show W _ _ (spliced _) _ _; first | refine W_sp ?_ | refine W_sp0 ?_) | (show W _ _ (compareOp _ _ _) _ _; refine o_is (by with_unfolding_all rfl) ?_) | (show if _ = true then _ else _; refine ite_f (by with_unfolding_all rfl) ?_) | (show Sq _ _ _ _ _ _ _; refine sq_next ?_))
  with_reducible refine W_cw (by kernel_rfl) ?_
  repeat (with_reducible first | (show W _ _ (eval (.Name _ _) _) _ _; first | refine ld541_self ‹_› ?_ | refine ld541_size ‹_› ?_ | refine gl541__index ‹_› ‹_› ?_) | (show W _ _ (eval _ _) _ _; first | (refine W_str ?_; intro _) | refine W_none ?_ | refine W_callN ?_) | (show W _ _ (execs _ _) _ _; first | refine W_asg ?_ | refine W_if ?_ | refine W_ret ?_ | refine W_nil ?_ | refine W_expr ?_) | (show W _ _ (storeName _ _ _) _ _; (refine st541_size ‹_› ?_; intro _ _ _)) | (show W _ _ (isTrue _ _ _) _ _; refine T_cmp ?_) | (show W _ _ (truthy _) _ _; refine t_bool ?_) | (show W _ _ (spliced _) _ _; first | refine W_sp ?_ | refine W_sp0 ?_) | (show W _ _ (compareOp _ _ _) _ _; refine o_is (by with_unfolding_all rfl) ?_) | (show if _ = true then _ else _; refine ite_f (by with_unfolding_all rfl) ?_) | (show Sq _ _ _ _ _ _ _; refine sq_next ?_))
  refine ⟨(G'.keeps S.keep).k, ?_⟩
  refine (c53 (G'.keeps S.keep) (by show A.depth + 1 < 900; omega) (by decide) (by decide) ?_).call
  intro t₁ h₂ x₂
  replace S := S.ext x₂
  repeat (with_reducible first | (show W _ _ (eval (.Name _ _) _) _ _; first | refine ld541_self ‹_› ?_ | refine ld541_size ‹_› ?_ | refine gl541__index ‹_› ‹_› ?_) | (show W _ _ (eval _ _) _ _; first | (refine W_str ?_; intro _) | refine W_none ?_ | refine W_callN ?_) | (show W _ _ (execs _ _) _ _; first | refine W_asg ?_ | refine W_if ?_ | refine W_ret ?_ | refine W_nil ?_ | refine W_expr ?_) | (show W _ _ (storeName _ _ _) _ _; (refine st541_size ‹_› ?_; intro _ _ _)) | (show W _ _ (isTrue _ _ _) _ _; refine T_cmp ?_) | (show W _ _ (truthy _) _ _; refine t_bool ?_) | (show W _ _ (spliced _) _ _; first | refine W_sp ?_ | refine W_sp0 ?_) | (show W _ _ (compareOp _ _ _) _ _; refine o_is (by with_unfolding_all rfl) ?_) | (show if _ = true then _ else _; refine ite_f (by with_unfolding_all rfl) ?_) | (show Sq _ _ _ _ _ _ _; refine sq_next ?_))
  with_reducible refine W_callM ?_
  repeat (with_reducible first | (show W _ _ (eval (.Name _ _) _) _ _; first | refine ld541_self ‹_› ?_ | refine ld541_size ‹_› ?_ | refine gl541__index ‹_› ‹_› ?_) | (show W _ _ (eval _ _) _ _; first | (refine W_str ?_; intro _) | refine W_none ?_ | refine W_callN ?_) | (show W _ _ (execs _ _) _ _; first | refine W_asg ?_ | refine W_if ?_ | refine W_ret ?_ | refine W_nil ?_ | refine W_expr ?_) | (show W _ _ (storeName _ _ _) _ _; (refine st541_size ‹_› ?_; intro _ _ _)) | (show W _ _ (isTrue _ _ _) _ _; refine T_cmp ?_) | (show W _ _ (truthy _) _ _; refine t_bool ?_) | (show W _ _ (spliced _) _ _; first | refine W_sp ?_ | refine W_sp0 ?_) | (show W _ _ (compareOp _ _ _) _ _; refine o_is (by with_unfolding_all rfl) ?_) | (show if _ = true then _ else _; refine ite_f (by with_unfolding_all rfl) ?_) | (show Sq _ _ _ _ _ _ _; refine sq_next ?_))
  with_reducible refine ms_check G' (by assumption) hy' hO ?_
  with_reducible refine W_cw0 (G'.keeps (St.keep (by assumption))).k (by kernel_rfl) ?_
  refine (c371 G' (St.keep (by assumption)) hy' (St.get0 (by assumption)) (gd' _ (.head _)) hO (by show A.depth + 1 < 900; omega) ?_).call
  intro h₃ x₃
  rename St _ _ _ _ _ => S₃
  replace S := S₃.ext x₃
  repeat (with_reducible first | (show W _ _ (eval (.Name _ _) _) _ _; first | refine ld541_self ‹_› ?_ | refine ld541_size ‹_› ?_ | refine gl541__index ‹_› ‹_› ?_) | (show W _ _ (eval _ _) _ _; first | (refine W_str ?_; intro _) | refine W_none ?_ | refine W_callN ?_) | (show W _ _ (execs _ _) _ _; first | refine W_asg ?_ | refine W_if ?_ | refine W_ret ?_ | refine W_nil ?_ | refine W_expr ?_) | (show W _ _ (storeName _ _ _) _ _; (refine st541_size ‹_› ?_; intro _ _ _)) | (show W _ _ (isTrue _ _ _) _ _; refine T_cmp ?_) | (show W _ _ (truthy _) _ _; refine t_bool ?_) | (show W _ _ (spliced _) _ _; first | refine W_sp ?_ | refine W_sp0 ?_) | (show W _ _ (compareOp _ _ _) _ _; refine o_is (by with_unfolding_all rfl) ?_) | (show if _ = true then _ else _; refine ite_f (by with_unfolding_all rfl) ?_) | (show Sq _ _ _ _ _ _ _; refine sq_next ?_))
  with_reducible refine W_callM ?_
  repeat (with_reducible first | (show W _ _ (eval (.Name _ _) _) _ _; first | refine ld541_self ‹_› ?_ | refine ld541_size ‹_› ?_ | refine gl541__index ‹_› ‹_› ?_) | (show W _ _ (eval _ _) _ _; first | (refine W_str ?_; intro _) | refine W_none ?_ | refine W_callN ?_) | (show W _ _ (execs _ _) _ _; first | refine W_asg ?_ | refine W_if ?_ | refine W_ret ?_ | refine W_nil ?_ | refine W_expr ?_) | (show W _ _ (storeName _ _ _) _ _; (refine st541_size ‹_› ?_; intro _ _ _)) | (show W _ _ (isTrue _ _ _) _ _; refine T_cmp ?_) | (show W _ _ (truthy _) _ _; refine t_bool ?_) | (show W _ _ (spliced _) _ _; first | refine W_sp ?_ | refine W_sp0 ?_) | (show W _ _ (compareOp _ _ _) _ _; refine o_is (by with_unfolding_all rfl) ?_) | (show if _ = true then _ else _; refine ite_f (by with_unfolding_all rfl) ?_) | (show Sq _ _ _ _ _ _ _; refine sq_next ?_))
  with_reducible refine ms_line G' (by assumption) hy' hO ?_
  with_reducible refine W_cw1 (by kernel_rfl) ?_
  repeat (with_reducible first | (show W _ _ (eval (.Name _ _) _) _ _; first | refine ld541_self ‹_› ?_ | refine ld541_size ‹_› ?_ | refine gl541__index ‹_› ‹_› ?_) | (show W _ _ (eval _ _) _ _; first | (refine W_str ?_; intro _) | refine W_none ?_ | refine W_callN ?_) | (show W _ _ (execs _ _) _ _; first | refine W_asg ?_ | refine W_if ?_ | refine W_ret ?_ | refine W_nil ?_ | refine W_expr ?_) | (show W _ _ (storeName _ _ _) _ _; (refine st541_size ‹_› ?_; intro _ _ _)) | (show W _ _ (isTrue _ _ _) _ _; refine T_cmp ?_) | (show W _ _ (truthy _) _ _; refine t_bool ?_) | (show W _ _ (spliced _) _ _; first | refine W_sp ?_ | refine W_sp0 ?_) | (show W _ _ (compareOp _ _ _) _ _; refine o_is (by with_unfolding_all rfl) ?_) | (show if _ = true then _ else _; refine ite_f (by with_unfolding_all rfl) ?_) | (show Sq _ _ _ _ _ _ _; refine sq_next ?_))
  refine ⟨(G'.keeps S.keep).k, ?_⟩
  refine (c385 G' S.keep hy' S.get0 (gd' _ (.head _)) hO hx (by show A.depth + 1 < 890; omega) hp hq ?_).call
  intro t₄ h₄ od' x₄ d' hO'
  exact k _ _ od' (fun b o z u => x₄ b o z (S.keep b o (kp b o z u))) d' hO'
end
noncomputable abbrev lxW1 : Str := ⟨⟨[nat_lit 97, nat_lit 98, nat_lit 99, nat_lit 100, nat_lit 102, nat_lit 101, nat_lit 103, nat_lit 104, nat_lit 105, nat_lit 106, nat_lit 107, nat_lit 108, nat_lit 109, nat_lit 110, nat_lit 111, nat_lit 112, nat_lit 113, nat_lit 114, nat_lit 115, nat_lit 116, nat_lit 117, nat_lit 118, nat_lit 119, nat_lit 120, nat_lit 121, nat_lit 122, nat_lit 65, nat_lit 66, nat_lit 67, nat_lit 68, nat_lit 69, nat_lit 70, nat_lit 71, nat_lit 72, nat_lit 73, nat_lit 74, nat_lit 75, nat_lit 76, nat_lit 77, nat_lit 78, nat_lit 79, nat_lit 80, nat_lit 81, nat_lit 82, nat_lit 83, nat_lit 84, nat_lit 85, nat_lit 86, nat_lit 87, nat_lit 88, nat_lit 89, nat_lit 90, nat_lit 48, nat_lit 49, nat_lit 50, nat_lit 51, nat_lit 52, nat_lit 53, nat_lit 54, nat_lit 55, nat_lit 56, nat_lit 57, nat_lit 95]⟩⟩
noncomputable abbrev lxW2 : Str := ⟨⟨[nat_lit 223, nat_lit 224, nat_lit 225, nat_lit 226, nat_lit 227, nat_lit 228, nat_lit 229, nat_lit 230, nat_lit 231, nat_lit 232, nat_lit 233, nat_lit 234, nat_lit 235, nat_lit 236, nat_lit 237, nat_lit 238, nat_lit 239, nat_lit 240, nat_lit 241, nat_lit 242, nat_lit 243, nat_lit 244, nat_lit 245, nat_lit 246, nat_lit 248, nat_lit 249, nat_lit 250, nat_lit 251, nat_lit 252, nat_lit 253, nat_lit 254, nat_lit 255, nat_lit 192, nat_lit 193, nat_lit 194, nat_lit 195, nat_lit 196, nat_lit 197, nat_lit 198, nat_lit 199, nat_lit 200, nat_lit 201, nat_lit 202, nat_lit 203, nat_lit 204, nat_lit 205, nat_lit 206, nat_lit 207, nat_lit 208, nat_lit 209, nat_lit 210, nat_lit 211, nat_lit 212, nat_lit 213, nat_lit 214, nat_lit 216, nat_lit 217, nat_lit 218, nat_lit 219, nat_lit 220, nat_lit 221, nat_lit 222]⟩⟩
noncomputable def lxWord : Str := lxW1 ++ lxW2
noncomputable abbrev lxHash : Str := ⟨⟨[nat_lit 35]⟩⟩
noncomputable abbrev lxWhite : Str := ⟨⟨[nat_lit 32, nat_lit 9, nat_lit 13, nat_lit 10]⟩⟩
noncomputable abbrev lxQuot : Str := ⟨⟨[nat_lit 39, nat_lit 34]⟩⟩
noncomputable abbrev lxEsc : Str := ⟨⟨[nat_lit 92]⟩⟩
noncomputable abbrev lxEscQ : Str := ⟨⟨[nat_lit 34]⟩⟩
noncomputable abbrev lxSp : Str := ⟨⟨[nat_lit 32]⟩⟩
noncomputable abbrev lxA : Str := ⟨⟨[nat_lit 97]⟩⟩
noncomputable def stV : Option Str → Tok → Value
  | some x, t => .str x t
  | none, _ => .none
noncomputable abbrev lexNs : List Str := [s_instream, s_infile, s_posix, s_eof, s_commenters, s_wordchars, s_whitespace, s_whitespace_split, s_quotes, s_escape, s_escapedquotes, s_state, s_pushback, s_lineno, s_debug, s_token, s_filestack, s_source, s__punctuation_chars]
noncomputable abbrev lexVs (T : Nat → Tok) (y : Addr) (nm : Str) (a1 a2 : Addr) (st : Option Str) (ln : Nat) (tk : Str) : List (Option Value) := [some (.ref y), some (.str nm (T 1)), some (.bool true), some (.none), some (.str lxHash (T 4)), some (.str lxWord (T 5)), some (.str lxWhite (T 6)), some (.bool false), some (.str lxQuot (T 8)), some (.str lxEsc (T 9)), some (.str lxEscQ (T 10)), some (stV st (T 11)), some (.ref a1), some (.int (ln : Int) (T 13)), some (.int 0 (T 14)), some (.str tk (T 15)), some (.ref a2), some (.none), some (.str t_44 (T 18))]
/-- the lexer's dict: its stream, its name, its two deques, its state, line and token -/
noncomputable def LexO (od : Obj) (y : Addr) (nm : Str) (a1 a2 : Addr) (st : Option Str) (ln : Nat) (tk : Str) : Prop := ∃ T : Nat → Tok, NsO od (frL lexNs (lexVs T y nm a1 a2 st ln tk)) 19
section
variable {w : World} {A : Around} {h g : Heap} {P : Value → Heap → Prop} {L x dx y a1 a2 : Addr} {m : Str → Option Value} {r : List (Addr × Obj)} {od : Obj} {nm tk : Str} {st : Option Str} {ln : Nat} {ex : Bool} {U : Unit → Heap → Prop} {t : Tok}
theorem gx_instream (G : Gr w g) (S : St g L h m ((dx, od) :: r)) (hx : g.get? x = some (instObj 722 dx)) (hO : LexO od y nm a1 a2 st ln tk) (k : P (.ref y) h) : W w A (getAttr (.ref x) s_instream ex) h P := by
  obtain ⟨T, N⟩ := hO
  exact W_get (G.keeps S.keep).k (S.keep _ _ hx) S.get0 N (by kernel_rfl) (by kernel_rfl) (show _ = some none from by kernel_rfl) rfl (show _ = some (.ref y) from by kernel_rfl) rfl k
theorem gx_infile (G : Gr w g) (S : St g L h m ((dx, od) :: r)) (hx : g.get? x = some (instObj 722 dx)) (hO : LexO od y nm a1 a2 st ln tk) (k : ∀ t, P (.str nm t) h) : W w A (getAttr (.ref x) s_infile ex) h P := by
  obtain ⟨T, N⟩ := hO
  exact W_get (G.keeps S.keep).k (S.keep _ _ hx) S.get0 N (by kernel_rfl) (by kernel_rfl) (show _ = some none from by kernel_rfl) rfl (show _ = some (.str nm (T 1)) from by kernel_rfl) rfl (k _)
theorem gx_posix (G : Gr w g) (S : St g L h m ((dx, od) :: r)) (hx : g.get? x = some (instObj 722 dx)) (hO : LexO od y nm a1 a2 st ln tk) (k : P (.bool true) h) : W w A (getAttr (.ref x) s_posix ex) h P := by
  obtain ⟨T, N⟩ := hO
  exact W_get (G.keeps S.keep).k (S.keep _ _ hx) S.get0 N (by kernel_rfl) (by kernel_rfl) (show _ = some none from by kernel_rfl) rfl (show _ = some (.bool true) from by kernel_rfl) rfl k
theorem gx_eof (G : Gr w g) (S : St g L h m ((dx, od) :: r)) (hx : g.get? x = some (instObj 722 dx)) (hO : LexO od y nm a1 a2 st ln tk) (k : P (.none) h) : W w A (getAttr (.ref x) s_eof ex) h P := by
  obtain ⟨T, N⟩ := hO
  exact W_get (G.keeps S.keep).k (S.keep _ _ hx) S.get0 N (by kernel_rfl) (by kernel_rfl) (show _ = some none from by kernel_rfl) rfl (show _ = some (.none) from by kernel_rfl) rfl k
theorem gx_commenters (G : Gr w g) (S : St g L h m ((dx, od) :: r)) (hx : g.get? x = some (instObj 722 dx)) (hO : LexO od y nm a1 a2 st ln tk) (k : ∀ t, P (.str lxHash t) h) : W w A (getAttr (.ref x) s_commenters ex) h P := by
  obtain ⟨T, N⟩ := hO
  exact W_get (G.keeps S.keep).k (S.keep _ _ hx) S.get0 N (by kernel_rfl) (by kernel_rfl) (show _ = some none from by kernel_rfl) rfl (show _ = some (.str lxHash (T 4)) from by kernel_rfl) rfl (k _)
theorem gx_wordchars (G : Gr w g) (S : St g L h m ((dx, od) :: r)) (hx : g.get? x = some (instObj 722 dx)) (hO : LexO od y nm a1 a2 st ln tk) (k : ∀ t, P (.str lxWord t) h) : W w A (getAttr (.ref x) s_wordchars ex) h P := by
  obtain ⟨T, N⟩ := hO
  exact W_get (G.keeps S.keep).k (S.keep _ _ hx) S.get0 N (by kernel_rfl) (by kernel_rfl) (show _ = some none from by kernel_rfl) rfl (show _ = some (.str lxWord (T 5)) from by kernel_rfl) rfl (k _)
theorem gx_whitespace (G : Gr w g) (S : St g L h m ((dx, od) :: r)) (hx : g.get? x = some (instObj 722 dx)) (hO : LexO od y nm a1 a2 st ln tk) (k : ∀ t, P (.str lxWhite t) h) : W w A (getAttr (.ref x) s_whitespace ex) h P := by
  obtain ⟨T, N⟩ := hO
  exact W_get (G.keeps S.keep).k (S.keep _ _ hx) S.get0 N (by kernel_rfl) (by kernel_rfl) (show _ = some none from by kernel_rfl) rfl (show _ = some (.str lxWhite (T 6)) from by kernel_rfl) rfl (k _)
theorem gx_quotes (G : Gr w g) (S : St g L h m ((dx, od) :: r)) (hx : g.get? x = some (instObj 722 dx)) (hO : LexO od y nm a1 a2 st ln tk) (k : ∀ t, P (.str lxQuot t) h) : W w A (getAttr (.ref x) s_quotes ex) h P := by
  obtain ⟨T, N⟩ := hO
  exact W_get (G.keeps S.keep).k (S.keep _ _ hx) S.get0 N (by kernel_rfl) (by kernel_rfl) (show _ = some none from by kernel_rfl) rfl (show _ = some (.str lxQuot (T 8)) from by kernel_rfl) rfl (k _)
theorem gx_escape (G : Gr w g) (S : St g L h m ((dx, od) :: r)) (hx : g.get? x = some (instObj 722 dx)) (hO : LexO od y nm a1 a2 st ln tk) (k : ∀ t, P (.str lxEsc t) h) : W w A (getAttr (.ref x) s_escape ex) h P := by
  obtain ⟨T, N⟩ := hO
  exact W_get (G.keeps S.keep).k (S.keep _ _ hx) S.get0 N (by kernel_rfl) (by kernel_rfl) (show _ = some none from by kernel_rfl) rfl (show _ = some (.str lxEsc (T 9)) from by kernel_rfl) rfl (k _)
theorem gx_state (G : Gr w g) (S : St g L h m ((dx, od) :: r)) (hx : g.get? x = some (instObj 722 dx)) (hO : LexO od y nm a1 a2 st ln tk) (k : ∀ t, P (stV st t) h) : W w A (getAttr (.ref x) s_state ex) h P := by
  obtain ⟨T, N⟩ := hO
  exact W_get (G.keeps S.keep).k (S.keep _ _ hx) S.get0 N (by kernel_rfl) (by kernel_rfl) (show _ = some none from by kernel_rfl) rfl (show _ = some (stV st (T 11)) from by kernel_rfl) (by cases st <;> rfl) (k _)
theorem gx_pushback (G : Gr w g) (S : St g L h m ((dx, od) :: r)) (hx : g.get? x = some (instObj 722 dx)) (hO : LexO od y nm a1 a2 st ln tk) (k : P (.ref a1) h) : W w A (getAttr (.ref x) s_pushback ex) h P := by
  obtain ⟨T, N⟩ := hO
  exact W_get (G.keeps S.keep).k (S.keep _ _ hx) S.get0 N (by kernel_rfl) (by kernel_rfl) (show _ = some none from by kernel_rfl) rfl (show _ = some (.ref a1) from by kernel_rfl) rfl k
theorem gx_lineno (G : Gr w g) (S : St g L h m ((dx, od) :: r)) (hx : g.get? x = some (instObj 722 dx)) (hO : LexO od y nm a1 a2 st ln tk) (k : ∀ t, P (.int (ln : Int) t) h) : W w A (getAttr (.ref x) s_lineno ex) h P := by
  obtain ⟨T, N⟩ := hO
  exact W_get (G.keeps S.keep).k (S.keep _ _ hx) S.get0 N (by kernel_rfl) (by kernel_rfl) (show _ = some none from by kernel_rfl) rfl (show _ = some (.int (ln : Int) (T 13)) from by kernel_rfl) rfl (k _)
theorem gx_debug (G : Gr w g) (S : St g L h m ((dx, od) :: r)) (hx : g.get? x = some (instObj 722 dx)) (hO : LexO od y nm a1 a2 st ln tk) (k : ∀ t, P (.int 0 t) h) : W w A (getAttr (.ref x) s_debug ex) h P := by
  obtain ⟨T, N⟩ := hO
  exact W_get (G.keeps S.keep).k (S.keep _ _ hx) S.get0 N (by kernel_rfl) (by kernel_rfl) (show _ = some none from by kernel_rfl) rfl (show _ = some (.int 0 (T 14)) from by kernel_rfl) rfl (k _)
theorem gx_token (G : Gr w g) (S : St g L h m ((dx, od) :: r)) (hx : g.get? x = some (instObj 722 dx)) (hO : LexO od y nm a1 a2 st ln tk) (k : ∀ t, P (.str tk t) h) : W w A (getAttr (.ref x) s_token ex) h P := by
  obtain ⟨T, N⟩ := hO
  exact W_get (G.keeps S.keep).k (S.keep _ _ hx) S.get0 N (by kernel_rfl) (by kernel_rfl) (show _ = some none from by kernel_rfl) rfl (show _ = some (.str tk (T 15)) from by kernel_rfl) rfl (k _)
theorem gx_filestack (G : Gr w g) (S : St g L h m ((dx, od) :: r)) (hx : g.get? x = some (instObj 722 dx)) (hO : LexO od y nm a1 a2 st ln tk) (k : P (.ref a2) h) : W w A (getAttr (.ref x) s_filestack ex) h P := by
  obtain ⟨T, N⟩ := hO
  exact W_get (G.keeps S.keep).k (S.keep _ _ hx) S.get0 N (by kernel_rfl) (by kernel_rfl) (show _ = some none from by kernel_rfl) rfl (show _ = some (.ref a2) from by kernel_rfl) rfl k
theorem gx_source (G : Gr w g) (S : St g L h m ((dx, od) :: r)) (hx : g.get? x = some (instObj 722 dx)) (hO : LexO od y nm a1 a2 st ln tk) (k : P (.none) h) : W w A (getAttr (.ref x) s_source ex) h P := by
  obtain ⟨T, N⟩ := hO
  exact W_get (G.keeps S.keep).k (S.keep _ _ hx) S.get0 N (by kernel_rfl) (by kernel_rfl) (show _ = some none from by kernel_rfl) rfl (show _ = some (.none) from by kernel_rfl) rfl k
theorem gx__punctuation_chars (G : Gr w g) (S : St g L h m ((dx, od) :: r)) (hx : g.get? x = some (instObj 722 dx)) (hO : LexO od y nm a1 a2 st ln tk) (k : ∀ t, P (.str t_44 t) h) : W w A (getAttr (.ref x) s__punctuation_chars ex) h P := by
  obtain ⟨T, N⟩ := hO
  exact W_get (G.keeps S.keep).k (S.keep _ _ hx) S.get0 N (by kernel_rfl) (by kernel_rfl) (show _ = some none from by kernel_rfl) rfl (show _ = some (.str t_44 (T 18)) from by kernel_rfl) rfl (k _)
theorem gx_stateS {q : Str} (G : Gr w g) (S : St g L h m ((dx, od) :: r)) (hx : g.get? x = some (instObj 722 dx)) (hO : LexO od y nm a1 a2 (some q) ln tk) (k : ∀ t, P (.str q t) h) : W w A (getAttr (.ref x) s_state ex) h P := gx_state G S hx hO k
theorem sx_state {q : Str} (G : Gr w g) (S : St g L h m ((dx, od) :: r)) (hx : g.get? x = some (instObj 722 dx)) (hO : LexO od y nm a1 a2 st ln tk)
    (k : ∀ h' od', St g L h' m ((dx, od') :: r) → LexO od' y nm a1 a2 (some q) ln tk → U () h') : W w A (setAttr (.ref x) s_state (.str q t)) h U := by
  obtain ⟨T, N⟩ := hO
  refine W_set S (G.keeps S.keep).k (S.keep _ _ hx) S.get0 (S.mus _ (.head _)).2.1 N (by decide) (by kernel_rfl) (by kernel_rfl) (by kernel_rfl) (by kernel_rfl) fun h' od' e N' kp n => k h' od' (S.turned0 e kp n) ⟨fun i => if i = 11 then t else T i, ?_⟩
  rw [frL_set 11 rfl (by simp) (by decide +kernel)] at N'
  exact N'
theorem sx_stateN  (G : Gr w g) (S : St g L h m ((dx, od) :: r)) (hx : g.get? x = some (instObj 722 dx)) (hO : LexO od y nm a1 a2 st ln tk)
    (k : ∀ h' od', St g L h' m ((dx, od') :: r) → LexO od' y nm a1 a2 none ln tk → U () h') : W w A (setAttr (.ref x) s_state (.none)) h U := by
  obtain ⟨T, N⟩ := hO
  refine W_set S (G.keeps S.keep).k (S.keep _ _ hx) S.get0 (S.mus _ (.head _)).2.1 N (by decide) (by kernel_rfl) (by kernel_rfl) (by kernel_rfl) (by kernel_rfl) fun h' od' e N' kp n => k h' od' (S.turned0 e kp n) ⟨fun i => if i = 11 then 0 else T i, ?_⟩
  rw [frL_set 11 rfl (by simp) (by decide +kernel)] at N'
  exact N'
theorem sx_lineno {i : Int} {n : Nat} (G : Gr w g) (S : St g L h m ((dx, od) :: r)) (hx : g.get? x = some (instObj 722 dx)) (hO : LexO od y nm a1 a2 st ln tk) (hi : i = n)
    (k : ∀ h' od', St g L h' m ((dx, od') :: r) → LexO od' y nm a1 a2 st n tk → U () h') : W w A (setAttr (.ref x) s_lineno (.int i t)) h U := by
  obtain ⟨T, N⟩ := hO
  refine W_set S (G.keeps S.keep).k (S.keep _ _ hx) S.get0 (S.mus _ (.head _)).2.1 N (by decide) (by kernel_rfl) (by kernel_rfl) (by kernel_rfl) (by kernel_rfl) fun h' od' e N' kp n => k h' od' (S.turned0 e kp n) ⟨fun i => if i = 13 then t else T i, ?_⟩
  rw [frL_set 13 rfl (by simp) (by decide +kernel)] at N'
  subst hi
  exact N'
theorem sx_token {q : Str} (G : Gr w g) (S : St g L h m ((dx, od) :: r)) (hx : g.get? x = some (instObj 722 dx)) (hO : LexO od y nm a1 a2 st ln tk)
    (k : ∀ h' od', St g L h' m ((dx, od') :: r) → LexO od' y nm a1 a2 st ln q → U () h') : W w A (setAttr (.ref x) s_token (.str q t)) h U := by
  obtain ⟨T, N⟩ := hO
  refine W_set S (G.keeps S.keep).k (S.keep _ _ hx) S.get0 (S.mus _ (.head _)).2.1 N (by decide) (by kernel_rfl) (by kernel_rfl) (by kernel_rfl) (by kernel_rfl) fun h' od' e N' kp n => k h' od' (S.turned0 e kp n) ⟨fun i => if i = 15 then t else T i, ?_⟩
  rw [frL_set 15 rfl (by simp) (by decide +kernel)] at N'
  exact N'
theorem mx_read_token {pl : Sem Bool} {Q : Value × List Value → Heap → Prop} (G : Gr w g) (S : St g L h m ((dx, od) :: r)) (hx : g.get? x = some (instObj 722 dx)) (hO : LexO od y nm a1 a2 st ln tk) (k : Q (.ref 690, [.ref x]) h) : W w A (getMethod (.ref x) s_read_token pl) h Q := by
  obtain ⟨T, N⟩ := hO
  exact W_meth (G.keeps S.keep).k (S.keep _ _ hx) S.get0 N (by kernel_rfl) (by kernel_rfl) (by kernel_rfl) (by kernel_rfl) k
theorem mx_get_token {pl : Sem Bool} {Q : Value × List Value → Heap → Prop} (G : Gr w g) (S : St g L h m ((dx, od) :: r)) (hx : g.get? x = some (instObj 722 dx)) (hO : LexO od y nm a1 a2 st ln tk) (k : Q (.ref 683, [.ref x]) h) : W w A (getMethod (.ref x) s_get_token pl) h Q := by
  obtain ⟨T, N⟩ := hO
  exact W_meth (G.keeps S.keep).k (S.keep _ _ hx) S.get0 N (by kernel_rfl) (by kernel_rfl) (by kernel_rfl) (by kernel_rfl) k
theorem mx_error_leader {pl : Sem Bool} {Q : Value × List Value → Heap → Prop} (G : Gr w g) (S : St g L h m ((dx, od) :: r)) (hx : g.get? x = some (instObj 722 dx)) (hO : LexO od y nm a1 a2 st ln tk) (k : Q (.ref 705, [.ref x]) h) : W w A (getMethod (.ref x) s_error_leader pl) h Q := by
  obtain ⟨T, N⟩ := hO
  exact W_meth (G.keeps S.keep).k (S.keep _ _ hx) S.get0 N (by kernel_rfl) (by kernel_rfl) (by kernel_rfl) (by kernel_rfl) k
variable {z : Str} {p : Nat} {dy : Addr} {oy : Obj}
theorem ms_read {pl : Sem Bool} {Q : Value × List Value → Heap → Prop} (G : Gr w g) (e : Ext g h) (hy : g.get? y = some (instObj 587 dy)) (hd : h.get? dy = some oy) (hO : SioO oy z p) (k : Q (.ref 533, [.ref y]) h) : W w A (getMethod (.ref y) s_read pl) h Q := by
  obtain ⟨t1, t2, t3, N⟩ := hO
  exact W_meth (G.keeps e).k (e _ _ hy) hd N (by kernel_rfl) (by kernel_rfl) (by kernel_rfl) (by kernel_rfl) k
theorem ms_readline {pl : Sem Bool} {Q : Value × List Value → Heap → Prop} (G : Gr w g) (e : Ext g h) (hy : g.get? y = some (instObj 587 dy)) (hd : h.get? dy = some oy) (hO : SioO oy z p) (k : Q (.ref 541, [.ref y]) h) : W w A (getMethod (.ref y) s_readline pl) h Q := by
  obtain ⟨t1, t2, t3, N⟩ := hO
  exact W_meth (G.keeps e).k (e _ _ hy) hd N (by kernel_rfl) (by kernel_rfl) (by kernel_rfl) (by kernel_rfl) k
end
section
open PySem.Builtin.Str
/-! ### texts as lists of signs -/
noncomputable abbrev mkS (l : List Nat) : Str := ⟨⟨l⟩⟩
theorem mkS_len (l : List Nat) : (mkS l).length = l.length := rfl
theorem mkS_app (a b : List Nat) : mkS a ++ mkS b = mkS (a ++ b) := by
  show (⟨(⟨a⟩ : Array Nat) ++ ⟨b⟩⟩ : Str) = ⟨⟨a ++ b⟩⟩
  congr 1
  simp
theorem slice_one (pre rest : List Nat) (c : Nat) : Txt.slice (mkS (pre ++ c :: rest)) (some (pre.length : Int)) (some ((pre.length : Int) + 1)) = mkS [c] := by
  have hb : pre.length + 1 ≤ (mkS (pre ++ c :: rest)).length := by rw [mkS_len]; simp
  have h2 := StrLaws.sliced_plain (mkS (pre ++ c :: rest)) (Nat.le_succ pre.length) hb
  have h1 := StrLaws.strSliceIndices_plain (Nat.le_succ pre.length) hb
  rw [show ((pre.length + 1 : Nat) : Int) = (pre.length : Int) + 1 from by omega] at h1 h2
  unfold Txt.slice
  rw [h2, h1]
  have e : List.take (pre.length + 1 - pre.length) (List.drop pre.length (mkS (pre ++ c :: rest)).cps.toList) = [c] := by
    show List.take (pre.length + 1 - pre.length) (List.drop pre.length (pre ++ c :: rest)) = [c]
    rw [List.drop_left, Nat.add_sub_cancel_left]; rfl
  split
  · rename_i q
    have q' : 1 = (pre ++ c :: rest).length := by simpa [mkS_len] using q
    cases pre with
    | nil => cases rest with
      | nil => rfl
      | cons a b => simp at q'
    | cons a b => simp at q'
  · rw [e]
theorem occ1_all {x : Str} {c : Nat} : ∀ (n lo : Nat) (arr : Array Nat) (free limit : Nat), free ≤ lo → arr.size + n ≤ limit →
    (forIn (m := Id) (List.range' lo n) (arr, free) (StrLaws.occBody x ⟨#[c]⟩ x.length limit)).run.fst.toList = arr.toList ++ (List.range' lo n).filter (fun i => x.cps.toList[i]? == some c)
  | 0, lo, arr, free, limit, _, _ => by simp
  | n + 1, lo, arr, free, limit, hf, hl => by
    rw [List.range'_succ, List.forIn_cons]
    by_cases q : x.cps.toList[lo]? = some c
    · have q' := (StrLaws.subAt_one x c lo).mpr q
      have hc : (((arr, free).fst.size < limit ∧ (arr, free).snd ≤ lo) ∧ lo + (⟨#[c]⟩ : Str).length ≤ x.length) ∧ subAt x ⟨#[c]⟩ lo = true := ⟨⟨⟨by show arr.size < limit; omega, hf⟩, q'.1⟩, q'.2⟩
      simp only [StrLaws.occBody, if_pos hc]
      refine (occ1_all n (lo + 1) (arr.push lo) (lo + (⟨#[c]⟩ : Str).length) limit (Nat.le_refl _) (by rw [Array.size_push]; omega)).trans ?_
      rw [List.filter_cons, if_pos (by rw [q]; simp), Array.toList_push]
      simp
    · have hc : ¬ ((((arr, free).fst.size < limit ∧ (arr, free).snd ≤ lo) ∧ lo + (⟨#[c]⟩ : Str).length ≤ x.length) ∧ subAt x ⟨#[c]⟩ lo = true) := fun z => q ((StrLaws.subAt_one x c lo).mp ⟨z.1.2, z.2⟩)
      simp only [StrLaws.occBody, if_neg hc]
      refine (occ1_all n (lo + 1) arr free limit (by omega) (by omega)).trans ?_
      rw [List.filter_cons, if_neg (by simpa using q)]
theorem occ1_first {x : Str} {c : Nat} : ∀ (n lo : Nat) (free limit : Nat), free ≤ lo → 0 < limit → (∀ i, lo ≤ i → i < lo + n → x.cps.toList[i]? ≠ some c) → ∀ m, x.cps.toList[lo + n]? = some c →
    ∃ r, (forIn (m := Id) (List.range' lo (n + (m + 1))) ((#[] : Array Nat), free) (StrLaws.occBody x ⟨#[c]⟩ x.length 1)).run.fst.toList = (lo + n) :: r
  | 0, lo, free, limit, hf, hl, hn, m, hc => by
    rw [show 0 + (m + 1) = m + 1 from by omega, List.range'_succ, List.forIn_cons]
    have q' := (StrLaws.subAt_one x c lo).mpr hc
    have hc : ((((#[] : Array Nat), free).fst.size < 1 ∧ ((#[] : Array Nat), free).snd ≤ lo) ∧ lo + (⟨#[c]⟩ : Str).length ≤ x.length) ∧ subAt x ⟨#[c]⟩ lo = true := ⟨⟨⟨by simp, hf⟩, q'.1⟩, q'.2⟩
    simp only [StrLaws.occBody, if_pos hc]
    refine ⟨[], ?_⟩
    have key : ∀ (l : List Nat) (a : Array Nat) (fr : Nat), a.size = 1 → (forIn (m := Id) l (a, fr) (StrLaws.occBody x ⟨#[c]⟩ x.length 1)).run.fst = a := by
      intro l
      induction l with
      | nil => intro a fr _; rfl
      | cons i l ih =>
        intro a fr ha
        rw [List.forIn_cons]
        have hc : ¬ ((((a, fr).fst.size < 1 ∧ (a, fr).snd ≤ i) ∧ i + (⟨#[c]⟩ : Str).length ≤ x.length) ∧ subAt x ⟨#[c]⟩ i = true) := fun z => by have := z.1.1.1; simp only [ha] at this; omega
        simp only [StrLaws.occBody, if_neg hc]
        exact ih a fr ha
    exact (congrArg Array.toList (key (List.range' (lo + 1) m) (#[].push lo) (lo + (⟨#[c]⟩ : Str).length) (by simp))).trans (by simp)
  | n + 1, lo, free, limit, hf, hl, hn, m, hc => by
    rw [show n + 1 + (m + 1) = (n + (m + 1)) + 1 from by omega, List.range'_succ, List.forIn_cons]
    have q : x.cps.toList[lo]? ≠ some c := hn lo (Nat.le_refl _) (by omega)
    have hc' : ¬ (((((#[] : Array Nat), free).fst.size < 1 ∧ ((#[] : Array Nat), free).snd ≤ lo) ∧ lo + (⟨#[c]⟩ : Str).length ≤ x.length) ∧ subAt x ⟨#[c]⟩ lo = true) := fun z => q ((StrLaws.subAt_one x c lo).mp ⟨z.1.2, z.2⟩)
    simp only [StrLaws.occBody, if_neg hc']
    obtain ⟨r, hr⟩ := occ1_first n (lo + 1) free limit (by omega) hl (fun i h1 h2 => hn i (by omega) (by omega)) m (by rw [show lo + 1 + n = lo + (n + 1) from by omega]; exact hc)
    exact ⟨r, by rw [show lo + (n + 1) = lo + 1 + n from by omega]; exact hr⟩
theorem find_nl (pre u rest : List Nat) (hu : 10 ∉ u) : Txt.find3 (mkS (pre ++ (u ++ 10 :: rest))) t_45 (pre.length : Int) = ((pre.length + u.length : Nat) : Int) := by
  unfold Txt.find3
  have e0 : fromIndex (mkS (pre ++ (u ++ 10 :: rest))).length (pre.length : Int) = pre.length := by unfold fromIndex; rw [if_neg (by omega)]; omega
  rw [e0, StrLaws.occ_eq]
  have e1 : (mkS (pre ++ (u ++ 10 :: rest))).length + 1 - pre.length = u.length + ((rest.length + 1) + 1) := by rw [mkS_len]; simp; omega
  rw [e1]
  obtain ⟨r, hr⟩ := occ1_first (x := mkS (pre ++ (u ++ 10 :: rest))) (c := 10) u.length pre.length pre.length 1 (Nat.le_refl _) (by omega) (fun i h1 h2 q => by
      change (pre ++ (u ++ 10 :: rest))[i]? = some 10 at q
      rw [List.getElem?_append_right h1, List.getElem?_append_left (by omega)] at q
      exact hu (List.mem_of_getElem? q)) (rest.length + 1) (by
      show (pre ++ (u ++ 10 :: rest))[pre.length + u.length]? = some 10
      rw [List.getElem?_append_right (by omega), Nat.add_sub_cancel_left, List.getElem?_append_right (Nat.le_refl _), Nat.sub_self]; rfl)
  have hr' : (forIn (m := Id) (List.range' pre.length (u.length + ((rest.length + 1) + 1))) ((#[] : Array Nat), pre.length) (StrLaws.occBody (mkS (pre ++ (u ++ 10 :: rest))) t_45 (mkS (pre ++ (u ++ 10 :: rest))).length 1)).run.fst.toList = (pre.length + u.length) :: r := hr
  rw [hr']
theorem filter_idx (c : Nat) : ∀ (l pre : List Nat), ((List.range' pre.length l.length).filter (fun i => (pre ++ l)[i]? == some c)).length = l.count c
  | [], pre => by simp
  | a :: l, pre => by
    have ih := filter_idx c l (pre ++ [a])
    rw [List.length_cons, List.range'_succ, List.filter_cons, List.count_cons]
    rw [List.length_append, List.length_singleton, List.append_assoc, List.singleton_append] at ih
    have e : (pre ++ a :: l)[pre.length]? = some a := by rw [List.getElem?_append_right (Nat.le_refl _), Nat.sub_self]; rfl
    rw [e]
    by_cases q : a = c
    · subst q; simp [ih]
    · have q' : (some a == some c) = false := by simpa using q
      have q2 : (a == c) = false := by simpa using q
      simp [q', q2, ih]
theorem count_one (l : List Nat) (c : Nat) : (occurrences (mkS l) (mkS [c]) 0 (mkS l).length ((mkS l).length + 1)).length = l.count c := by
  rw [StrLaws.occ_eq]
  have := occ1_all (x := mkS l) (c := c) ((mkS l).length + 1 - 0) 0 #[] 0 ((mkS l).length + 1) (Nat.le_refl _) (by simp)
  rw [show (mkS [c]) = ⟨#[c]⟩ from rfl, this, mkS_len]
  show ((#[] : Array Nat).toList ++ (List.range' 0 (l.length + 1 - 0)).filter fun i => l[i]? == some c).length = l.count c
  rw [Nat.sub_zero, List.range'_concat, List.filter_append, ← filter_idx c l []]
  simp
end
section
variable {w : World} {A : Around} {h g : Heap} {P : Value → Heap → Prop} {L x dx y a1 a2 : Addr} {m : Str → Option Value} {r : List (Addr × Obj)} {od : Obj} {nm tk : Str} {st : Option Str} {ln : Nat} {ex : Bool} {t : Tok}
theorem c653 (G : Gr w g) (e : Ext g h) (hx : g.get? x = some (instObj 722 dx)) (hd : h.get? dx = some od) (gd : g.get? dx = none) (hO : LexO od y nm a1 a2 st ln tk) (hA : A.depth < 900) (k : ∀ t h', Ext h h' → P (.str t_44 t) h') :
    WC w A (.call (.ref 653) ⟨[.ref x], []⟩) h P := by
  obtain ⟨g', G', e1, e2, gd', kp⟩ := hideL G e [dx] (fun a ha => by rw [List.mem_singleton.mp ha]; exact gd)
  have hx' := e1 _ _ hx
  clear G e hx
  refine en653 (mu := [(dx, od)]) G' e2 (fun q hq => by cases List.mem_singleton.mp hq; exact ⟨hd, gd' _ (.head _)⟩) (by simp) hA ?_
  intro L h₁ hL S x₁
  refine W_ret ?_
  repeat (with_reducible first | (show W _ _ (eval (.Name _ _) _) _ _; refine ld653_self ‹_› ?_) | (show W _ _ (eval _ _) _ _; refine W_attr ?_) | (show W _ _ (execs _ _) _ _; refine W_ret ?_) | (show W _ _ (getAttr _ _ _) _ _; (refine gx__punctuation_chars ‹_› ‹_› ‹_› ‹_› ?_; intro _)))
  refine k _ _ fun b o q => ?_
  by_cases z : b = dx
  · rw [z] at q ⊢; rw [hd] at q; cases q; exact S.get0
  · exact S.keep b o (kp b o (by simpa using z) q)
theorem gx_punct (G : Gr w g) (S : St g L h m ((dx, od) :: r)) (hx : g.get? x = some (instObj 722 dx)) (hO : LexO od y nm a1 a2 st ln tk) (hA : A.depth < 900) (k : ∀ t h', Ext h h' → P (.str t_44 t) h') : W w A (getAttr (.ref x) s_punctuation_chars ex) h P := by
  refine W_getP (fget := 653) (rest := [.none, .none, .none, .str s_punctuation_chars 1034, .bool false]) (G.keeps S.keep).k (S.keep _ _ hx) S.get0 (by kernel_rfl) (by kernel_rfl) (p := 654) (by kernel_rfl) (by kernel_rfl) (by kernel_rfl) (by kernel_rfl) ?_
  exact c653 G S.keep hx S.get0 (S.mus _ (.head _)).2.2 hO hA fun t h' x' => ⟨rfl, k t h' x'⟩
theorem o_inTup2 {q u v : Str} {t' u' v' : Tok} {T : Addr} (hT : h.get? T = some { cls := .type "tuple", data := .seq [.str u u', .str v v'].toArray }) (p : P (.bool (u == q || v == q)) h) : W w A (compareOp .In (.str q t') (.ref T)) h P := fun s hs => by
  subst hs
  refine SeqAt.in_tupleAt (items := [.str u u', .str v v'].toArray) (fun y => match y with | .str z _ => z == q | _ => false) ⟨_, hT, rfl, 0, rfl⟩ (fun y hy => ?_) ⟨.rfl', ?_⟩
  · simp at hy
    rcases hy with rfl | rfl <;> exact (eqGives_str _ _ _ _).at _ _
  · simpa using p
end
/-! ### the lexer's machine -/
inductive Sx | sp | a | q (c : Nat)
noncomputable abbrev sxS : Sx → Str
  | .sp => lxSp
  | .a => lxA
  | .q c => mkS [c]
structure Cls (c : Nat) (nl wh hs es wd qu : Bool) : Prop where
  nl : (mkS [c] == t_45) = nl
  wh : (!(Builtin.Str.occurrences lxWhite (mkS [c]) 0 lxWhite.length 1).isEmpty) = wh
  hs : (!(Builtin.Str.occurrences lxHash (mkS [c]) 0 lxHash.length 1).isEmpty) = hs
  es : (!(Builtin.Str.occurrences lxEsc (mkS [c]) 0 lxEsc.length 1).isEmpty) = es
  wd : (!(Builtin.Str.occurrences lxWord (mkS [c]) 0 lxWord.length 1).isEmpty) = wd
  qu : (!(Builtin.Str.occurrences lxQuot (mkS [c]) 0 lxQuot.length 1).isEmpty) = qu
theorem occL {x : Str} {c : Nat} {b : Bool} (h : decide (c ∈ x.cps.toList) = b) : (!(Builtin.Str.occurrences x (mkS [c]) 0 x.length 1).isEmpty) = b := (StrLaws.found_one x c).trans h
noncomputable abbrev IsW (c : Nat) : Prop := Cls c false false false false true false
noncomputable abbrev IsQ (c : Nat) : Prop := Cls c false false false false false true
theorem isW : ∀ c ∈ [109, 97, 105, 110, 98, 49, 99, 95, 100, 101, 50, 119], IsW c := fun c hc => by
  simp only [List.mem_cons, List.not_mem_nil, or_false] at hc
  rcases hc with rfl | rfl | rfl | rfl | rfl | rfl | rfl | rfl | rfl | rfl | rfl | rfl <;>
    exact ⟨by decide +kernel, occL (by decide +kernel), occL (by decide +kernel), occL (by decide +kernel), occL (by decide +kernel), occL (by decide +kernel)⟩
theorem isQ1 : IsQ 39 := ⟨by decide +kernel, occL (by decide +kernel), occL (by decide +kernel), occL (by decide +kernel), occL (by decide +kernel), occL (by decide +kernel)⟩
theorem isQ2 : IsQ 34 := ⟨by decide +kernel, occL (by decide +kernel), occL (by decide +kernel), occL (by decide +kernel), occL (by decide +kernel), occL (by decide +kernel)⟩
theorem isSp : Cls 32 false true false false false false := ⟨by decide +kernel, occL (by decide +kernel), occL (by decide +kernel), occL (by decide +kernel), occL (by decide +kernel), occL (by decide +kernel)⟩
theorem isNl : Cls 10 true true false false false false := ⟨by decide +kernel, occL (by decide +kernel), occL (by decide +kernel), occL (by decide +kernel), occL (by decide +kernel), occL (by decide +kernel)⟩
theorem isHs : Cls 35 false false true false false false := ⟨by decide +kernel, occL (by decide +kernel), occL (by decide +kernel), occL (by decide +kernel), occL (by decide +kernel), occL (by decide +kernel)⟩
structure Out where
  tok : List Nat
  qd : Bool
  ln : Nat
  rest : List Nat
  st : Option Str
/-- from the state, the token so far, whether quoted, the line and what is left, the loop ends so -/
inductive Run : Sx → List Nat → Bool → Nat → List Nat → Out → Prop
  | spEnd {ln : Nat} : Run .sp [] false ln [] ⟨[], false, ln, [], none⟩
  | spSp {ln : Nat} {r : List Nat} {o : Out} : Run .sp [] false ln r o → Run .sp [] false ln (32 :: r) o
  | spNl {ln : Nat} {r : List Nat} {o : Out} : Run .sp [] false (ln + 1) r o → Run .sp [] false ln (10 :: r) o
  | spRem {ln : Nat} {u r : List Nat} {o : Out} : 10 ∉ u → Run .sp [] false (ln + 1) r o → Run .sp [] false ln (35 :: (u ++ 10 :: r)) o
  | spWord {c ln : Nat} {r : List Nat} {o : Out} : IsW c → Run .a [c] false ln r o → Run .sp [] false ln (c :: r) o
  | spQuot {c ln : Nat} {r : List Nat} {o : Out} : IsQ c → Run (.q c) [] false ln r o → Run .sp [] false ln (c :: r) o
  | qClose {c ln : Nat} {tk r : List Nat} {qd : Bool} {o : Out} : IsQ c → Run .a tk true ln r o → Run (.q c) tk qd ln (c :: r) o
  | qWord {d c ln : Nat} {tk r : List Nat} {qd : Bool} {o : Out} : IsQ d → IsW c → Run (.q d) (tk ++ [c]) true ln r o → Run (.q d) tk qd ln (c :: r) o
  | qSp {d ln : Nat} {tk r : List Nat} {qd : Bool} {o : Out} : IsQ d → Run (.q d) (tk ++ [32]) true ln r o → Run (.q d) tk qd ln (32 :: r) o
  | aWord {c ln : Nat} {tk r : List Nat} {qd : Bool} {o : Out} : IsW c → Run .a (tk ++ [c]) qd ln r o → Run .a tk qd ln (c :: r) o
  | aSp {ln : Nat} {tk r : List Nat} {qd : Bool} : tk ≠ [] ∨ qd = true → Run .a tk qd ln (32 :: r) ⟨tk, qd, ln, r, some lxSp⟩
  | aNl {ln : Nat} {tk r : List Nat} {qd : Bool} : tk ≠ [] ∨ qd = true → Run .a tk qd ln (10 :: r) ⟨tk, qd, ln + 1, r, some lxSp⟩
set_option compiler.extract_closed false in
local macro_rules | `(tactic| wtm_at "R690") => `(tactic| repeat (with_reducible first | (show W _ _ (eval (.Name _ _) _) _ _; first | refine ld690_self ‹_› ?_ | refine ld690_quoted ‹_› ?_ | refine ld690_nextchar ‹_› ?_ | refine ld690_result ‹_› ?_) | (show W _ _ (eval _ _) _ _; first | refine W_attr ?_ | (refine W_int ?_; intro _) | (refine W_str ?_; intro _) | refine W_bool ?_ | refine W_none ?_ | refine W_tuple ?_) | (show W _ _ (execs _ _) _ _; first | refine W_asg ?_ | refine W_if ?_ | refine W_ret ?_ | refine W_nil ?_ | refine W_asgAttr ?_ | refine W_expr ?_ | refine W_augAttr ?_ | refine W_brk ?_ | refine W_cnt ?_) | (show W _ _ (storeName _ _ _) _ _; first | (refine st690_quoted ‹_› ?_; intro _ _ _) | (refine st690_escapedstate ‹_› ?_; intro _ _ _) | (refine st690_nextchar ‹_› ?_; intro _ _ _) | (refine st690_result ‹_› ?_; intro _ _ _)) | (show W _ _ (isTrue _ _ _) _ _; first | refine T_cmp ?_ | refine T_bool ?_ | refine T_not ?_ | refine T_val ?_) | (show W _ _ (allTrue _ _ _) _ _; first | refine T_and ?_ | refine T_or ?_ | refine T_andNil ?_ | refine T_orNil ?_) | (show W _ _ (truthy _) _ _; first | refine t_bool ?_ | refine t_str ‹_› ?_ | refine t_str (Nat.le_of_ble_eq_true rfl) ?_) | (show W _ _ (spliced _) _ _; first | refine W_sp ?_ | refine W_sp0 ?_) | (show W _ _ (compareOp _ _ _) _ _; first | refine o_eqs ?_ | refine o_gt ?_ | refine o_ge ?_ | refine o_ins ?_ | refine o_is (by with_unfolding_all rfl) ?_) | (show W _ _ (inplaceOp _ _ _) _ _; (refine o_iadd ?_; intro _)) | (show if _ = true then _ else _; first | refine ite_f ‹_› ?_ | refine ite_t ‹_› ?_ | refine ite_f (by decide +kernel) ?_ | refine ite_t (by decide +kernel) ?_ | refine ite_f (by with_unfolding_all rfl) ?_ | refine ite_t (by with_unfolding_all rfl) ?_) | (show Sq _ _ _ _ _ _ _; first | refine sq_next ?_ | refine sq_brk ?_ | refine sq_cont ?_) | (show W _ _ (getAttr _ _ _) _ _; first | refine gx_instream ‹_› ‹_› ‹_› ‹_› ?_ | refine gx_posix ‹_› ‹_› ‹_› ‹_› ?_ | (refine gx_commenters ‹_› ‹_› ‹_› ‹_› ?_; intro _) | (refine gx_wordchars ‹_› ‹_› ‹_› ‹_› ?_; intro _) | (refine gx_whitespace ‹_› ‹_› ‹_› ‹_› ?_; intro _) | (refine gx_quotes ‹_› ‹_› ‹_› ‹_› ?_; intro _) | (refine gx_escape ‹_› ‹_› ‹_› ‹_› ?_; intro _) | (refine gx_stateS ‹_› ‹_› ‹_› ‹_› ?_; intro _) | (refine gx_lineno ‹_› ‹_› ‹_› ‹_› ?_; intro _) | (refine gx_debug ‹_› ‹_› ‹_› ‹_› ?_; intro _) | (refine gx_token ‹_› ‹_› ‹_› ‹_› ?_; intro _)) | (show W _ _ (setAttr _ _ _) _ _; first | (refine sx_state ‹_› ‹_› ‹_› ‹_› ?_; intro _ _ _ _) | (refine sx_stateN ‹_› ‹_› ‹_› ‹_› ?_; intro _ _ _ _) | (refine sx_token ‹_› ‹_› ‹_› ‹_› ?_; intro _ _ _ _) | (refine sx_lineno ‹_› ‹_› ‹_› ‹_› (Int.natCast_succ _).symm ?_; intro _ _ _ _))))
theorem o_inTup2P {w : World} {A : Around} {h g : Heap} {P : Value → Heap → Prop} {L : Addr} {m : Str → Option Value} {mu : List (Addr × Obj)} {q u v : Str} {t' u' v' : Tok} (S : St g L h m mu) (p : ∀ h', St g L h' m mu → P (.bool (u == q || v == q)) h') :
    W w A (compareOp .In (.str q t') (.ref h.objs.size)) (h.push { cls := .type "tuple", data := .seq [.str u u', .str v v'].toArray }) P :=
  o_inTup2 (Heap.get?_push_size _ rfl) (p _ (S.ext (Ext.push _ _)))
theorem neSp {c : Nat} (h : IsW c ∨ IsQ c) : (mkS [c] == lxSp) = false := by
  rw [beq_eq_false_iff_ne]
  intro q
  have q' : c = 32 := by injection q with q; injection q with q; injection q
  subst q'
  rcases h with h | h <;> exact absurd (h.wh.symm.trans isSp.wh) (by decide)
theorem neWQ {c d : Nat} (h : IsW c) (h' : IsQ d) : (mkS [c] == mkS [d]) = false := by
  rw [beq_eq_false_iff_ne]
  intro q
  have q' : c = d := by injection q with q; injection q with q; injection q
  subst q'
  exact absurd (h.wd.symm.trans h'.wd) (by decide)
section
variable {w : World} {A : Around} {h g : Heap} {P : Value → Heap → Prop} {L x dx y dy a1 a2 : Addr} {m : Str → Option Value} {r : List (Addr × Obj)} {ox oy : Obj} {nm : Str} {ln : Nat} {t : Tok} {pre rest all : List Nat} {o : Out}
/-- the loop's invariant -/
structure LexI (g : Heap) (L x dx y dy a1 a2 : Addr) (nm : Str) (all : List Nat) (o : Out) (n : Nat) (h : Heap) : Prop where
  ex : ∃ st tk qd ln pre rest ox oy t v3, all = pre ++ rest ∧ n = rest.length ∧ Run st tk qd ln rest o ∧ tk.length ≤ pre.length ∧
    St g L h (frL ns690 [some (.ref x), some (.bool qd), some (.str lxSp t), v3, none]) [(dx, ox), (dy, oy)] ∧ LexO ox y nm a1 a2 (some (sxS st)) ln (mkS tk) ∧ SioO oy (mkS all) pre.length
theorem dpl {a b c : Nat} (h : a < b) (e : b < c) : a + 1 < c := Nat.lt_of_le_of_lt h e
theorem tk40 {tk pre rest all : List Nat} (hall : all = pre ++ rest) (hlen : all.length ≤ 1048576) (htk : tk.length ≤ pre.length) : (mkS tk).length ≤ 2 ^ 40 := by
  rw [mkS_len]; have := congrArg List.length hall; simp at this; omega
theorem er_nil {pre all : List Nat} : ∀ {rest : List Nat}, all = pre ++ rest → (mkS all).length ≤ pre.length → rest = []
  | [], _, _ => rfl
  | a :: b, hall, hle => by rw [mkS_len, hall] at hle; simp at hle; omega
theorem tk1 {tk pre r all : List Nat} {c : Nat} (hall : all = pre ++ c :: r) (hlen : all.length ≤ 1048576) (htk : tk.length ≤ pre.length) : (mkS tk).length + (mkS [c]).length ≤ sizeLine := by
  rw [sizeLine_eq, mkS_len]; have := congrArg List.length hall; simp at this; show tk.length + 1 ≤ _; omega
theorem rd_lt {pre u r' all : List Nat} {c d : Nat} (hall : all = (pre ++ [c]) ++ (u ++ d :: r')) : (pre ++ [c]).length < (mkS all).length := by
  rw [mkS_len, hall]; simp; omega
theorem rl_lt {u r' : List Nat} {c d : Nat} : r'.length < (c :: (u ++ d :: r')).length := by simp; omega
set_option maxHeartbeats 4000000 in
theorem c690 (G : Gr w g) (e : Ext g h) (hx : g.get? x = some (instObj 722 dx)) (hy : g.get? y = some (instObj 587 dy)) (hdx : h.get? dx = some ox) (hdy : h.get? dy = some oy) (gdx : g.get? dx = none) (gdy : g.get? dy = none) (hne : dx ≠ dy)
    (hO : LexO ox y nm a1 a2 (some lxSp) ln (mkS [])) (hY : SioO oy (mkS all) pre.length) (hall : all = pre ++ rest) (hlen : all.length ≤ 1048576) (R : Run .sp [] false ln rest o) (hA : A.depth < 860)
    (k : ∀ t h' ox' oy' pre', ExtB [dx, dy] h h' → h'.get? dx = some ox' → h'.get? dy = some oy' → all = pre' ++ o.rest → LexO ox' y nm a1 a2 o.st o.ln (mkS []) → SioO oy' (mkS all) pre'.length →
      P (if o.tok = [] ∧ o.qd = false then .none else .str (mkS o.tok) t) h') :
    WC w A (.call (.ref 690) ⟨[.ref x], []⟩) h P := by
  obtain ⟨g', G', e1, e2, gd', kp⟩ := hideL G e [dx, dy] (fun a ha => by rcases List.mem_cons.mp ha with rfl | ha; exact gdx; rw [List.mem_singleton.mp ha]; exact gdy)
  have hx' := e1 _ _ hx
  have hy' := e1 _ _ hy
  have gdx' := gd' dx (.head _)
  have gdy' := gd' dy (.tail _ (.head _))
  clear G e hx hy
  refine en690 (mu := [(dx, ox), (dy, oy)]) G' e2 (fun q hq => by
    rcases List.mem_cons.mp hq with rfl | hq
    · exact ⟨hdx, gdx'⟩
    · cases List.mem_singleton.mp hq; exact ⟨hdy, gdy'⟩) (by simpa using hne) (Nat.lt_trans hA (by decide)) ?_
  intro L h₁ hL S x₁
  refine W_asg ?_
  wtm_at "R690"
  with_reducible refine W_while (LexI g' L x dx y dy a1 a2 nm all o) rest.length ?_ ?_
  · exact ⟨.sp, [], false, ln, pre, rest, ox, oy, _, none, hall, rfl, R, Nat.zero_le _, by assumption, hO, hY⟩
  clear S R hO hY hall hdx hdy
  rintro n h₂ ⟨st, tk, qd, ln, pre, rest, ox, oy, t, v3, hall, rfl, R, htk, S, hO, hY⟩
  have htk' : (mkS tk).length ≤ 2 ^ 40 := tk40 hall hlen htk
  wtm_at "R690"
  have hd1 : (A.deeper (env690 L)).depth < 900 := dpl hA (by decide)
  with_reducible refine gx_punct G' (by assumption) hx' hO hd1 ?_
  intro _ h₃ x₃
  replace S := S.ext x₃
  wtm_at "R690"
  with_reducible refine W_callM ?_
  wtm_at "R690"
  with_reducible refine ms_read G' (St.keep (by assumption)) hy' (St.get1 (by assumption)) hY ?_
  with_reducible refine W_cw1 (by kernel_rfl) ?_
  wtm_at "R690"
  refine ⟨(G'.keeps S.keep).k, ?_⟩
  refine (c533 G' S.keep hy' S.get1 gdy' hY (by rw [mkS_len]; exact hlen) (dpl hA (by decide)) ?_ ?_).call
  · intro hle t₄ h₄ x₄
    have er : rest = [] := er_nil hall hle
    subst er
    replace S := S.ext x₄
    cases R with
    | spEnd =>
      wtm_at "R690"
      with_reducible refine lp_brk ?_
      wtm_at "R690"
      rename St _ _ _ _ _ => S₅
      rename LexO _ _ _ _ _ _ _ _ => O₅
      exact k 0 _ _ _ pre (fun b o hb q => S₅.keep b o (kp b o hb q)) S₅.get0 S₅.get1 hall O₅ hY
  · intro hlt t₄ h₄ oy₄ x₄ dy₄ hY₄
    replace S := S.upd1 (fun b o q z => x₄ b o (by simpa using q) z) dy₄
    obtain ⟨c, r, rfl⟩ : ∃ c r, rest = c :: r := by
      cases rest with
      | nil => rw [mkS_len, hall] at hlt; simp at hlt
      | cons a b => exact ⟨a, b, rfl⟩
    rw [hall, slice_one, ← hall]
    have hall' : all = (pre ++ [c]) ++ r := by rw [hall]; simp
    have hY₅ : SioO oy₄ (mkS all) (pre ++ [c]).length := by rw [List.length_append]; exact hY₄
    clear hY₄ hY hlt
    have qss : (mkS [c] == mkS [c]) = true := beq_self_eq_true _
    have hsz : (mkS tk).length + (mkS [c]).length ≤ sizeLine := tk1 hall hlen htk
    have htk2 : tk.length ≤ (pre ++ [c]).length := by rw [List.length_append]; exact Nat.le_trans htk (Nat.le_add_right _ _)
    have htk3 : ∀ d, (tk ++ [d]).length ≤ (pre ++ [c]).length := fun d => by rw [List.length_append, List.length_append]; exact Nat.add_le_add_right htk _
    cases R with
    | spSp R' =>
      obtain ⟨q1, q2, q3, q4, q5, q6⟩ := isSp
      wtm_at "R690"
      with_reducible refine lp_cont (Nat.lt_succ_self _) ?_
      exact ⟨.sp, [], false, _, _, _, _, _, _, _, hall', rfl, R', Nat.zero_le _, by assumption, by assumption, hY₅⟩
    | spNl R' =>
      obtain ⟨q1, q2, q3, q4, q5, q6⟩ := isNl
      wtm_at "R690"
      with_reducible refine lp_cont (Nat.lt_succ_self _) ?_
      exact ⟨.sp, [], false, _, _, _, _, _, _, _, hall', rfl, R', Nat.zero_le _, by assumption, by assumption, hY₅⟩
    | spWord hc R' =>
      obtain ⟨q1, q2, q3, q4, q5, q6⟩ := hc
      wtm_at "R690"
      with_reducible refine lp_next (Nat.lt_succ_self _) ?_
      exact ⟨.a, _, false, _, _, _, _, _, _, _, hall', rfl, R', by rw [List.length_append]; exact Nat.le_add_left 1 _, by assumption, by assumption, hY₅⟩
    | spQuot hc R' =>
      obtain ⟨q1, q2, q3, q4, q5, q6⟩ := hc
      wtm_at "R690"
      with_reducible refine gx_punct G' (by assumption) hx' (by assumption) hd1 ?_
      intro _ h₆ x₆
      rename St _ _ _ _ _ => S₆
      replace S := S₆.ext x₆
      wtm_at "R690"
      with_reducible refine lp_next (Nat.lt_succ_self _) ?_
      exact ⟨.q c, _, false, _, _, _, _, _, _, _, hall', rfl, R', Nat.zero_le _, by assumption, by assumption, hY₅⟩
    | @spRem _ u r' _ hu R' =>
      obtain ⟨q1, q2, q3, q4, q5, q6⟩ := isHs
      wtm_at "R690"
      with_reducible refine W_callM ?_
      wtm_at "R690"
      with_reducible refine ms_readline G' (St.keep (by assumption)) hy' (St.get1 (by assumption)) hY₅ ?_
      with_reducible refine W_cw0 (G'.keeps (St.keep (by assumption))).k (by kernel_rfl) ?_
      rename St _ _ _ _ _ => S₆
      refine (c541 (q := (pre ++ [35]).length + u.length) G' S₆.keep hy' S₆.get1 gdy' hY₅ (by rw [mkS_len]; exact hlen) (dpl hA (by decide)) (rd_lt hall') (by rw [hall']; exact find_nl _ _ _ hu) ?_).call
      intro t₇ h₇ oy₇ x₇ dy₇ hY₇
      replace S := S₆.upd1 (fun b o q z => x₇ b o (by simpa using q) z) dy₇
      wtm_at "R690"
      with_reducible refine lp_next (m := r'.length) rl_lt ?_
      exact ⟨.sp, [], false, _, (pre ++ [35]) ++ (u ++ [10]), _, _, _, _, _, by rw [hall']; simp, rfl, R', Nat.zero_le _, by assumption, by assumption, by rw [List.length_append (as := pre ++ [35]), List.length_append (as := u)]; exact hY₇⟩
    | qClose hc R' =>
      obtain ⟨q1, q2, q3, q4, q5, q6⟩ := id hc
      have n1 := neSp (.inr hc)
      change LexO ox y nm a1 a2 (some (mkS [c])) _ _ at hO
      wtm_at "R690"
      with_reducible refine lp_next (Nat.lt_succ_self _) ?_
      exact ⟨.a, _, true, _, _, _, _, _, _, _, hall', rfl, R', htk2, by assumption, by assumption, hY₅⟩
    | @qWord d _ _ _ _ _ _ hd hc R' =>
      obtain ⟨q1, q2, q3, q4, q5, q6⟩ := id hc
      obtain ⟨d1, d2, d3, d4, d5, d6⟩ := id hd
      have n1 := neSp (.inr hd)
      have n2 : (mkS [c] == mkS [d]) = false := neWQ hc hd
      change LexO ox y nm a1 a2 (some (mkS [d])) _ _ at hO
      wtm_at "R690"
      with_reducible refine o_iadds hsz ?_
      intro _
      rw [mkS_app]
      wtm_at "R690"
      with_reducible refine lp_next (Nat.lt_succ_self _) ?_
      exact ⟨.q d, _, true, _, _, _, _, _, _, _, hall', rfl, R', htk3 _, by assumption, by assumption, hY₅⟩
    | @qSp d _ _ _ _ _ hd R' =>
      obtain ⟨q1, q2, q3, q4, q5, q6⟩ := id isSp
      obtain ⟨d1, d2, d3, d4, d5, d6⟩ := id hd
      have n1 := neSp (.inr hd)
      have n2 : (mkS [32] == mkS [d]) = false := by rw [Bool.beq_comm]; exact n1
      change LexO ox y nm a1 a2 (some (mkS [d])) _ _ at hO
      wtm_at "R690"
      with_reducible refine o_iadds hsz ?_
      intro _
      rw [mkS_app]
      wtm_at "R690"
      with_reducible refine lp_next (Nat.lt_succ_self _) ?_
      exact ⟨.q d, _, true, _, _, _, _, _, _, _, hall', rfl, R', htk3 _, by assumption, by assumption, hY₅⟩
    | aWord hc R' =>
      obtain ⟨q1, q2, q3, q4, q5, q6⟩ := hc
      wtm_at "R690"
      refine ⟨by rw [sizeLine_eq]; exact Nat.le_of_ble_eq_true rfl, ?_⟩
      with_reducible refine o_inTup2P (by assumption) ?_
      intro h₈ S₈
      wtm_at "R690"
      with_reducible refine o_iadds hsz ?_
      intro _
      rw [mkS_app]
      wtm_at "R690"
      with_reducible refine lp_next (Nat.lt_succ_self _) ?_
      exact ⟨.a, _, _, _, _, _, _, _, _, _, hall', rfl, R', htk3 _, by assumption, by assumption, hY₅⟩
    | aSp ht =>
      obtain ⟨q1, q2, q3, q4, q5, q6⟩ := isSp
      wtm_at "R690"
      refine ⟨by rw [sizeLine_eq]; exact Nat.le_of_ble_eq_true rfl, ?_⟩
      with_reducible refine o_inTup2P (by assumption) ?_
      intro h₈ S₈
      wtm_at "R690"
      have et : tk = [] → ((((mkS tk).length : Nat) : Int) != 0) = false := fun z => by subst z; rfl
      have ft : tk ≠ [] → ((((mkS tk).length : Nat) : Int) != 0) = true := fun z => by
        cases tk with
        | nil => exact absurd rfl z
        | cons a b => rfl
      have gt : tk ≠ [] → (mkS tk == t_44) = false := fun z => by
        rw [beq_eq_false_iff_ne]
        intro q
        injection q with q; injection q with q; exact z q
      by_cases z : tk = []
      · obtain rfl : qd = true := ht.resolve_left (fun n => n z)
        have et' := et z
        wtm_at "R690"
        with_reducible refine lp_brk ?_
        wtm_at "R690"
        rename St _ _ _ _ _ => S₉
        rename LexO _ _ _ _ _ _ _ _ => O₉
        have e9 : ∀ t, (if tk = [] ∧ true = false then Value.none else .str (mkS tk) t) = .str (mkS tk) t := fun t => if_neg (fun q => nomatch q.2)
        show P (.str (mkS tk) _) _
        rw [← e9]
        exact k _ _ _ _ (pre ++ [_]) (fun b o hb q => S₉.keep b o (kp b o hb q)) S₉.get0 S₉.get1 hall' O₉ hY₅
      · have ft' := ft z
        wtm_at "R690"
        with_reducible refine lp_brk ?_
        have gt' := gt z
        have e9 : ∀ t, (if tk = [] ∧ qd = false then Value.none else .str (mkS tk) t) = .str (mkS tk) t := fun t => if_neg (fun q => z q.1)
        cases qd
        all_goals
          wtm_at "R690"
          rename St _ _ _ _ _ => S₉
          rename LexO _ _ _ _ _ _ _ _ => O₉
          show P (.str (mkS tk) _) _
          rw [← e9]
          exact k _ _ _ _ (pre ++ [_]) (fun b o hb q => S₉.keep b o (kp b o hb q)) S₉.get0 S₉.get1 hall' O₉ hY₅
    | aNl ht =>
      obtain ⟨q1, q2, q3, q4, q5, q6⟩ := isNl
      wtm_at "R690"
      refine ⟨by rw [sizeLine_eq]; exact Nat.le_of_ble_eq_true rfl, ?_⟩
      with_reducible refine o_inTup2P (by assumption) ?_
      intro h₈ S₈
      wtm_at "R690"
      have et : tk = [] → ((((mkS tk).length : Nat) : Int) != 0) = false := fun z => by subst z; rfl
      have ft : tk ≠ [] → ((((mkS tk).length : Nat) : Int) != 0) = true := fun z => by
        cases tk with
        | nil => exact absurd rfl z
        | cons a b => rfl
      have gt : tk ≠ [] → (mkS tk == t_44) = false := fun z => by
        rw [beq_eq_false_iff_ne]
        intro q
        injection q with q; injection q with q; exact z q
      by_cases z : tk = []
      · obtain rfl : qd = true := ht.resolve_left (fun n => n z)
        have et' := et z
        wtm_at "R690"
        with_reducible refine lp_brk ?_
        wtm_at "R690"
        rename St _ _ _ _ _ => S₉
        rename LexO _ _ _ _ _ _ _ _ => O₉
        have e9 : ∀ t, (if tk = [] ∧ true = false then Value.none else .str (mkS tk) t) = .str (mkS tk) t := fun t => if_neg (fun q => nomatch q.2)
        show P (.str (mkS tk) _) _
        rw [← e9]
        exact k _ _ _ _ (pre ++ [_]) (fun b o hb q => S₉.keep b o (kp b o hb q)) S₉.get0 S₉.get1 hall' O₉ hY₅
      · have ft' := ft z
        wtm_at "R690"
        with_reducible refine lp_brk ?_
        have gt' := gt z
        have e9 : ∀ t, (if tk = [] ∧ qd = false then Value.none else .str (mkS tk) t) = .str (mkS tk) t := fun t => if_neg (fun q => z q.1)
        cases qd
        all_goals
          wtm_at "R690"
          rename St _ _ _ _ _ => S₉
          rename LexO _ _ _ _ _ _ _ _ => O₉
          show P (.str (mkS tk) _) _
          rw [← e9]
          exact k _ _ _ _ (pre ++ [_]) (fun b o hb q => S₉.keep b o (kp b o hb q)) S₉.get0 S₉.get1 hall' O₉ hY₅
end
/-! ### the empty deque -/
theorem dq_mro : mroOf (.type "collections.deque") = pure [.type "collections.deque", .type "object"] := by rw [mroOf_type]; kernel_rfl
theorem dq_lookup_new : typeLookup (.type "collections.deque") "__new__" = pure (some (.builtin "collections.deque.__new__")) := by rw [typeLookup_type, builtinLookup_eq_fast]; kernel_rfl
theorem dq_slot_init : Slot "collections.deque" "__init__" "collections.deque.__init__" := .of (owner := "collections.deque") (n := "__init__") (by rw [typeLookup_type, builtinLookup_eq_fast]; kernel_rfl) (by decide +kernel) (by decide +kernel) (by decide +kernel)
  (by first | exact .inl (by decide +kernel) | exact .inr (by decide +kernel)) (by rw [isSubtype_type]; kernel_rfl)
theorem dq_slot_len : Slot "collections.deque" "__len__" "collections.deque.__len__" := .of (owner := "collections.deque") (n := "__len__") (by rw [typeLookup_type, builtinLookup_eq_fast]; kernel_rfl) (by decide +kernel) (by decide +kernel) (by decide +kernel)
  (by first | exact .inl (by decide +kernel) | exact .inr (by decide +kernel)) (by rw [isSubtype_type]; kernel_rfl)
theorem dq_noBool : typeLookup (.type "collections.deque") "__bool__" = pure none := by rw [typeLookup_type, builtinLookup_eq_fast]; kernel_rfl
theorem dq_sub : isSubtype (.type "collections.deque") (.type "collections.deque") = pure true := by rw [isSubtype_type]; kernel_rfl
theorem dq_called : TypeCalled "collections.deque" "collections.deque.__new__" "collections.deque.__init__" :=
  ⟨by decide +kernel, by decide +kernel, ⟨_, _, dq_mro⟩, madeBy_type dq_mro dq_lookup_new (by decide +kernel), by decide +kernel, dq_sub, dq_slot_init⟩
theorem dq_newCall : checkBuiltinCall "collections.deque.__new__" ⟨[.type "collections.deque"], []⟩ = pure () := by kernel_rfl
theorem dq_typeCall : checkTypeCall "collections.deque" ⟨[], []⟩ = pure () := by kernel_rfl
theorem dq_initArgs (o : Value) : argsOk "collections.deque.__init__" ⟨[o], []⟩ := by unfold argsOk; kernel_rfl
theorem dq_lenArgs (o : Value) : argsOk "collections.deque.__len__" ⟨[o], []⟩ := by unfold argsOk; kernel_rfl
theorem dq_entry_new : entryFor table "collections.deque.__new__" = some Builtin.«collections.deque.__new__» := entryFor_of_tree (by kernel_rfl)
theorem dq_entry_init : entryFor table "collections.deque.__init__" = some Builtin.«collections.deque.__init__» := entryFor_of_tree (by kernel_rfl)
theorem dq_entry_len : entryFor table "collections.deque.__len__" = some Builtin.«collections.deque.__len__» := entryFor_of_tree (by kernel_rfl)
theorem dq_plain_new : plainId "collections.deque.__new__" = true := by decide +kernel
/-- the empty deque -/
noncomputable abbrev dqO : Obj := { cls := .type "collections.deque", data := .fields #[.none, rawInt 0] }
section
variable {w : World} {A : Around} {h g : Heap} {P : Value → Heap → Prop} {E : Value → Shared → Prop}
theorem dq_newArgs {M : Model} {s : Shared} {Q : Value × List Value → Shared → Prop} (hq : Q (.type "collections.deque", []) s) : wpAny M A (Builtin.Deque.newArgs Builtin.Deque.ty ⟨[.type "collections.deque"], []⟩) Q E s := by
  obtain ⟨hp, g, d, tk, os⟩ := s
  have hsub := dq_sub
  unfold Builtin.Deque.newArgs Builtin.Deque.ty
  repeat (first | assumption | (with_reducible refine wpAny_of_eq hsub ?_) | wp_step)
theorem dq_new {M : Model} {s : Shared} {Q : Value → Shared → Prop} (hq : Q (.ref s.heap.objs.size) { s with heap := s.heap.push dqO }) : wpAny M A (Builtin.Deque.new (.type "collections.deque") #[] none) Q E s := by
  unfold Builtin.Deque.new
  have hs : ¬ ((#[] : Array Value).size > sizeLine) := by rw [sizeLine_eq]; decide
  have hd : typeHasDict (.type "collections.deque") = false := by kernel_rfl
  simp only [hd, if_neg hs]
  exact wpAny_newObj_type hq (by unfold sizeOk; trivial)
theorem dq_code_new {s : Shared} {Q₁ : Value → Shared → Prop} (hq : Q₁ (.ref s.heap.objs.size) { s with heap := s.heap.push dqO }) :
    codeAny (model pw w) A (.call (.builtin "collections.deque.__new__") ⟨[.type "collections.deque"], []⟩) (wants Q₁ E) s := by
  refine codeAny_of_tree ?_
  show wpAny _ A.in1 (do checkBuiltinCall "collections.deque.__new__" ⟨[.type "collections.deque"], []⟩; again (.builtin "collections.deque.__new__" ⟨[.type "collections.deque"], []⟩)) _ _ s
  refine wpAny_bind (wpAny_of_eq dq_newCall (wpAny_pure ⟨plainId_quiet dq_plain_new _, codeAny_builtin dq_entry_new ?_⟩))
  rw [Around.under_plainId dq_plain_new _]
  unfold Builtin.«collections.deque.__new__»
  refine wpAny_bind (dq_newArgs ?_)
  refine wpAny_bind (dq_new ?_)
  exact wpAny_pure hq
theorem dq_call (p : ∀ h', h'.get? h.objs.size = some dqO → Ext h h' → P (.ref h.objs.size) h') : W w A (call (.type "collections.deque") []) h P := fun s hs => by
  subst hs
  obtain ⟨h, g, d, t, os⟩ := s
  refine ks_callType_codesW (Q₁ := fun obj s₁ => obj = .ref h.objs.size ∧ s₁ = ⟨h.push dqO, g, d, t, os⟩) dq_called (fun hq => wpAny_of_eq dq_typeCall hq) dq_entry_init
    (dq_code_new ⟨rfl, rfl⟩) fun obj s₁ h₁ => ?_
  obtain ⟨rfl, rfl⟩ := h₁
  have hso : (h.push dqO).get? h.objs.size = some dqO := Heap.get?_push_at rfl rfl
  refine ⟨⟨_, hso, rfl⟩, dq_initArgs _, ?_⟩
  unfold Builtin.«collections.deque.__init__»
  repeat (first | wp_step)
  refine ⟨rfl, ⟨rfl, rfl, rfl⟩, p _ ((Heap.get?_update_self _ hso rfl).trans rfl) fun b o e => ?_⟩
  exact Heap.get?_update_of_ne _ (Nat.ne_of_gt (Heap.lt_size e)) (Heap.get?_push_of_some _ e)
theorem dq_len {a : Addr} {s : Shared} {Q : Value → Shared → Prop} (ht : s.heap.get? a = some dqO) (h : Q (.int 0 (s.toks + 1)) { s with toks := s.toks + 1 + 1 }) :
    wpAny (model pw w) A (Builtin.«len» ⟨[.ref a], []⟩) (fun fin s' => ∃ r, fin = .done (.ret r) ∧ Q r s') E s := by
  have hT : s.TypeIs (.ref a) "collections.deque" := ⟨_, ht, rfl⟩
  unfold Builtin.«len»
  refine wpAny_bind (m := oneArg "len" _) (wpAny_pure ?_)
  refine wpAny_bind (m := callSpecial? (.ref a) (Str.ofString "__len__")) (wpAny_callSpecial?_slot (name := Str.ofString "__len__") hT dq_slot_len
    (wpAny_call (codeAny_call_builtin dq_slot_len.plain dq_entry_len (dq_slot_len.check _ _ _ _ _ _ _ _ hT (dq_lenArgs _) ?_))))
  unfold Builtin.«collections.deque.__len__» Builtin.Deque.size
  obtain ⟨hp, g, d, tk, os⟩ := s
  repeat (first | assumption | wp_step)
  exact ⟨_, rfl, h⟩
theorem dq_truthy {a : Addr} {B : Bool → Heap → Prop} (ht : h.get? a = some dqO) (p : B false h) : W w A (truthy (.ref a)) h B := fun s hs => by
  subst hs
  have hT : s.TypeIs (.ref a) "collections.deque" := ⟨_, ht, rfl⟩
  have key : wpAny (model pw w) A (runValue (.builtin "len" ⟨[.ref a], []⟩)) (fun r s' => r = .int 0 (s.toks + 1) ∧ (Like s s' ∧ B false s'.heap)) (fun _ _ => False) s := by
    refine wpAny_runValue (codeAny_builtin entry_len ?_)
    rw [Around.under_plainId plain_len _]
    exact wpAny_mono (dq_len (Q := fun r s' => r = .int 0 (s.toks + 1) ∧ (Like s s' ∧ B false s'.heap)) ht ⟨rfl, ⟨rfl, rfl, rfl⟩, p⟩)
      (fun fin s' h' => by obtain ⟨r, rfl, hq⟩ := h'; exact hq) fun _ _ e => e
  unfold truthy
  first
    | refine wpAny_bind (wpAny_callSpecial?_none (name := Str.ofString "__bool__") hT dq_noBool ?_)
    | refine wpAny_bind (wpAny_pure (wpAny_bind (wpAny_callSpecial?_none (name := Str.ofString "__bool__") hT dq_noBool ?_)))
  first
    | refine wpAny_bind (wpAny_specialOf (name := Str.ofString "__len__") hT dq_slot_len.lookup ?_)
    | refine wpAny_bind (wpAny_pure (wpAny_bind (wpAny_specialOf (name := Str.ofString "__len__") hT dq_slot_len.lookup ?_)))
  first
    | exact wpAny_bind (wpAny_mono key (fun r s' h' => by obtain ⟨rfl, hq⟩ := h'; exact wpAny_pure hq) fun _ _ e => e)
    | exact wpAny_bind (wpAny_pure (wpAny_bind (wpAny_mono key (fun r s' h' => by obtain ⟨rfl, hq⟩ := h'; exact wpAny_pure hq) fun _ _ e => e)))
end
noncomputable abbrev fmtL : Str := ⟨⟨[34, 37, 115, 34, 44, 32, 108, 105, 110, 101, 32, 37, 100, 58, 32]⟩⟩
noncomputable abbrev fm1 : Str := ⟨⟨[34]⟩⟩
noncomputable abbrev fm2 : Str := ⟨⟨[34, 44, 32, 108, 105, 110, 101, 32]⟩⟩
noncomputable abbrev fm3 : Str := ⟨⟨[58, 32]⟩⟩
/-- what error_leader says -/
noncomputable def leadS (y : Str) (n : Int) : Str := ((fm1 ++ y) ++ fm2 ++ Str.ofString (toString n)) ++ fm3
theorem fmt_meets {b : Addr} {y : Str} {n : Int} {t u v : Tok} (hy : y.length ≤ 100000) (h0 : 0 ≤ n) (h1 : n < 10 ^ 10) (hd : n.natAbs.log2 < 1920) :
    Meets (Builtin.«str.__mod__» ⟨[.str fmtL t, .ref b], []⟩) (fun _ R s => IsTup s.heap b #[.str y u, .int n v] ∧ ∀ t' k, R (.ok (.ret (.str (leadS y n) t'))) { s with toks := k }) := by
  kpt_run
theorem o_fmt {w : World} {A : Around} {h : Heap} {P : Value → Heap → Prop} {b : Addr} {y : Str} {n : Int} {t u v : Tok} (hy : y.length ≤ 100000) (h0 : 0 ≤ n) (h1 : n < 10 ^ 10) (hd : n.natAbs.log2 < 1920)
    (hb : h.get? b = some { cls := .type "tuple", data := .seq [.str y u, .int n v].toArray }) (p : ∀ t, P (.str (leadS y n) t) h) : W w A (binaryOp .Mod (.str fmtL t) (.ref b)) h P := fun s hs => by
  subst hs
  have ht : IsTup s.heap b #[.str y u, .int n v] := ⟨_, hb, rfl, 0, rfl⟩
  exact KPt.bin_left (T := "str") (U := "tuple") (op := .Mod) (by decide) (typeIs_str s fmtL t) ⟨_, hb, rfl⟩ F.fills_str_mod KPt.fills_tuple F.slot_str_mod
    (call_meets F.slot_str_mod (typeIs_str s fmtL t) F.entry_str_mod (F.args_str_mod_2 _ _) (fmt_meets hy h0 h1 hd) ⟨ht, fun t' k => ⟨(fun e => nomatch e), ⟨rfl, rfl, rfl⟩, p t'⟩⟩)
section
variable {w : World} {A : Around} {h g : Heap} {P : Value → Heap → Prop} {L x dx y dy a1 a2 : Addr} {m : Str → Option Value} {r : List (Addr × Obj)} {ox oy : Obj} {nm : Str} {ln : Nat} {t : Tok} {pre rest all : List Nat} {o : Out} {st : Option Str} {tk : Str}
theorem log2_small {n : Int} (h0 : 0 ≤ n) (h1 : n < 10 ^ 10) : n.natAbs.log2 < 1920 := by
  rcases Nat.eq_zero_or_pos n.natAbs with e | e
  · rw [e]; decide
  · have h2 : n.natAbs.log2 < 40 := (Nat.log2_lt (by omega)).mpr (by omega)
    omega
theorem c705 (G : Gr w g) (e : Ext g h) (hx : g.get? x = some (instObj 722 dx)) (hdx : h.get? dx = some ox) (gdx : g.get? dx = none)
    (hO : LexO ox y nm a1 a2 st ln tk) (hln : ln < 10 ^ 9) (hnm : nm.length ≤ 100000) (hA : A.depth < 860)
    (k : ∀ t h', Ext h h' → P (.str (leadS nm ln) t) h') :
    WC w A (.call (.ref 705) ⟨[.ref x], []⟩) h P := by
  obtain ⟨g', G', e1, e2, gd', kp⟩ := hideL G e [dx] (fun a ha => by rw [List.mem_singleton.mp ha]; exact gdx)
  have hx' := e1 _ _ hx
  clear G e hx
  refine en705d (mu := [(dx, ox)]) G' e2 (fun q hq => by cases List.mem_singleton.mp hq; exact ⟨hdx, gd' _ (.head _)⟩) (by simp) (by omega) ?_
  intro L h₁ hL S x₁
  refine W_if ?_
  repeat (with_reducible first | (show W _ _ (eval (.Name _ _) _) _ _; first | refine ld705_self ‹_› ?_ | refine ld705_infile ‹_› ?_ | refine ld705_lineno ‹_› ?_) | (show W _ _ (eval _ _) _ _; first | refine W_attr ?_ | (refine W_str ?_; intro _) | refine W_none ?_ | refine W_BinOp ?_ | refine W_tuple ?_) | (show W _ _ (execs _ _) _ _; first | refine W_asg ?_ | refine W_if ?_ | refine W_ret ?_ | refine W_nil ?_) | (show W _ _ (storeName _ _ _) _ _; first | (refine st705_infile ‹_› ?_; intro _ _ _) | (refine st705_lineno ‹_› ?_; intro _ _ _)) | (show W _ _ (isTrue _ _ _) _ _; refine T_cmp ?_) | (show W _ _ (truthy _) _ _; refine t_bool ?_) | (show W _ _ (spliced _) _ _; first | refine W_sp ?_ | refine W_sp0 ?_) | (show W _ _ (compareOp _ _ _) _ _; refine o_is (by with_unfolding_all rfl) ?_) | (show if _ = true then _ else _; first | refine ite_t ‹_› ?_ | refine ite_t (by decide +kernel) ?_ | refine ite_t (by with_unfolding_all rfl) ?_) | (show Sq _ _ _ _ _ _ _; refine sq_next ?_) | (show W _ _ (getAttr _ _ _) _ _; first | (refine gx_infile ‹_› ‹_› ‹_› ‹_› ?_; intro _) | (refine gx_lineno ‹_› ‹_› ‹_› ‹_› ?_; intro _)))
  refine ⟨by rw [sizeLine_eq]; exact Nat.le_of_ble_eq_true rfl, ?_⟩
  refine o_fmt hnm (by omega) (by omega) (log2_small (by omega) (by omega)) (Heap.get?_push_size _ rfl) ?_
  intro t₂
  rename St _ _ _ _ _ => S₂
  refine k _ _ fun b o q => ?_
  by_cases z : b = dx
  · rw [z] at q ⊢; rw [hdx] at q; cases q; exact Heap.get?_push_of_some _ S₂.get0
  · exact Heap.get?_push_of_some _ (S₂.keep b o (kp b o (by simpa using z) q))
theorem St.both {ox' oy' : Obj} {h' : Heap} (S : St g L h m [(dx, ox), (dy, oy)]) (e : ExtB [dx, dy] h h') (e1 : h'.get? dx = some ox') (e2 : h'.get? dy = some oy') : St g L h' m [(dx, ox'), (dy, oy')] := by
  have D := S.mus (dx, ox) (.head _)
  have D' := S.mus (dy, oy) (.tail _ (.head _))
  obtain ⟨oL, es, ep, hL, r⟩ := S.ns
  refine ⟨⟨oL, es, ep, e _ _ (fun q => ?_) hL, r⟩, fun b o q => e b o (fun z => ?_) (S.keep b o q), S.gL, fun p hp => ?_, by simpa using S.nd⟩
  · rcases List.mem_cons.mp q with z | q
    · exact D.2.1 z.symm
    · exact D'.2.1 (List.mem_singleton.mp q).symm
  · rcases List.mem_cons.mp z with z | z
    · rw [z, D.2.2] at q; cases q
    · rw [List.mem_singleton.mp z, D'.2.2] at q; cases q
  · rcases List.mem_cons.mp hp with rfl | hp
    · exact ⟨e1, D.2⟩
    · cases List.mem_singleton.mp hp
      exact ⟨e2, D'.2⟩
theorem c683 (G : Gr w g) (e : Ext g h) (hx : g.get? x = some (instObj 722 dx)) (hy : g.get? y = some (instObj 587 dy)) (hdx : h.get? dx = some ox) (hdy : h.get? dy = some oy) (gdx : g.get? dx = none) (gdy : g.get? dy = none) (hne : dx ≠ dy)
    (ha1 : g.get? a1 = some dqO) (ha2 : g.get? a2 = some dqO)
    (hO : LexO ox y nm a1 a2 (some lxSp) ln (mkS [])) (hY : SioO oy (mkS all) pre.length) (hall : all = pre ++ rest) (hlen : all.length ≤ 1048576) (R : Run .sp [] false ln rest o) (hA : A.depth < 850)
    (k : ∀ t h' ox' oy' pre', ExtB [dx, dy] h h' → h'.get? dx = some ox' → h'.get? dy = some oy' → all = pre' ++ o.rest → LexO ox' y nm a1 a2 o.st o.ln (mkS []) → SioO oy' (mkS all) pre'.length →
      P (if o.tok = [] ∧ o.qd = false then .none else .str (mkS o.tok) t) h') :
    WC w A (.call (.ref 683) ⟨[.ref x], []⟩) h P := by
  obtain ⟨g', G', e1, e2, gd', kp⟩ := hideL G e [dx, dy] (fun a ha => by rcases List.mem_cons.mp ha with rfl | ha; exact gdx; rw [List.mem_singleton.mp ha]; exact gdy)
  have hx' := e1 _ _ hx
  have hy' := e1 _ _ hy
  have ha1' := e1 _ _ ha1
  have ha2' := e1 _ _ ha2
  have gdx' := gd' dx (.head _)
  have gdy' := gd' dy (.tail _ (.head _))
  clear G e hx hy ha1 ha2
  refine en683 (mu := [(dx, ox), (dy, oy)]) G' e2 (fun q hq => by
    rcases List.mem_cons.mp hq with rfl | hq
    · exact ⟨hdx, gdx'⟩
    · cases List.mem_singleton.mp hq; exact ⟨hdy, gdy'⟩) (by simpa using hne) (by omega) ?_
  intro L h₁ hL S x₁
  refine W_if ?_
  repeat (with_reducible first | (show W _ _ (eval (.Name _ _) _) _ _; first | refine ld683_self ‹_› ?_ | refine ld683_raw ‹_› ?_) | (show W _ _ (eval _ _) _ _; first | refine W_attr ?_ | (refine W_int ?_; intro _) | refine W_none ?_) | (show W _ _ (execs _ _) _ _; first | refine W_asg ?_ | refine W_if ?_ | refine W_ret ?_ | refine W_nil ?_) | (show W _ _ (storeName _ _ _) _ _; (refine st683_raw ‹_› ?_; intro _ _ _)) | (show W _ _ (isTrue _ _ _) _ _; first | refine T_cmp ?_ | refine T_not ?_ | refine T_val ?_) | (show W _ _ (truthy _) _ _; refine t_bool ?_) | (show W _ _ (compareOp _ _ _) _ _; first | refine o_ge ?_ | refine o_eqsn ?_ | refine o_eqnn ?_ | refine o_isNot (by with_unfolding_all rfl) ?_) | (show if _ = true then _ else _; first | refine ite_f ‹_› ?_ | refine ite_t ‹_› ?_ | refine ite_f (by decide +kernel) ?_ | refine ite_t (by decide +kernel) ?_ | refine ite_f (by with_unfolding_all rfl) ?_ | refine ite_t (by with_unfolding_all rfl) ?_) | (show Sq _ _ _ _ _ _ _; first | refine sq_next ?_ | refine sq_ret ?_) | (show W _ _ (getAttr _ _ _) _ _; first | refine gx_eof ‹_› ‹_› ‹_› ‹_› ?_ | refine gx_pushback ‹_› ‹_› ‹_› ‹_› ?_ | (refine gx_debug ‹_› ‹_› ‹_› ‹_› ?_; intro _) | refine gx_filestack ‹_› ‹_› ‹_› ‹_› ?_ | refine gx_source ‹_› ‹_› ‹_› ‹_› ?_))
  with_reducible refine dq_truthy (St.keep (by assumption) _ _ ha1') ?_
  repeat (with_reducible first | (show W _ _ (eval (.Name _ _) _) _ _; first | refine ld683_self ‹_› ?_ | refine ld683_raw ‹_› ?_) | (show W _ _ (eval _ _) _ _; first | refine W_attr ?_ | (refine W_int ?_; intro _) | refine W_none ?_) | (show W _ _ (execs _ _) _ _; first | refine W_asg ?_ | refine W_if ?_ | refine W_ret ?_ | refine W_nil ?_) | (show W _ _ (storeName _ _ _) _ _; (refine st683_raw ‹_› ?_; intro _ _ _)) | (show W _ _ (isTrue _ _ _) _ _; first | refine T_cmp ?_ | refine T_not ?_ | refine T_val ?_) | (show W _ _ (truthy _) _ _; refine t_bool ?_) | (show W _ _ (compareOp _ _ _) _ _; first | refine o_ge ?_ | refine o_eqsn ?_ | refine o_eqnn ?_ | refine o_isNot (by with_unfolding_all rfl) ?_) | (show if _ = true then _ else _; first | refine ite_f ‹_› ?_ | refine ite_t ‹_› ?_ | refine ite_f (by decide +kernel) ?_ | refine ite_t (by decide +kernel) ?_ | refine ite_f (by with_unfolding_all rfl) ?_ | refine ite_t (by with_unfolding_all rfl) ?_) | (show Sq _ _ _ _ _ _ _; first | refine sq_next ?_ | refine sq_ret ?_) | (show W _ _ (getAttr _ _ _) _ _; first | refine gx_eof ‹_› ‹_› ‹_› ‹_› ?_ | refine gx_pushback ‹_› ‹_› ‹_› ‹_› ?_ | (refine gx_debug ‹_› ‹_› ‹_› ‹_› ?_; intro _) | refine gx_filestack ‹_› ‹_› ‹_› ‹_› ?_ | refine gx_source ‹_› ‹_› ‹_› ‹_› ?_))
  with_reducible refine W_callM ?_
  repeat (with_reducible first | (show W _ _ (eval (.Name _ _) _) _ _; first | refine ld683_self ‹_› ?_ | refine ld683_raw ‹_› ?_) | (show W _ _ (eval _ _) _ _; first | refine W_attr ?_ | (refine W_int ?_; intro _) | refine W_none ?_) | (show W _ _ (execs _ _) _ _; first | refine W_asg ?_ | refine W_if ?_ | refine W_ret ?_ | refine W_nil ?_) | (show W _ _ (storeName _ _ _) _ _; (refine st683_raw ‹_› ?_; intro _ _ _)) | (show W _ _ (isTrue _ _ _) _ _; first | refine T_cmp ?_ | refine T_not ?_ | refine T_val ?_) | (show W _ _ (truthy _) _ _; refine t_bool ?_) | (show W _ _ (compareOp _ _ _) _ _; first | refine o_ge ?_ | refine o_eqsn ?_ | refine o_eqnn ?_ | refine o_isNot (by with_unfolding_all rfl) ?_) | (show if _ = true then _ else _; first | refine ite_f ‹_› ?_ | refine ite_t ‹_› ?_ | refine ite_f (by decide +kernel) ?_ | refine ite_t (by decide +kernel) ?_ | refine ite_f (by with_unfolding_all rfl) ?_ | refine ite_t (by with_unfolding_all rfl) ?_) | (show Sq _ _ _ _ _ _ _; first | refine sq_next ?_ | refine sq_ret ?_) | (show W _ _ (getAttr _ _ _) _ _; first | refine gx_eof ‹_› ‹_› ‹_› ‹_› ?_ | refine gx_pushback ‹_› ‹_› ‹_› ‹_› ?_ | (refine gx_debug ‹_› ‹_› ‹_› ‹_› ?_; intro _) | refine gx_filestack ‹_› ‹_› ‹_› ‹_› ?_ | refine gx_source ‹_› ‹_› ‹_› ‹_› ?_))
  with_reducible refine mx_read_token G' (by assumption) hx' hO ?_
  with_reducible refine W_cw0 (G'.keeps (St.keep (by assumption))).k (by kernel_rfl) ?_
  refine (c690 G' S.keep hx' hy' S.get0 S.get1 gdx' gdy' hne hO hY hall hlen R (by show A.depth + 1 < 860; omega) ?_).call
  intro t₂ h₂ ox₂ oy₂ pre₂ x₂ hdx₂ hdy₂ hall₂ hO₂ hY₂
  replace S := S.both x₂ hdx₂ hdy₂
  clear hO hY R
  by_cases z : o.tok = [] ∧ o.qd = false
  · have k' := k 0
    rw [if_pos z] at k' ⊢
    repeat (with_reducible first | (show W _ _ (eval (.Name _ _) _) _ _; first | refine ld683_self ‹_› ?_ | refine ld683_raw ‹_› ?_) | (show W _ _ (eval _ _) _ _; first | refine W_attr ?_ | (refine W_int ?_; intro _) | refine W_none ?_) | (show W _ _ (execs _ _) _ _; first | refine W_asg ?_ | refine W_if ?_ | refine W_ret ?_ | refine W_nil ?_) | (show W _ _ (storeName _ _ _) _ _; (refine st683_raw ‹_› ?_; intro _ _ _)) | (show W _ _ (isTrue _ _ _) _ _; first | refine T_cmp ?_ | refine T_not ?_ | refine T_val ?_) | (show W _ _ (truthy _) _ _; refine t_bool ?_) | (show W _ _ (compareOp _ _ _) _ _; first | refine o_ge ?_ | refine o_eqsn ?_ | refine o_eqnn ?_ | refine o_isNot (by with_unfolding_all rfl) ?_) | (show if _ = true then _ else _; first | refine ite_f ‹_› ?_ | refine ite_t ‹_› ?_ | refine ite_f (by decide +kernel) ?_ | refine ite_t (by decide +kernel) ?_ | refine ite_f (by with_unfolding_all rfl) ?_ | refine ite_t (by with_unfolding_all rfl) ?_) | (show Sq _ _ _ _ _ _ _; first | refine sq_next ?_ | refine sq_ret ?_) | (show W _ _ (getAttr _ _ _) _ _; first | refine gx_eof ‹_› ‹_› ‹_› ‹_› ?_ | refine gx_pushback ‹_› ‹_› ‹_› ‹_› ?_ | (refine gx_debug ‹_› ‹_› ‹_› ‹_› ?_; intro _) | refine gx_filestack ‹_› ‹_› ‹_› ‹_› ?_ | refine gx_source ‹_› ‹_› ‹_› ‹_› ?_))
    rename St _ _ _ _ _ => S₃
    with_reducible refine W_while (fun n h' => n = 0 ∧ St g' L h' _ [(dx, ox₂), (dy, oy₂)]) 0 ⟨rfl, S₃⟩ ?_
    clear S S₃
    rintro n h₄ ⟨rfl, S₄⟩
    repeat (with_reducible first | (show W _ _ (eval (.Name _ _) _) _ _; first | refine ld683_self ‹_› ?_ | refine ld683_raw ‹_› ?_) | (show W _ _ (eval _ _) _ _; first | refine W_attr ?_ | (refine W_int ?_; intro _) | refine W_none ?_) | (show W _ _ (execs _ _) _ _; first | refine W_asg ?_ | refine W_if ?_ | refine W_ret ?_ | refine W_nil ?_) | (show W _ _ (storeName _ _ _) _ _; (refine st683_raw ‹_› ?_; intro _ _ _)) | (show W _ _ (isTrue _ _ _) _ _; first | refine T_cmp ?_ | refine T_not ?_ | refine T_val ?_) | (show W _ _ (truthy _) _ _; refine t_bool ?_) | (show W _ _ (compareOp _ _ _) _ _; first | refine o_ge ?_ | refine o_eqsn ?_ | refine o_eqnn ?_ | refine o_isNot (by with_unfolding_all rfl) ?_) | (show if _ = true then _ else _; first | refine ite_f ‹_› ?_ | refine ite_t ‹_› ?_ | refine ite_f (by decide +kernel) ?_ | refine ite_t (by decide +kernel) ?_ | refine ite_f (by with_unfolding_all rfl) ?_ | refine ite_t (by with_unfolding_all rfl) ?_) | (show Sq _ _ _ _ _ _ _; first | refine sq_next ?_ | refine sq_ret ?_) | (show W _ _ (getAttr _ _ _) _ _; first | refine gx_eof ‹_› ‹_› ‹_› ‹_› ?_ | refine gx_pushback ‹_› ‹_› ‹_› ‹_› ?_ | (refine gx_debug ‹_› ‹_› ‹_› ‹_› ?_; intro _) | refine gx_filestack ‹_› ‹_› ‹_› ‹_› ?_ | refine gx_source ‹_› ‹_› ‹_› ‹_› ?_))
    with_reducible refine dq_truthy (St.keep (by assumption) _ _ ha2') ?_
    repeat (with_reducible first | (show W _ _ (eval (.Name _ _) _) _ _; first | refine ld683_self ‹_› ?_ | refine ld683_raw ‹_› ?_) | (show W _ _ (eval _ _) _ _; first | refine W_attr ?_ | (refine W_int ?_; intro _) | refine W_none ?_) | (show W _ _ (execs _ _) _ _; first | refine W_asg ?_ | refine W_if ?_ | refine W_ret ?_ | refine W_nil ?_) | (show W _ _ (storeName _ _ _) _ _; (refine st683_raw ‹_› ?_; intro _ _ _)) | (show W _ _ (isTrue _ _ _) _ _; first | refine T_cmp ?_ | refine T_not ?_ | refine T_val ?_) | (show W _ _ (truthy _) _ _; refine t_bool ?_) | (show W _ _ (compareOp _ _ _) _ _; first | refine o_ge ?_ | refine o_eqsn ?_ | refine o_eqnn ?_ | refine o_isNot (by with_unfolding_all rfl) ?_) | (show if _ = true then _ else _; first | refine ite_f ‹_› ?_ | refine ite_t ‹_› ?_ | refine ite_f (by decide +kernel) ?_ | refine ite_t (by decide +kernel) ?_ | refine ite_f (by with_unfolding_all rfl) ?_ | refine ite_t (by with_unfolding_all rfl) ?_) | (show Sq _ _ _ _ _ _ _; first | refine sq_next ?_ | refine sq_ret ?_) | (show W _ _ (getAttr _ _ _) _ _; first | refine gx_eof ‹_› ‹_› ‹_› ‹_› ?_ | refine gx_pushback ‹_› ‹_› ‹_› ‹_› ?_ | (refine gx_debug ‹_› ‹_› ‹_› ‹_› ?_; intro _) | refine gx_filestack ‹_› ‹_› ‹_› ‹_› ?_ | refine gx_source ‹_› ‹_› ‹_› ‹_› ?_))
    with_reducible refine lp_ret ?_
    repeat (with_reducible first | (show W _ _ (eval (.Name _ _) _) _ _; first | refine ld683_self ‹_› ?_ | refine ld683_raw ‹_› ?_) | (show W _ _ (eval _ _) _ _; first | refine W_attr ?_ | (refine W_int ?_; intro _) | refine W_none ?_) | (show W _ _ (execs _ _) _ _; first | refine W_asg ?_ | refine W_if ?_ | refine W_ret ?_ | refine W_nil ?_) | (show W _ _ (storeName _ _ _) _ _; (refine st683_raw ‹_› ?_; intro _ _ _)) | (show W _ _ (isTrue _ _ _) _ _; first | refine T_cmp ?_ | refine T_not ?_ | refine T_val ?_) | (show W _ _ (truthy _) _ _; refine t_bool ?_) | (show W _ _ (compareOp _ _ _) _ _; first | refine o_ge ?_ | refine o_eqsn ?_ | refine o_eqnn ?_ | refine o_isNot (by with_unfolding_all rfl) ?_) | (show if _ = true then _ else _; first | refine ite_f ‹_› ?_ | refine ite_t ‹_› ?_ | refine ite_f (by decide +kernel) ?_ | refine ite_t (by decide +kernel) ?_ | refine ite_f (by with_unfolding_all rfl) ?_ | refine ite_t (by with_unfolding_all rfl) ?_) | (show Sq _ _ _ _ _ _ _; first | refine sq_next ?_ | refine sq_ret ?_) | (show W _ _ (getAttr _ _ _) _ _; first | refine gx_eof ‹_› ‹_› ‹_› ‹_› ?_ | refine gx_pushback ‹_› ‹_› ‹_› ‹_› ?_ | (refine gx_debug ‹_› ‹_› ‹_› ‹_› ?_; intro _) | refine gx_filestack ‹_› ‹_› ‹_› ‹_› ?_ | refine gx_source ‹_› ‹_› ‹_› ‹_› ?_))
    exact k' _ _ _ pre₂ (fun b o hb q => S₄.keep b o (kp b o hb q)) S₄.get0 S₄.get1 hall₂ hO₂ hY₂
  · have k' := k t₂
    rw [if_neg z] at k' ⊢
    repeat (with_reducible first | (show W _ _ (eval (.Name _ _) _) _ _; first | refine ld683_self ‹_› ?_ | refine ld683_raw ‹_› ?_) | (show W _ _ (eval _ _) _ _; first | refine W_attr ?_ | (refine W_int ?_; intro _) | refine W_none ?_) | (show W _ _ (execs _ _) _ _; first | refine W_asg ?_ | refine W_if ?_ | refine W_ret ?_ | refine W_nil ?_) | (show W _ _ (storeName _ _ _) _ _; (refine st683_raw ‹_› ?_; intro _ _ _)) | (show W _ _ (isTrue _ _ _) _ _; first | refine T_cmp ?_ | refine T_not ?_ | refine T_val ?_) | (show W _ _ (truthy _) _ _; refine t_bool ?_) | (show W _ _ (compareOp _ _ _) _ _; first | refine o_ge ?_ | refine o_eqsn ?_ | refine o_eqnn ?_ | refine o_isNot (by with_unfolding_all rfl) ?_) | (show if _ = true then _ else _; first | refine ite_f ‹_› ?_ | refine ite_t ‹_› ?_ | refine ite_f (by decide +kernel) ?_ | refine ite_t (by decide +kernel) ?_ | refine ite_f (by with_unfolding_all rfl) ?_ | refine ite_t (by with_unfolding_all rfl) ?_) | (show Sq _ _ _ _ _ _ _; first | refine sq_next ?_ | refine sq_ret ?_) | (show W _ _ (getAttr _ _ _) _ _; first | refine gx_eof ‹_› ‹_› ‹_› ‹_› ?_ | refine gx_pushback ‹_› ‹_› ‹_› ‹_› ?_ | (refine gx_debug ‹_› ‹_› ‹_› ‹_› ?_; intro _) | refine gx_filestack ‹_› ‹_› ‹_› ‹_› ?_ | refine gx_source ‹_› ‹_› ‹_› ‹_› ?_))
    rename St _ _ _ _ _ => S₃
    with_reducible refine W_while (fun n h' => n = 0 ∧ St g' L h' _ [(dx, ox₂), (dy, oy₂)]) 0 ⟨rfl, S₃⟩ ?_
    clear S S₃
    rintro n h₄ ⟨rfl, S₄⟩
    repeat (with_reducible first | (show W _ _ (eval (.Name _ _) _) _ _; first | refine ld683_self ‹_› ?_ | refine ld683_raw ‹_› ?_) | (show W _ _ (eval _ _) _ _; first | refine W_attr ?_ | (refine W_int ?_; intro _) | refine W_none ?_) | (show W _ _ (execs _ _) _ _; first | refine W_asg ?_ | refine W_if ?_ | refine W_ret ?_ | refine W_nil ?_) | (show W _ _ (storeName _ _ _) _ _; (refine st683_raw ‹_› ?_; intro _ _ _)) | (show W _ _ (isTrue _ _ _) _ _; first | refine T_cmp ?_ | refine T_not ?_ | refine T_val ?_) | (show W _ _ (truthy _) _ _; refine t_bool ?_) | (show W _ _ (compareOp _ _ _) _ _; first | refine o_ge ?_ | refine o_eqsn ?_ | refine o_eqnn ?_ | refine o_isNot (by with_unfolding_all rfl) ?_) | (show if _ = true then _ else _; first | refine ite_f ‹_› ?_ | refine ite_t ‹_› ?_ | refine ite_f (by decide +kernel) ?_ | refine ite_t (by decide +kernel) ?_ | refine ite_f (by with_unfolding_all rfl) ?_ | refine ite_t (by with_unfolding_all rfl) ?_) | (show Sq _ _ _ _ _ _ _; first | refine sq_next ?_ | refine sq_ret ?_) | (show W _ _ (getAttr _ _ _) _ _; first | refine gx_eof ‹_› ‹_› ‹_› ‹_› ?_ | refine gx_pushback ‹_› ‹_› ‹_› ‹_› ?_ | (refine gx_debug ‹_› ‹_› ‹_› ‹_› ?_; intro _) | refine gx_filestack ‹_› ‹_› ‹_› ‹_› ?_ | refine gx_source ‹_› ‹_› ‹_› ‹_› ?_))
    exact k' _ _ _ pre₂ (fun b o hb q => S₄.keep b o (kp b o hb q)) S₄.get0 S₄.get1 hall₂ hO₂ hY₂
end
/-! ### making a StringIO: its class has a __new__ of its own -/
noncomputable abbrev s_cls : Str := ⟨⟨[nat_lit 99, nat_lit 108, nat_lit 115]⟩⟩
noncomputable abbrev s_args : Str := ⟨⟨[nat_lit 97, nat_lit 114, nat_lit 103, nat_lit 115]⟩⟩
noncomputable abbrev s_kwargs : Str := ⟨⟨[nat_lit 107, nat_lit 119, nat_lit 97, nat_lit 114, nat_lit 103, nat_lit 115]⟩⟩
noncomputable abbrev env80 (L : Addr) : Env := callEnv fd80 L 80
noncomputable abbrev ns80 : List Str := [s_cls, s_args, s_kwargs]
theorem bind80 (u0 u1 : Value) : bindArgs fd80 ⟨[u0, u1], []⟩ = (newTuple [u1] >>= fun T => alloc emptyDict >>= fun d => pure [(s_cls, u0), (s_args, T), (s_kwargs, .ref d)]) := by kernel_rfl
section
variable {w : World} {A : Around} {h g : Heap} {P : Value → Heap → Prop} {L : Addr} {m : Str → Option Value} {mu : List (Addr × Obj)} {v : Value} {pos : Pos}
theorem ld80_cls {v1 v2 : Option Value} (S : St g L h (frL ns80 [some v, v1, v2]) mu) (p : P v h) : W w A (eval (.Name s_cls pos) (env80 L)) h P := W_nameL S rfl (by kernel_rfl) (by kernel_rfl) (by kernel_rfl) (by kernel_rfl) p
theorem gl80_BytesIO (G : Gr w g) (S : St g L h m mu) (p : P (.ref 340) h) : W w A (eval (.Name s_BytesIO pos) (env80 L)) h P := W_nameG G S.keep rfl (by kernel_rfl) (by kernel_rfl) (by kernel_rfl) (by kernel_rfl) p
theorem gl80_StringIO (G : Gr w g) (S : St g L h m mu) (p : P (.ref 587) h) : W w A (eval (.Name s_StringIO pos) (env80 L)) h P := W_nameG G S.keep rfl (by kernel_rfl) (by kernel_rfl) (by kernel_rfl) (by kernel_rfl) p
theorem gl80_object (G : Gr w g) (S : St g L h m mu) (p : P (.type "object") h) : W w A (eval (.Name s_object pos) (env80 L)) h P := W_nameB G S.keep rfl rfl (by kernel_rfl) (by kernel_rfl) (by kernel_rfl) (by kernel_rfl) nn_object bb_object p
theorem en80 {u0 u1 : Value} (G : Gr w h) (hA : A.depth < 900)
    (H : ∀ L h₁ T D, h.objs.size ≤ L → St h L h₁ (frL ns80 [some u0, some T, some D]) [] → W w (A.deeper (env80 L)) (execs (fnBod (mtAt 6 1)) (env80 L)) h₁ fun fl h' => P (retOf fl) h') :
    WC w A (.call (.ref 80) ⟨[u0, u1], []⟩) h P := fun s hs => by
  subst hs
  refine codeAny_call_function (fd := fd80) (body := fnBod (mtAt 6 1)) (Nat.lt_trans hA (by decide)) (o := o80 w.params) (G.k 80 _ (by kernel_rfl)) rfl (by kernel_rfl) (by kernel_rfl) rfl (codeRec_of G.k (by kernel_rfl)) ?_
  rw [bind80]
  refine wpAny_bind (wpAny_newObj_type ?_ (by show 1 ≤ sizeLine; rw [sizeLine_eq]; decide))
  refine wpAny_bind (wpAny_alloc (wpAny_pure ?_))
  refine wpAny_newFunctionEnv (fun y hy => ?_) (fun y hy => ?_) (fun h₀ hns₀ hsb₀ => ⟨?_, codeAny_func ?_⟩) (by kernel_rfl)
  · have : fd80.scope.names.all (fun y => y.2 != .cell) = true := by kernel_rfl
    have := List.all_eq_true.mp this y hy
    intro q; rw [q] at this; cases this
  · have : [s_cls, s_args, s_kwargs].all (fun y => fd80.scope.names.lookup y == some .local) = true := by kernel_rfl
    have := List.all_eq_true.mp this y.1 (by simp only [List.mem_cons, List.not_mem_nil, or_false] at hy ⊢; rcases hy with rfl | rfl | rfl <;> simp)
    simpa using this
  · exact (G.lim.keeps fun b o e => Heap.get?_push_of_some _ (Heap.get?_push_of_some _ e)).fresh _ hsb₀
  · have ef := frL_binds (ns := ns80) (as := [u0, .ref s.heap.objs.size, .ref (s.heap.push { cls := .type "tuple", data := .seq [u1].toArray }).objs.size]) (rest := []) (by decide) rfl
    have hz : s.heap.objs.size ≤ ((s.heap.push { cls := .type "tuple", data := .seq [u1].toArray }).push emptyDict).objs.size := by rw [Heap.size_push, Heap.size_push]; omega
    have x1 : Ext s.heap h₀ := fun b o e => hsb₀.extBut b o (Nat.ne_of_lt (Nat.lt_of_lt_of_le (Heap.lt_size e) hz)) (Heap.get?_push_of_some _ (Heap.get?_push_of_some _ (Heap.get?_push_of_some _ e)))
    refine W.run (H _ h₀ _ _ hz ⟨ef ▸ hns₀, x1, get_above hz, (fun _ hp => nomatch hp), List.nodup_nil⟩) rfl (s₀ := s) ⟨rfl, rfl, rfl⟩ fun fl s' l p => ?_
    exact ⟨l, by cases fl <;> exact p⟩
/-- object.__new__(StringIO) -/
theorem lk_chk (w : World) : peek (kK w.params) ⟨pw, w.params⟩ (checkBuiltinCall "object.__new__" ⟨[.ref 587], []⟩) = some () := by kernel_rfl
theorem lk_here (w : World) : peek (kK w.params) ⟨pw, w.params⟩ (Bind.madeHere "object.__new__" (.ref 587)) = some () := by kernel_rfl
theorem lk_type (w : World) : peek (kK w.params) ⟨pw, w.params⟩ (isType (.ref 587)) = some true := by kernel_rfl
theorem new587 (X : (kK w.params).In h) (p : P (.ref (h.objs.size + 1)) ((h.push emptyDict).push (instObj 587 h.objs.size))) : W w A (call (.builtin "object.__new__") [.ref 587]) h P := fun s hs => by
  subst hs
  have t0 : Looks (model pw w) s.heap (checkBuiltinCall "object.__new__" ⟨[.ref 587], []⟩) () := Looks.of_peek X (lk_chk w)
  refine wpAny_call (codeAny_call_builtin_code (Code.quiet_builtin _ F.objNew.quiet) ?_)
  with_reducible refine Looks.here t0 ?_
  refine codeAny_builtin F.objNew.entry ?_
  unfold Builtin.«object.__new__»
  have t1 : Looks (model pw w) s.heap (isType (.ref 587)) true := Looks.of_peek X (lk_type w)
  have t2 : Looks (model pw w) s.heap (Bind.madeHere "object.__new__" (.ref 587)) () := Looks.of_peek X (lk_here w)
  have hC : s.heap.get? 587 = some (o587 w.params) := X 587 _ (by kernel_rfl)
  obtain ⟨h, g, d, t, os⟩ := s
  repeat lk
  refine nd_load (Heap.get?_push_of_some _ (Heap.get?_push_of_some _ hC)) ?_
  show wpAny _ _ (pure _) _ _ _
  refine wpAny_pure ?_
  show wpAny _ _ (pure false) _ _ _
  refine wpAny_pure ?_
  rw [if_neg (by decide)]
  refine wpAny_pure (wpAny_pure ?_)
  show Like _ _ ∧ P _ _
  rw [Heap.size_push]
  exact ⟨⟨rfl, rfl, rfl⟩, p⟩
theorem mt_new {pl : Sem Bool} {Q : Value × List Value → Heap → Prop} (X : (kK w.params).In h) (k : Q (.builtin "object.__new__", []) h) : W w A (getMethod (.type "object") s___new__ pl) h Q := fun s hs => by
  subst hs
  have hstub : opaqueClassAbove (.type "object") = pure none := by kernel_rfl
  have L0 : Looks (model pw w) s.heap (typeOf (.type "object")) (.type "type") := Looks.of_pure (by kernel_rfl)
  have hg : findIn (kK w.params) (.type "type") "__getattribute__" = some (some (.builtin "type.__getattribute__")) := type_tga
  unfold getMethod specialOf
  refine wpAny_bind (wpAny_bind (L0.here ((looks_findIn X hg).here ?_)))
  dsimp only
  rw [if_pos canon_tga]
  refine wpAny_bind (wpAny_mono (Q := fun v s' => Like s s' ∧ Q (v, []) s'.heap) (E := fun _ _ => False) ?_ (fun _ _ z => wpAny_pure z) fun _ _ z => z)
  have LO : Looks (model pw w) s.heap (opaqueClassAbove (.type "object")) none := Looks.of_pure hstub
  refine cls_open X LO L0 hg (looks_hook X (r := none) (by rfl)) (by show subIn _ _ _ = _; rfl) (show findCls (kK w.params) (.type "object") (.type "type") s___new__ = some (.val (.builtin "object.__new__")) from by kernel_rfl)
    (wpAny_pure (by show wpAny _ _ (handedOut _) _ _ _; rw [handedOut_of (by decide +kernel)]; exact wpAny_pure ⟨⟨rfl, rfl, rfl⟩, k⟩))
theorem o_isNotC {A : Around} (X : (kK w.params).In h) (p : P (.bool true) h) : W w A (compareOp .IsNot (.ref 587) (.ref 340)) h P := fun s hs => by
  subst hs
  exact wpAny_isNot_ref_other (by decide) (X 587 (o587 w.params) (by kernel_rfl)) (X 340 (o340 w.params) (by kernel_rfl)) (show (Value.type "type") ≠ .type "tuple" from by decide) ⟨.rfl', p⟩
theorem o_isNotR {A : Around} {x : Addr} (p : P (.bool false) h) : W w A (compareOp .IsNot (.ref x) (.ref x)) h P := fun s hs => wpAny_isNot_ref_self ⟨.rfl', hs ▸ p⟩
theorem c80 {u1 : Value} (G : Gr w h) (hA : A.depth < 900) (k : ∀ h' x dx, Ext h h' → h'.get? x = some (instObj 587 dx) → h'.get? dx = some emptyDict → h.get? x = none → h.get? dx = none → x ≠ dx → P (.ref x) h') :
    WC w A (.call (.ref 80) ⟨[.ref 587, u1], []⟩) h P := by
  refine en80 G hA ?_
  intro L h₁ T D hL S
  refine W_if ?_
  repeat (with_reducible first | (show W _ _ (eval (.Name _ _) _) _ _; first | refine ld80_cls ‹_› ?_ | refine gl80_BytesIO ‹_› ‹_› ?_ | refine gl80_StringIO ‹_› ‹_› ?_ | refine gl80_object ‹_› ‹_› ?_) | (show W _ _ (eval _ _) _ _; refine W_attr ?_) | (show W _ _ (execs _ _) _ _; first | refine W_if ?_ | refine W_ret ?_ | refine W_nil ?_) | (show W _ _ (isTrue _ _ _) _ _; first | refine T_cmp ?_ | refine T_bool ?_ | refine T_val ?_) | (show W _ _ (allTrue _ _ _) _ _; first | refine T_and ?_ | refine T_andNil ?_) | (show W _ _ (truthy _) _ _; refine t_bool ?_) | (show W _ _ (spliced _) _ _; first | refine W_sp ?_ | refine W_sp0 ?_) | (show W _ _ (callWith _ _ _ _ _) _ _; first | refine W_cwT ?_ | refine W_cwB ?_ | refine W_cwB1 ?_ | refine W_cwT0 ?_ | refine W_cwB0 ?_) | (show if _ = true then _ else _; first | refine ite_f (by with_unfolding_all rfl) ?_ | refine ite_t (by with_unfolding_all rfl) ?_) | (show Sq _ _ _ _ _ _ _; first | refine sq_next ?_ | refine sq_ret ?_))
  with_reducible refine o_isNotC (G.keeps S.keep).k ?_
  repeat (with_reducible first | (show W _ _ (eval (.Name _ _) _) _ _; first | refine ld80_cls ‹_› ?_ | refine gl80_BytesIO ‹_› ‹_› ?_ | refine gl80_StringIO ‹_› ‹_› ?_ | refine gl80_object ‹_› ‹_› ?_) | (show W _ _ (eval _ _) _ _; refine W_attr ?_) | (show W _ _ (execs _ _) _ _; first | refine W_if ?_ | refine W_ret ?_ | refine W_nil ?_) | (show W _ _ (isTrue _ _ _) _ _; first | refine T_cmp ?_ | refine T_bool ?_ | refine T_val ?_) | (show W _ _ (allTrue _ _ _) _ _; first | refine T_and ?_ | refine T_andNil ?_) | (show W _ _ (truthy _) _ _; refine t_bool ?_) | (show W _ _ (spliced _) _ _; first | refine W_sp ?_ | refine W_sp0 ?_) | (show W _ _ (callWith _ _ _ _ _) _ _; first | refine W_cwT ?_ | refine W_cwB ?_ | refine W_cwB1 ?_ | refine W_cwT0 ?_ | refine W_cwB0 ?_) | (show if _ = true then _ else _; first | refine ite_f (by with_unfolding_all rfl) ?_ | refine ite_t (by with_unfolding_all rfl) ?_) | (show Sq _ _ _ _ _ _ _; first | refine sq_next ?_ | refine sq_ret ?_))
  with_reducible refine o_isNotR ?_
  repeat (with_reducible first | (show W _ _ (eval (.Name _ _) _) _ _; first | refine ld80_cls ‹_› ?_ | refine gl80_BytesIO ‹_› ‹_› ?_ | refine gl80_StringIO ‹_› ‹_› ?_ | refine gl80_object ‹_› ‹_› ?_) | (show W _ _ (eval _ _) _ _; refine W_attr ?_) | (show W _ _ (execs _ _) _ _; first | refine W_if ?_ | refine W_ret ?_ | refine W_nil ?_) | (show W _ _ (isTrue _ _ _) _ _; first | refine T_cmp ?_ | refine T_bool ?_ | refine T_val ?_) | (show W _ _ (allTrue _ _ _) _ _; first | refine T_and ?_ | refine T_andNil ?_) | (show W _ _ (truthy _) _ _; refine t_bool ?_) | (show W _ _ (spliced _) _ _; first | refine W_sp ?_ | refine W_sp0 ?_) | (show W _ _ (callWith _ _ _ _ _) _ _; first | refine W_cwT ?_ | refine W_cwB ?_ | refine W_cwB1 ?_ | refine W_cwT0 ?_ | refine W_cwB0 ?_) | (show if _ = true then _ else _; first | refine ite_f (by with_unfolding_all rfl) ?_ | refine ite_t (by with_unfolding_all rfl) ?_) | (show Sq _ _ _ _ _ _ _; first | refine sq_next ?_ | refine sq_ret ?_))
  with_reducible refine W_callM ?_
  repeat (with_reducible first | (show W _ _ (eval (.Name _ _) _) _ _; first | refine ld80_cls ‹_› ?_ | refine gl80_BytesIO ‹_› ‹_› ?_ | refine gl80_StringIO ‹_› ‹_› ?_ | refine gl80_object ‹_› ‹_› ?_) | (show W _ _ (eval _ _) _ _; refine W_attr ?_) | (show W _ _ (execs _ _) _ _; first | refine W_if ?_ | refine W_ret ?_ | refine W_nil ?_) | (show W _ _ (isTrue _ _ _) _ _; first | refine T_cmp ?_ | refine T_bool ?_ | refine T_val ?_) | (show W _ _ (allTrue _ _ _) _ _; first | refine T_and ?_ | refine T_andNil ?_) | (show W _ _ (truthy _) _ _; refine t_bool ?_) | (show W _ _ (spliced _) _ _; first | refine W_sp ?_ | refine W_sp0 ?_) | (show W _ _ (callWith _ _ _ _ _) _ _; first | refine W_cwT ?_ | refine W_cwB ?_ | refine W_cwB1 ?_ | refine W_cwT0 ?_ | refine W_cwB0 ?_) | (show if _ = true then _ else _; first | refine ite_f (by with_unfolding_all rfl) ?_ | refine ite_t (by with_unfolding_all rfl) ?_) | (show Sq _ _ _ _ _ _ _; first | refine sq_next ?_ | refine sq_ret ?_))
  with_reducible refine mt_new (G.keeps S.keep).k ?_
  repeat (with_reducible first | (show W _ _ (eval (.Name _ _) _) _ _; first | refine ld80_cls ‹_› ?_ | refine gl80_BytesIO ‹_› ‹_› ?_ | refine gl80_StringIO ‹_› ‹_› ?_ | refine gl80_object ‹_› ‹_› ?_) | (show W _ _ (eval _ _) _ _; refine W_attr ?_) | (show W _ _ (execs _ _) _ _; first | refine W_if ?_ | refine W_ret ?_ | refine W_nil ?_) | (show W _ _ (isTrue _ _ _) _ _; first | refine T_cmp ?_ | refine T_bool ?_ | refine T_val ?_) | (show W _ _ (allTrue _ _ _) _ _; first | refine T_and ?_ | refine T_andNil ?_) | (show W _ _ (truthy _) _ _; refine t_bool ?_) | (show W _ _ (spliced _) _ _; first | refine W_sp ?_ | refine W_sp0 ?_) | (show W _ _ (callWith _ _ _ _ _) _ _; first | refine W_cwT ?_ | refine W_cwB ?_ | refine W_cwB1 ?_ | refine W_cwT0 ?_ | refine W_cwB0 ?_) | (show if _ = true then _ else _; first | refine ite_f (by with_unfolding_all rfl) ?_ | refine ite_t (by with_unfolding_all rfl) ?_) | (show Sq _ _ _ _ _ _ _; first | refine sq_next ?_ | refine sq_ret ?_))
  with_reducible refine new587 (G.keeps S.keep).k ?_
  refine k _ _ h₁.objs.size (fun b o e => Heap.get?_push_of_some _ (Heap.get?_push_of_some _ (S.keep b o e))) (Heap.get?_push_at (by rw [Heap.size_push]) rfl) (Heap.get?_push_of_some _ (Heap.get?_push_size _ rfl)) ?_ ?_ (Nat.succ_ne_self _)
  · exact S.gsize _ (by omega)
  · exact S.gsize _ (Nat.le_refl _)
end
section
variable {w : World} {A : Around} {P : Value → Heap → Prop} {h : Heap} {g : Array GenState} {d : Drawn} {t : Nat} {os : OsState} {R : Result → Shared → Prop}
theorem lk_made (w : World) : peek (kK w.params) ⟨pw, w.params⟩ (Bind.madeBy (.ref 587)) = some none := by kernel_rfl
theorem ga_new {Q : Value → Shared → Prop} {E : Value → Shared → Prop} {s : Shared} (X : (kK w.params).In s.heap) (h : Q (.ref 80) { s with toks := s.toks + 1 }) : wpAny (model pw w) A (getAttr (.ref 587) "__new__") Q E s :=
  cls_bind X (mc := .type "type") (by kernel_rfl) (show findCls (kK w.params) (.ref 587) (.type "type") "__new__" = some (.get (.builtin "staticmethod.__get__") (.ref 84) .none (.ref 587)) from by kernel_rfl) (wpAny_call (sm_get (s := { s with toks := s.toks + 1 }) (p := 84) (f := .ref 80) (rest := []) X (by kernel_rfl) (handed_on rfl h)))
theorem make587 {x : Str} {tk : Tok} (G : Gr w h) (hA : A.depth < 800)
    (hq : ∀ h₁ y dy t₁, Ext h h₁ → h₁.get? y = some (instObj 587 dy) → h₁.get? dy = some emptyDict → h.get? y = none → h.get? dy = none → y ≠ dy →
      codeAny (model pw w) (A.under (.builtin "type.__call__" ⟨[.ref 587, .str x tk], []⟩)) (.call (.ref 357) ⟨[.ref y, .str x tk], []⟩) (InitBack y R) ⟨h₁, g, d, t₁, os⟩) :
    codeAny (model pw w) A (.call (.ref 587) ⟨[.str x tk], []⟩) R ⟨h, g, d, t, os⟩ := by
  have X := G.k
  have hC : h.get? 587 = some (o587 w.params) := X 587 _ (by kernel_rfl)
  have call : Looks (model pw w) h (specialOf (.ref 587) "__call__") (some (.builtin "type.__call__")) := looks_specialIn X (by kernel_rfl)
  have typ : Looks (model pw w) h (isInstance (.ref 587) (.type "type")) true := looks_instIn X (by kernel_rfl)
  refine codeAny_of_tree ?_
  show wpAny _ _ (callAny (.ref 587) _) _ _ _
  refine nd_load hC ?_
  show wpAny _ _ (callAny.viaDunder (.ref 587) _) _ _ _
  unfold callAny.viaDunder
  refine wpAny_bind (call.at ?_)
  dsimp only
  rw [tc_bind]
  refine wpAny_bind (wpAny_pure (wpAny_bind (wpAny_pure ?_)))
  refine wpAny_pure (a := Fin.again (.call (.builtin "type.__call__") ⟨[.ref 587, .str x tk], []⟩)) (And.intro rfl ?_)
  refine codeAny_call_builtin_at (Code.quiet_builtin _ (by decide +kernel)) entry_typeCall (check_slot tc_kind tc_split typ (tc_args _ _ _) ?_)
  unfold Builtin.«type.__call__»
  have hm : Looks (model pw w) h (mroOf (.ref 587)) [.ref 587, .ref 110, .ref 83, .type "object"] := ((Looks.ld (part := none) hC).andThen .now).andThen .now
  have made : Looks (model pw w) h (Bind.madeBy (.ref 587)) none := Looks.of_peek X (lk_made w)
  repeat (first | simp only [Bool.false_eq_true, if_false] | with_reducible refine ga_new X ?_ | with_reducible refine wpAny_call ?_ | lk)
  refine WC.run (c80 (P := fun v h' => ∃ y dy, v = .ref y ∧ Ext h h' ∧ h'.get? y = some (instObj 587 dy) ∧ h'.get? dy = some emptyDict ∧ h.get? y = none ∧ h.get? dy = none ∧ y ≠ dy) G ?_ fun h' y dy a1 a2 a3 a4 a5 a6 => ⟨y, dy, rfl, a1, a2, a3, a4, a5, a6⟩)
    rfl (s₀ := ⟨h, g, d, t, os⟩) ⟨rfl, rfl, rfl⟩ fun v s' l p => ?_
  · show A.depth + _ < 900
    have : (Code.builtin "type.__call__" ⟨[.ref 587, .str x tk], []⟩).weight ≤ 5 := by show (1 : Nat) ≤ 5; decide
    omega
  obtain ⟨y, dy, rfl, k, hy, hdy, ny, ndy, hne⟩ := p
  obtain ⟨h₁, g₁, d₁, t₁, os₁⟩ := s'
  obtain ⟨rfl, rfl, rfl⟩ := l
  have self : Looks (model pw w) h (isSubtype (.ref 587) (.ref 587)) true := looks_mroIn X (by kernel_rfl)
  have hi : Looks (model pw w) h (typeLookup (.ref 587) "__init__") (some (.ref 357)) := looks_findIn X (by kernel_rfl)
  have hb : ∀ self, Looks (model pw w) h (bindSpecial (.ref 357) self) (.ref 357, [self]) := fun self => bind_fn X self (by kernel_rfl)
  have t1 : Looks (model pw w) h₁ (typeOf (.ref y)) (.ref 587) := (Looks.ld hy).andThen .now
  have s1 := self.keeps k
  have i1 := hi.keeps k
  have b1 := (hb (.ref y)).keeps k
  unfold isInstance callSpecial? specialOf
  repeat (first | with_reducible refine wpAny_call ?_ | lk)
  refine codeAny_mono (hq h₁ y dy t₁ k hy hdy ny ndy hne) fun r s' z => ?_
  rcases r with e | (v | _ | _ | _) <;> first | exact z | exact z.elim | skip
  obtain ⟨rfl, z⟩ := z
  exact wpAny_pure (wpAny_pure z)
end
section
variable {w : World} {A : Around} {h g : Heap} {P : Value → Heap → Prop} {L x dx : Addr} {m : Str → Option Value} {r : List (Addr × Obj)} {od : Obj} {ex : Bool} {U : Unit → Heap → Prop} {v u : Value} {k : Nat}
theorem ixn_instream {v1 v2 v3 v4 v5 v6 v7 v8 v9 v10 v11 v12 v13 v14 v15 v16 v17 v18 : Option Value} (G : Gr w g) (S : St g L h m ((dx, od) :: r)) (hx : g.get? x = some (instObj 722 dx)) (N : NsO od (frL lexNs [none, v1, v2, v3, v4, v5, v6, v7, v8, v9, v10, v11, v12, v13, v14, v15, v16, v17, v18]) k) (hk : k < 800)
    (p : ∀ h' od', St g L h' m ((dx, od') :: r) → NsO od' (frL lexNs [some v, v1, v2, v3, v4, v5, v6, v7, v8, v9, v10, v11, v12, v13, v14, v15, v16, v17, v18]) (k + 1) → U () h') : W w A (setAttr (.ref x) s_instream v) h U := by
  refine W_set S (G.keeps S.keep).k (S.keep _ _ hx) S.get0 (S.mus _ (.head _)).2.1 N (by omega) (by kernel_rfl) (by kernel_rfl) (by kernel_rfl) (by kernel_rfl) fun h' od' e N' kp n => p h' od' (S.turned0 e kp n) ?_
  rw [frL_set 0 rfl (by simp) (by decide +kernel)] at N'
  exact N'
theorem ixn_infile {v0 v2 v3 v4 v5 v6 v7 v8 v9 v10 v11 v12 v13 v14 v15 v16 v17 v18 : Option Value} (G : Gr w g) (S : St g L h m ((dx, od) :: r)) (hx : g.get? x = some (instObj 722 dx)) (N : NsO od (frL lexNs [v0, none, v2, v3, v4, v5, v6, v7, v8, v9, v10, v11, v12, v13, v14, v15, v16, v17, v18]) k) (hk : k < 800)
    (p : ∀ h' od', St g L h' m ((dx, od') :: r) → NsO od' (frL lexNs [v0, some v, v2, v3, v4, v5, v6, v7, v8, v9, v10, v11, v12, v13, v14, v15, v16, v17, v18]) (k + 1) → U () h') : W w A (setAttr (.ref x) s_infile v) h U := by
  refine W_set S (G.keeps S.keep).k (S.keep _ _ hx) S.get0 (S.mus _ (.head _)).2.1 N (by omega) (by kernel_rfl) (by kernel_rfl) (by kernel_rfl) (by kernel_rfl) fun h' od' e N' kp n => p h' od' (S.turned0 e kp n) ?_
  rw [frL_set 1 rfl (by simp) (by decide +kernel)] at N'
  exact N'
theorem ixn_posix {v0 v1 v3 v4 v5 v6 v7 v8 v9 v10 v11 v12 v13 v14 v15 v16 v17 v18 : Option Value} (G : Gr w g) (S : St g L h m ((dx, od) :: r)) (hx : g.get? x = some (instObj 722 dx)) (N : NsO od (frL lexNs [v0, v1, none, v3, v4, v5, v6, v7, v8, v9, v10, v11, v12, v13, v14, v15, v16, v17, v18]) k) (hk : k < 800)
    (p : ∀ h' od', St g L h' m ((dx, od') :: r) → NsO od' (frL lexNs [v0, v1, some v, v3, v4, v5, v6, v7, v8, v9, v10, v11, v12, v13, v14, v15, v16, v17, v18]) (k + 1) → U () h') : W w A (setAttr (.ref x) s_posix v) h U := by
  refine W_set S (G.keeps S.keep).k (S.keep _ _ hx) S.get0 (S.mus _ (.head _)).2.1 N (by omega) (by kernel_rfl) (by kernel_rfl) (by kernel_rfl) (by kernel_rfl) fun h' od' e N' kp n => p h' od' (S.turned0 e kp n) ?_
  rw [frL_set 2 rfl (by simp) (by decide +kernel)] at N'
  exact N'
theorem ixn_eof {v0 v1 v2 v4 v5 v6 v7 v8 v9 v10 v11 v12 v13 v14 v15 v16 v17 v18 : Option Value} (G : Gr w g) (S : St g L h m ((dx, od) :: r)) (hx : g.get? x = some (instObj 722 dx)) (N : NsO od (frL lexNs [v0, v1, v2, none, v4, v5, v6, v7, v8, v9, v10, v11, v12, v13, v14, v15, v16, v17, v18]) k) (hk : k < 800)
    (p : ∀ h' od', St g L h' m ((dx, od') :: r) → NsO od' (frL lexNs [v0, v1, v2, some v, v4, v5, v6, v7, v8, v9, v10, v11, v12, v13, v14, v15, v16, v17, v18]) (k + 1) → U () h') : W w A (setAttr (.ref x) s_eof v) h U := by
  refine W_set S (G.keeps S.keep).k (S.keep _ _ hx) S.get0 (S.mus _ (.head _)).2.1 N (by omega) (by kernel_rfl) (by kernel_rfl) (by kernel_rfl) (by kernel_rfl) fun h' od' e N' kp n => p h' od' (S.turned0 e kp n) ?_
  rw [frL_set 3 rfl (by simp) (by decide +kernel)] at N'
  exact N'
theorem ixn_commenters {v0 v1 v2 v3 v5 v6 v7 v8 v9 v10 v11 v12 v13 v14 v15 v16 v17 v18 : Option Value} (G : Gr w g) (S : St g L h m ((dx, od) :: r)) (hx : g.get? x = some (instObj 722 dx)) (N : NsO od (frL lexNs [v0, v1, v2, v3, none, v5, v6, v7, v8, v9, v10, v11, v12, v13, v14, v15, v16, v17, v18]) k) (hk : k < 800)
    (p : ∀ h' od', St g L h' m ((dx, od') :: r) → NsO od' (frL lexNs [v0, v1, v2, v3, some v, v5, v6, v7, v8, v9, v10, v11, v12, v13, v14, v15, v16, v17, v18]) (k + 1) → U () h') : W w A (setAttr (.ref x) s_commenters v) h U := by
  refine W_set S (G.keeps S.keep).k (S.keep _ _ hx) S.get0 (S.mus _ (.head _)).2.1 N (by omega) (by kernel_rfl) (by kernel_rfl) (by kernel_rfl) (by kernel_rfl) fun h' od' e N' kp n => p h' od' (S.turned0 e kp n) ?_
  rw [frL_set 4 rfl (by simp) (by decide +kernel)] at N'
  exact N'
theorem ixn_wordchars {v0 v1 v2 v3 v4 v6 v7 v8 v9 v10 v11 v12 v13 v14 v15 v16 v17 v18 : Option Value} (G : Gr w g) (S : St g L h m ((dx, od) :: r)) (hx : g.get? x = some (instObj 722 dx)) (N : NsO od (frL lexNs [v0, v1, v2, v3, v4, none, v6, v7, v8, v9, v10, v11, v12, v13, v14, v15, v16, v17, v18]) k) (hk : k < 800)
    (p : ∀ h' od', St g L h' m ((dx, od') :: r) → NsO od' (frL lexNs [v0, v1, v2, v3, v4, some v, v6, v7, v8, v9, v10, v11, v12, v13, v14, v15, v16, v17, v18]) (k + 1) → U () h') : W w A (setAttr (.ref x) s_wordchars v) h U := by
  refine W_set S (G.keeps S.keep).k (S.keep _ _ hx) S.get0 (S.mus _ (.head _)).2.1 N (by omega) (by kernel_rfl) (by kernel_rfl) (by kernel_rfl) (by kernel_rfl) fun h' od' e N' kp n => p h' od' (S.turned0 e kp n) ?_
  rw [frL_set 5 rfl (by simp) (by decide +kernel)] at N'
  exact N'
theorem ixs_wordchars {v0 v1 v2 v3 v4 v6 v7 v8 v9 v10 v11 v12 v13 v14 v15 v16 v17 v18 : Option Value} (G : Gr w g) (S : St g L h m ((dx, od) :: r)) (hx : g.get? x = some (instObj 722 dx)) (N : NsO od (frL lexNs [v0, v1, v2, v3, v4, some u, v6, v7, v8, v9, v10, v11, v12, v13, v14, v15, v16, v17, v18]) k) (hk : k < 800)
    (p : ∀ h' od', St g L h' m ((dx, od') :: r) → NsO od' (frL lexNs [v0, v1, v2, v3, v4, some v, v6, v7, v8, v9, v10, v11, v12, v13, v14, v15, v16, v17, v18]) k → U () h') : W w A (setAttr (.ref x) s_wordchars v) h U := by
  refine W_set S (G.keeps S.keep).k (S.keep _ _ hx) S.get0 (S.mus _ (.head _)).2.1 N (by omega) (by kernel_rfl) (by kernel_rfl) (by kernel_rfl) (by kernel_rfl) fun h' od' e N' kp n => p h' od' (S.turned0 e kp n) ?_
  rw [frL_set 5 rfl (by simp) (by decide +kernel)] at N'
  exact N'
theorem ixn_whitespace {v0 v1 v2 v3 v4 v5 v7 v8 v9 v10 v11 v12 v13 v14 v15 v16 v17 v18 : Option Value} (G : Gr w g) (S : St g L h m ((dx, od) :: r)) (hx : g.get? x = some (instObj 722 dx)) (N : NsO od (frL lexNs [v0, v1, v2, v3, v4, v5, none, v7, v8, v9, v10, v11, v12, v13, v14, v15, v16, v17, v18]) k) (hk : k < 800)
    (p : ∀ h' od', St g L h' m ((dx, od') :: r) → NsO od' (frL lexNs [v0, v1, v2, v3, v4, v5, some v, v7, v8, v9, v10, v11, v12, v13, v14, v15, v16, v17, v18]) (k + 1) → U () h') : W w A (setAttr (.ref x) s_whitespace v) h U := by
  refine W_set S (G.keeps S.keep).k (S.keep _ _ hx) S.get0 (S.mus _ (.head _)).2.1 N (by omega) (by kernel_rfl) (by kernel_rfl) (by kernel_rfl) (by kernel_rfl) fun h' od' e N' kp n => p h' od' (S.turned0 e kp n) ?_
  rw [frL_set 6 rfl (by simp) (by decide +kernel)] at N'
  exact N'
theorem ixn_whitespace_split {v0 v1 v2 v3 v4 v5 v6 v8 v9 v10 v11 v12 v13 v14 v15 v16 v17 v18 : Option Value} (G : Gr w g) (S : St g L h m ((dx, od) :: r)) (hx : g.get? x = some (instObj 722 dx)) (N : NsO od (frL lexNs [v0, v1, v2, v3, v4, v5, v6, none, v8, v9, v10, v11, v12, v13, v14, v15, v16, v17, v18]) k) (hk : k < 800)
    (p : ∀ h' od', St g L h' m ((dx, od') :: r) → NsO od' (frL lexNs [v0, v1, v2, v3, v4, v5, v6, some v, v8, v9, v10, v11, v12, v13, v14, v15, v16, v17, v18]) (k + 1) → U () h') : W w A (setAttr (.ref x) s_whitespace_split v) h U := by
  refine W_set S (G.keeps S.keep).k (S.keep _ _ hx) S.get0 (S.mus _ (.head _)).2.1 N (by omega) (by kernel_rfl) (by kernel_rfl) (by kernel_rfl) (by kernel_rfl) fun h' od' e N' kp n => p h' od' (S.turned0 e kp n) ?_
  rw [frL_set 7 rfl (by simp) (by decide +kernel)] at N'
  exact N'
theorem ixn_quotes {v0 v1 v2 v3 v4 v5 v6 v7 v9 v10 v11 v12 v13 v14 v15 v16 v17 v18 : Option Value} (G : Gr w g) (S : St g L h m ((dx, od) :: r)) (hx : g.get? x = some (instObj 722 dx)) (N : NsO od (frL lexNs [v0, v1, v2, v3, v4, v5, v6, v7, none, v9, v10, v11, v12, v13, v14, v15, v16, v17, v18]) k) (hk : k < 800)
    (p : ∀ h' od', St g L h' m ((dx, od') :: r) → NsO od' (frL lexNs [v0, v1, v2, v3, v4, v5, v6, v7, some v, v9, v10, v11, v12, v13, v14, v15, v16, v17, v18]) (k + 1) → U () h') : W w A (setAttr (.ref x) s_quotes v) h U := by
  refine W_set S (G.keeps S.keep).k (S.keep _ _ hx) S.get0 (S.mus _ (.head _)).2.1 N (by omega) (by kernel_rfl) (by kernel_rfl) (by kernel_rfl) (by kernel_rfl) fun h' od' e N' kp n => p h' od' (S.turned0 e kp n) ?_
  rw [frL_set 8 rfl (by simp) (by decide +kernel)] at N'
  exact N'
theorem ixn_escape {v0 v1 v2 v3 v4 v5 v6 v7 v8 v10 v11 v12 v13 v14 v15 v16 v17 v18 : Option Value} (G : Gr w g) (S : St g L h m ((dx, od) :: r)) (hx : g.get? x = some (instObj 722 dx)) (N : NsO od (frL lexNs [v0, v1, v2, v3, v4, v5, v6, v7, v8, none, v10, v11, v12, v13, v14, v15, v16, v17, v18]) k) (hk : k < 800)
    (p : ∀ h' od', St g L h' m ((dx, od') :: r) → NsO od' (frL lexNs [v0, v1, v2, v3, v4, v5, v6, v7, v8, some v, v10, v11, v12, v13, v14, v15, v16, v17, v18]) (k + 1) → U () h') : W w A (setAttr (.ref x) s_escape v) h U := by
  refine W_set S (G.keeps S.keep).k (S.keep _ _ hx) S.get0 (S.mus _ (.head _)).2.1 N (by omega) (by kernel_rfl) (by kernel_rfl) (by kernel_rfl) (by kernel_rfl) fun h' od' e N' kp n => p h' od' (S.turned0 e kp n) ?_
  rw [frL_set 9 rfl (by simp) (by decide +kernel)] at N'
  exact N'
theorem ixn_escapedquotes {v0 v1 v2 v3 v4 v5 v6 v7 v8 v9 v11 v12 v13 v14 v15 v16 v17 v18 : Option Value} (G : Gr w g) (S : St g L h m ((dx, od) :: r)) (hx : g.get? x = some (instObj 722 dx)) (N : NsO od (frL lexNs [v0, v1, v2, v3, v4, v5, v6, v7, v8, v9, none, v11, v12, v13, v14, v15, v16, v17, v18]) k) (hk : k < 800)
    (p : ∀ h' od', St g L h' m ((dx, od') :: r) → NsO od' (frL lexNs [v0, v1, v2, v3, v4, v5, v6, v7, v8, v9, some v, v11, v12, v13, v14, v15, v16, v17, v18]) (k + 1) → U () h') : W w A (setAttr (.ref x) s_escapedquotes v) h U := by
  refine W_set S (G.keeps S.keep).k (S.keep _ _ hx) S.get0 (S.mus _ (.head _)).2.1 N (by omega) (by kernel_rfl) (by kernel_rfl) (by kernel_rfl) (by kernel_rfl) fun h' od' e N' kp n => p h' od' (S.turned0 e kp n) ?_
  rw [frL_set 10 rfl (by simp) (by decide +kernel)] at N'
  exact N'
theorem ixn_state {v0 v1 v2 v3 v4 v5 v6 v7 v8 v9 v10 v12 v13 v14 v15 v16 v17 v18 : Option Value} (G : Gr w g) (S : St g L h m ((dx, od) :: r)) (hx : g.get? x = some (instObj 722 dx)) (N : NsO od (frL lexNs [v0, v1, v2, v3, v4, v5, v6, v7, v8, v9, v10, none, v12, v13, v14, v15, v16, v17, v18]) k) (hk : k < 800)
    (p : ∀ h' od', St g L h' m ((dx, od') :: r) → NsO od' (frL lexNs [v0, v1, v2, v3, v4, v5, v6, v7, v8, v9, v10, some v, v12, v13, v14, v15, v16, v17, v18]) (k + 1) → U () h') : W w A (setAttr (.ref x) s_state v) h U := by
  refine W_set S (G.keeps S.keep).k (S.keep _ _ hx) S.get0 (S.mus _ (.head _)).2.1 N (by omega) (by kernel_rfl) (by kernel_rfl) (by kernel_rfl) (by kernel_rfl) fun h' od' e N' kp n => p h' od' (S.turned0 e kp n) ?_
  rw [frL_set 11 rfl (by simp) (by decide +kernel)] at N'
  exact N'
theorem ixn_pushback {v0 v1 v2 v3 v4 v5 v6 v7 v8 v9 v10 v11 v13 v14 v15 v16 v17 v18 : Option Value} (G : Gr w g) (S : St g L h m ((dx, od) :: r)) (hx : g.get? x = some (instObj 722 dx)) (N : NsO od (frL lexNs [v0, v1, v2, v3, v4, v5, v6, v7, v8, v9, v10, v11, none, v13, v14, v15, v16, v17, v18]) k) (hk : k < 800)
    (p : ∀ h' od', St g L h' m ((dx, od') :: r) → NsO od' (frL lexNs [v0, v1, v2, v3, v4, v5, v6, v7, v8, v9, v10, v11, some v, v13, v14, v15, v16, v17, v18]) (k + 1) → U () h') : W w A (setAttr (.ref x) s_pushback v) h U := by
  refine W_set S (G.keeps S.keep).k (S.keep _ _ hx) S.get0 (S.mus _ (.head _)).2.1 N (by omega) (by kernel_rfl) (by kernel_rfl) (by kernel_rfl) (by kernel_rfl) fun h' od' e N' kp n => p h' od' (S.turned0 e kp n) ?_
  rw [frL_set 12 rfl (by simp) (by decide +kernel)] at N'
  exact N'
theorem ixn_lineno {v0 v1 v2 v3 v4 v5 v6 v7 v8 v9 v10 v11 v12 v14 v15 v16 v17 v18 : Option Value} (G : Gr w g) (S : St g L h m ((dx, od) :: r)) (hx : g.get? x = some (instObj 722 dx)) (N : NsO od (frL lexNs [v0, v1, v2, v3, v4, v5, v6, v7, v8, v9, v10, v11, v12, none, v14, v15, v16, v17, v18]) k) (hk : k < 800)
    (p : ∀ h' od', St g L h' m ((dx, od') :: r) → NsO od' (frL lexNs [v0, v1, v2, v3, v4, v5, v6, v7, v8, v9, v10, v11, v12, some v, v14, v15, v16, v17, v18]) (k + 1) → U () h') : W w A (setAttr (.ref x) s_lineno v) h U := by
  refine W_set S (G.keeps S.keep).k (S.keep _ _ hx) S.get0 (S.mus _ (.head _)).2.1 N (by omega) (by kernel_rfl) (by kernel_rfl) (by kernel_rfl) (by kernel_rfl) fun h' od' e N' kp n => p h' od' (S.turned0 e kp n) ?_
  rw [frL_set 13 rfl (by simp) (by decide +kernel)] at N'
  exact N'
theorem ixn_debug {v0 v1 v2 v3 v4 v5 v6 v7 v8 v9 v10 v11 v12 v13 v15 v16 v17 v18 : Option Value} (G : Gr w g) (S : St g L h m ((dx, od) :: r)) (hx : g.get? x = some (instObj 722 dx)) (N : NsO od (frL lexNs [v0, v1, v2, v3, v4, v5, v6, v7, v8, v9, v10, v11, v12, v13, none, v15, v16, v17, v18]) k) (hk : k < 800)
    (p : ∀ h' od', St g L h' m ((dx, od') :: r) → NsO od' (frL lexNs [v0, v1, v2, v3, v4, v5, v6, v7, v8, v9, v10, v11, v12, v13, some v, v15, v16, v17, v18]) (k + 1) → U () h') : W w A (setAttr (.ref x) s_debug v) h U := by
  refine W_set S (G.keeps S.keep).k (S.keep _ _ hx) S.get0 (S.mus _ (.head _)).2.1 N (by omega) (by kernel_rfl) (by kernel_rfl) (by kernel_rfl) (by kernel_rfl) fun h' od' e N' kp n => p h' od' (S.turned0 e kp n) ?_
  rw [frL_set 14 rfl (by simp) (by decide +kernel)] at N'
  exact N'
theorem ixn_token {v0 v1 v2 v3 v4 v5 v6 v7 v8 v9 v10 v11 v12 v13 v14 v16 v17 v18 : Option Value} (G : Gr w g) (S : St g L h m ((dx, od) :: r)) (hx : g.get? x = some (instObj 722 dx)) (N : NsO od (frL lexNs [v0, v1, v2, v3, v4, v5, v6, v7, v8, v9, v10, v11, v12, v13, v14, none, v16, v17, v18]) k) (hk : k < 800)
    (p : ∀ h' od', St g L h' m ((dx, od') :: r) → NsO od' (frL lexNs [v0, v1, v2, v3, v4, v5, v6, v7, v8, v9, v10, v11, v12, v13, v14, some v, v16, v17, v18]) (k + 1) → U () h') : W w A (setAttr (.ref x) s_token v) h U := by
  refine W_set S (G.keeps S.keep).k (S.keep _ _ hx) S.get0 (S.mus _ (.head _)).2.1 N (by omega) (by kernel_rfl) (by kernel_rfl) (by kernel_rfl) (by kernel_rfl) fun h' od' e N' kp n => p h' od' (S.turned0 e kp n) ?_
  rw [frL_set 15 rfl (by simp) (by decide +kernel)] at N'
  exact N'
theorem ixn_filestack {v0 v1 v2 v3 v4 v5 v6 v7 v8 v9 v10 v11 v12 v13 v14 v15 v17 v18 : Option Value} (G : Gr w g) (S : St g L h m ((dx, od) :: r)) (hx : g.get? x = some (instObj 722 dx)) (N : NsO od (frL lexNs [v0, v1, v2, v3, v4, v5, v6, v7, v8, v9, v10, v11, v12, v13, v14, v15, none, v17, v18]) k) (hk : k < 800)
    (p : ∀ h' od', St g L h' m ((dx, od') :: r) → NsO od' (frL lexNs [v0, v1, v2, v3, v4, v5, v6, v7, v8, v9, v10, v11, v12, v13, v14, v15, some v, v17, v18]) (k + 1) → U () h') : W w A (setAttr (.ref x) s_filestack v) h U := by
  refine W_set S (G.keeps S.keep).k (S.keep _ _ hx) S.get0 (S.mus _ (.head _)).2.1 N (by omega) (by kernel_rfl) (by kernel_rfl) (by kernel_rfl) (by kernel_rfl) fun h' od' e N' kp n => p h' od' (S.turned0 e kp n) ?_
  rw [frL_set 16 rfl (by simp) (by decide +kernel)] at N'
  exact N'
theorem ixn_source {v0 v1 v2 v3 v4 v5 v6 v7 v8 v9 v10 v11 v12 v13 v14 v15 v16 v18 : Option Value} (G : Gr w g) (S : St g L h m ((dx, od) :: r)) (hx : g.get? x = some (instObj 722 dx)) (N : NsO od (frL lexNs [v0, v1, v2, v3, v4, v5, v6, v7, v8, v9, v10, v11, v12, v13, v14, v15, v16, none, v18]) k) (hk : k < 800)
    (p : ∀ h' od', St g L h' m ((dx, od') :: r) → NsO od' (frL lexNs [v0, v1, v2, v3, v4, v5, v6, v7, v8, v9, v10, v11, v12, v13, v14, v15, v16, some v, v18]) (k + 1) → U () h') : W w A (setAttr (.ref x) s_source v) h U := by
  refine W_set S (G.keeps S.keep).k (S.keep _ _ hx) S.get0 (S.mus _ (.head _)).2.1 N (by omega) (by kernel_rfl) (by kernel_rfl) (by kernel_rfl) (by kernel_rfl) fun h' od' e N' kp n => p h' od' (S.turned0 e kp n) ?_
  rw [frL_set 17 rfl (by simp) (by decide +kernel)] at N'
  exact N'
theorem ixn__punctuation_chars {v0 v1 v2 v3 v4 v5 v6 v7 v8 v9 v10 v11 v12 v13 v14 v15 v16 v17 : Option Value} (G : Gr w g) (S : St g L h m ((dx, od) :: r)) (hx : g.get? x = some (instObj 722 dx)) (N : NsO od (frL lexNs [v0, v1, v2, v3, v4, v5, v6, v7, v8, v9, v10, v11, v12, v13, v14, v15, v16, v17, none]) k) (hk : k < 800)
    (p : ∀ h' od', St g L h' m ((dx, od') :: r) → NsO od' (frL lexNs [v0, v1, v2, v3, v4, v5, v6, v7, v8, v9, v10, v11, v12, v13, v14, v15, v16, v17, some v]) (k + 1) → U () h') : W w A (setAttr (.ref x) s__punctuation_chars v) h U := by
  refine W_set S (G.keeps S.keep).k (S.keep _ _ hx) S.get0 (S.mus _ (.head _)).2.1 N (by omega) (by kernel_rfl) (by kernel_rfl) (by kernel_rfl) (by kernel_rfl) fun h' od' e N' kp n => p h' od' (S.turned0 e kp n) ?_
  rw [frL_set 18 rfl (by simp) (by decide +kernel)] at N'
  exact N'
theorem isn__StringIO__newline {v1 v2 : Option Value} (G : Gr w g) (S : St g L h m ((dx, od) :: r)) (hx : g.get? x = some (instObj 587 dx)) (N : NsO od (frL sioNs [none, v1, v2]) k) (hk : k < 800)
    (p : ∀ h' od', St g L h' m ((dx, od') :: r) → NsO od' (frL sioNs [some v, v1, v2]) (k + 1) → U () h') : W w A (setAttr (.ref x) s__StringIO__newline v) h U := by
  refine W_set S (G.keeps S.keep).k (S.keep _ _ hx) S.get0 (S.mus _ (.head _)).2.1 N (by omega) (by kernel_rfl) (by kernel_rfl) (by kernel_rfl) (by kernel_rfl) fun h' od' e N' kp n => p h' od' (S.turned0 e kp n) ?_
  rw [frL_set 0 rfl (by simp) (by decide +kernel)] at N'
  exact N'
theorem isn__StringIO__buf {v0 v2 : Option Value} (G : Gr w g) (S : St g L h m ((dx, od) :: r)) (hx : g.get? x = some (instObj 587 dx)) (N : NsO od (frL sioNs [v0, none, v2]) k) (hk : k < 800)
    (p : ∀ h' od', St g L h' m ((dx, od') :: r) → NsO od' (frL sioNs [v0, some v, v2]) (k + 1) → U () h') : W w A (setAttr (.ref x) s__StringIO__buf v) h U := by
  refine W_set S (G.keeps S.keep).k (S.keep _ _ hx) S.get0 (S.mus _ (.head _)).2.1 N (by omega) (by kernel_rfl) (by kernel_rfl) (by kernel_rfl) (by kernel_rfl) fun h' od' e N' kp n => p h' od' (S.turned0 e kp n) ?_
  rw [frL_set 1 rfl (by simp) (by decide +kernel)] at N'
  exact N'
theorem iss__StringIO__buf {v0 v2 : Option Value} (G : Gr w g) (S : St g L h m ((dx, od) :: r)) (hx : g.get? x = some (instObj 587 dx)) (N : NsO od (frL sioNs [v0, some u, v2]) k) (hk : k < 800)
    (p : ∀ h' od', St g L h' m ((dx, od') :: r) → NsO od' (frL sioNs [v0, some v, v2]) k → U () h') : W w A (setAttr (.ref x) s__StringIO__buf v) h U := by
  refine W_set S (G.keeps S.keep).k (S.keep _ _ hx) S.get0 (S.mus _ (.head _)).2.1 N (by omega) (by kernel_rfl) (by kernel_rfl) (by kernel_rfl) (by kernel_rfl) fun h' od' e N' kp n => p h' od' (S.turned0 e kp n) ?_
  rw [frL_set 1 rfl (by simp) (by decide +kernel)] at N'
  exact N'
theorem isn__StringIO__pos {v0 v1 : Option Value} (G : Gr w g) (S : St g L h m ((dx, od) :: r)) (hx : g.get? x = some (instObj 587 dx)) (N : NsO od (frL sioNs [v0, v1, none]) k) (hk : k < 800)
    (p : ∀ h' od', St g L h' m ((dx, od') :: r) → NsO od' (frL sioNs [v0, v1, some v]) (k + 1) → U () h') : W w A (setAttr (.ref x) s__StringIO__pos v) h U := by
  refine W_set S (G.keeps S.keep).k (S.keep _ _ hx) S.get0 (S.mus _ (.head _)).2.1 N (by omega) (by kernel_rfl) (by kernel_rfl) (by kernel_rfl) (by kernel_rfl) fun h' od' e N' kp n => p h' od' (S.turned0 e kp n) ?_
  rw [frL_set 2 rfl (by simp) (by decide +kernel)] at N'
  exact N'
end
section
variable {w : World} {A : Around} {h g : Heap} {P : Value → Heap → Prop} {L y dy : Addr} {m : Str → Option Value} {r : List (Addr × Obj)} {od : Obj} {x : Str} {p : Nat} {t : Tok}
theorem ms_translated {pl : Sem Bool} {Q : Value × List Value → Heap → Prop} (G : Gr w g) (S : St g L h m ((dy, od) :: r)) (hy : g.get? y = some (instObj 587 dy)) (hO : SioO od x p) (k : Q (.ref 364, [.ref y]) h) : W w A (getMethod (.ref y) s__StringIO__translated pl) h Q := by
  obtain ⟨t1, t2, t3, N⟩ := hO
  exact W_meth (G.keeps S.keep).k (S.keep _ _ hy) S.get0 N (by kernel_rfl) (by kernel_rfl) (by kernel_rfl) (by kernel_rfl) k
theorem c364 {z : Str} (G : Gr w g) (e : Ext g h) (hy : g.get? y = some (instObj 587 dy)) (hd : h.get? dy = some od) (gd : g.get? dy = none) (hO : SioO od z p) (hA : A.depth < 900) (k : ∀ h', Ext h h' → P (.str x t) h') :
    WC w A (.call (.ref 364) ⟨[.ref y, .str x t], []⟩) h P := by
  obtain ⟨g', G', e1, e2, gd', kp⟩ := hideL G e [dy] (fun a ha => by rw [List.mem_singleton.mp ha]; exact gd)
  have hy' := e1 _ _ hy
  clear G e hy
  refine en364 (mu := [(dy, od)]) G' e2 (fun q hq => by cases List.mem_singleton.mp hq; exact ⟨hd, gd' _ (.head _)⟩) (by simp) hA ?_
  intro L h₁ hL S x₁
  refine W_asg ?_
  repeat (with_reducible first | (show W _ _ (eval (.Name _ _) _) _ _; first | refine ld364_self ‹_› ?_ | refine ld364_s ‹_› ?_ | refine ld364_newline ‹_› ?_) | (show W _ _ (eval _ _) _ _; first | refine W_attr ?_ | (refine W_str ?_; intro _) | refine W_none ?_) | (show W _ _ (execs _ _) _ _; first | refine W_asg ?_ | refine W_if ?_ | refine W_ret ?_ | refine W_nil ?_) | (show W _ _ (storeName _ _ _) _ _; (refine st364_newline ‹_› ?_; intro _ _ _)) | (show W _ _ (isTrue _ _ _) _ _; first | refine T_cmp ?_ | refine T_bool ?_) | (show W _ _ (allTrue _ _ _) _ _; first | refine T_or ?_ | refine T_orNil ?_) | (show W _ _ (truthy _) _ _; refine t_bool ?_) | (show W _ _ (compareOp _ _ _) _ _; first | refine o_eqs ?_ | refine o_is (by with_unfolding_all rfl) ?_) | (show if _ = true then _ else _; refine ite_f (by with_unfolding_all rfl) ?_) | (show Sq _ _ _ _ _ _ _; refine sq_next ?_) | (show W _ _ (getAttr _ _ _) _ _; (refine gs_nl ‹_› ‹_› ‹_› ‹_› ?_; intro _)))
  rename St _ _ _ _ _ => S₂
  refine k _ fun b o q => ?_
  by_cases z : b = dy
  · rw [z] at q ⊢; rw [hd] at q; cases q; exact S₂.get0
  · exact S₂.keep b o (kp b o (by simpa using z) q)
theorem nsO_sio : NsO emptyDict (frL sioNs [none, none, none]) 0 := by
  have e : frL sioNs [none, none, none] = fun _ => none := by
    funext y
    simp only [frL]
    (repeat' split) <;> rfl
  rw [e]
  exact NsO.new
theorem c357 (G : Gr w g) (e : Ext g h) (hy : g.get? y = some (instObj 587 dy)) (hd : h.get? dy = some emptyDict) (gd : g.get? dy = none) (hA : A.depth < 890) (k : ∀ h' od', ExtB [dy] h h' → h'.get? dy = some od' → SioO od' x 0 → P .none h') :
    WC w A (.call (.ref 357) ⟨[.ref y, .str x t], []⟩) h P := by
  obtain ⟨g', G', e1, e2, gd', kp⟩ := hideL G e [dy] (fun a ha => by rw [List.mem_singleton.mp ha]; exact gd)
  have hy' := e1 _ _ hy
  clear G e hy
  refine en357d (mu := [(dy, emptyDict)]) G' e2 (fun q hq => by cases List.mem_singleton.mp hq; exact ⟨hd, gd' _ (.head _)⟩) (by simp) (by omega) ?_
  intro L h₁ hL S x₁
  refine W_if ?_
  repeat (with_reducible first | (show W _ _ (eval (.Name _ _) _) _ _; first | refine ld357_self ‹_› ?_ | refine ld357_initial_value ‹_› ?_ | refine ld357_newline ‹_› ?_ | refine gl357_type ‹_› ‹_› ?_ | refine gl357_str ‹_› ‹_› ?_) | (show W _ _ (eval _ _) _ _; first | (refine W_int ?_; intro _) | (refine W_str ?_; intro _) | refine W_none ?_ | refine W_callN ?_) | (show W _ _ (execs _ _) _ _; first | refine W_if ?_ | refine W_nil ?_ | refine W_asgAttr ?_) | (show W _ _ (isTrue _ _ _) _ _; first | refine T_cmp ?_ | refine T_bool ?_) | (show W _ _ (allTrue _ _ _) _ _; refine T_and ?_) | (show W _ _ (truthy _) _ _; refine t_bool ?_) | (show W _ _ (spliced _) _ _; first | refine W_sp ?_ | refine W_sp0 ?_) | (show W _ _ (compareOp _ _ _) _ _; first | refine o_nes ?_ | refine o_isNot (by with_unfolding_all rfl) ?_) | (show W _ _ (callWith _ _ _ _ _) _ _; refine W_cwT ?_) | (show W _ _ (call _ _ _) _ _; refine c_typeStr ?_) | (show if _ = true then _ else _; first | refine ite_f (by with_unfolding_all rfl) ?_ | refine ite_t (by with_unfolding_all rfl) ?_) | (show Sq _ _ _ _ _ _ _; refine sq_next ?_))
  with_reducible refine isn__StringIO__newline G' (by assumption) hy' nsO_sio (by decide) ?_
  intro h₂ od₂ S₂ N₂
  repeat (with_reducible first | (show W _ _ (eval (.Name _ _) _) _ _; first | refine ld357_self ‹_› ?_ | refine ld357_initial_value ‹_› ?_ | refine ld357_newline ‹_› ?_ | refine gl357_type ‹_› ‹_› ?_ | refine gl357_str ‹_› ‹_› ?_) | (show W _ _ (eval _ _) _ _; first | (refine W_int ?_; intro _) | (refine W_str ?_; intro _) | refine W_none ?_ | refine W_callN ?_) | (show W _ _ (execs _ _) _ _; first | refine W_if ?_ | refine W_nil ?_ | refine W_asgAttr ?_) | (show W _ _ (isTrue _ _ _) _ _; first | refine T_cmp ?_ | refine T_bool ?_) | (show W _ _ (allTrue _ _ _) _ _; refine T_and ?_) | (show W _ _ (truthy _) _ _; refine t_bool ?_) | (show W _ _ (spliced _) _ _; first | refine W_sp ?_ | refine W_sp0 ?_) | (show W _ _ (compareOp _ _ _) _ _; first | refine o_nes ?_ | refine o_isNot (by with_unfolding_all rfl) ?_) | (show W _ _ (callWith _ _ _ _ _) _ _; refine W_cwT ?_) | (show W _ _ (call _ _ _) _ _; refine c_typeStr ?_) | (show if _ = true then _ else _; first | refine ite_f (by with_unfolding_all rfl) ?_ | refine ite_t (by with_unfolding_all rfl) ?_) | (show Sq _ _ _ _ _ _ _; refine sq_next ?_))
  with_reducible refine isn__StringIO__buf G' (by assumption) hy' N₂ (by decide) ?_
  intro h₃ od₃ S₃ N₃
  repeat (with_reducible first | (show W _ _ (eval (.Name _ _) _) _ _; first | refine ld357_self ‹_› ?_ | refine ld357_initial_value ‹_› ?_ | refine ld357_newline ‹_› ?_ | refine gl357_type ‹_› ‹_› ?_ | refine gl357_str ‹_› ‹_› ?_) | (show W _ _ (eval _ _) _ _; first | (refine W_int ?_; intro _) | (refine W_str ?_; intro _) | refine W_none ?_ | refine W_callN ?_) | (show W _ _ (execs _ _) _ _; first | refine W_if ?_ | refine W_nil ?_ | refine W_asgAttr ?_) | (show W _ _ (isTrue _ _ _) _ _; first | refine T_cmp ?_ | refine T_bool ?_) | (show W _ _ (allTrue _ _ _) _ _; refine T_and ?_) | (show W _ _ (truthy _) _ _; refine t_bool ?_) | (show W _ _ (spliced _) _ _; first | refine W_sp ?_ | refine W_sp0 ?_) | (show W _ _ (compareOp _ _ _) _ _; first | refine o_nes ?_ | refine o_isNot (by with_unfolding_all rfl) ?_) | (show W _ _ (callWith _ _ _ _ _) _ _; refine W_cwT ?_) | (show W _ _ (call _ _ _) _ _; refine c_typeStr ?_) | (show if _ = true then _ else _; first | refine ite_f (by with_unfolding_all rfl) ?_ | refine ite_t (by with_unfolding_all rfl) ?_) | (show Sq _ _ _ _ _ _ _; refine sq_next ?_))
  with_reducible refine isn__StringIO__pos G' (by assumption) hy' N₃ (by decide) ?_
  intro h₄ od₄ S₄ N₄
  have O₄ : SioO od₄ t_44 0 := ⟨_, _, _, N₄⟩
  repeat (with_reducible first | (show W _ _ (eval (.Name _ _) _) _ _; first | refine ld357_self ‹_› ?_ | refine ld357_initial_value ‹_› ?_ | refine ld357_newline ‹_› ?_ | refine gl357_type ‹_› ‹_› ?_ | refine gl357_str ‹_› ‹_› ?_) | (show W _ _ (eval _ _) _ _; first | (refine W_int ?_; intro _) | (refine W_str ?_; intro _) | refine W_none ?_ | refine W_callN ?_) | (show W _ _ (execs _ _) _ _; first | refine W_if ?_ | refine W_nil ?_ | refine W_asgAttr ?_) | (show W _ _ (isTrue _ _ _) _ _; first | refine T_cmp ?_ | refine T_bool ?_) | (show W _ _ (allTrue _ _ _) _ _; refine T_and ?_) | (show W _ _ (truthy _) _ _; refine t_bool ?_) | (show W _ _ (spliced _) _ _; first | refine W_sp ?_ | refine W_sp0 ?_) | (show W _ _ (compareOp _ _ _) _ _; first | refine o_nes ?_ | refine o_isNot (by with_unfolding_all rfl) ?_) | (show W _ _ (callWith _ _ _ _ _) _ _; refine W_cwT ?_) | (show W _ _ (call _ _ _) _ _; refine c_typeStr ?_) | (show if _ = true then _ else _; first | refine ite_f (by with_unfolding_all rfl) ?_ | refine ite_t (by with_unfolding_all rfl) ?_) | (show Sq _ _ _ _ _ _ _; refine sq_next ?_))
  with_reducible refine W_callM ?_
  repeat (with_reducible first | (show W _ _ (eval (.Name _ _) _) _ _; first | refine ld357_self ‹_› ?_ | refine ld357_initial_value ‹_› ?_ | refine ld357_newline ‹_› ?_ | refine gl357_type ‹_› ‹_› ?_ | refine gl357_str ‹_› ‹_› ?_) | (show W _ _ (eval _ _) _ _; first | (refine W_int ?_; intro _) | (refine W_str ?_; intro _) | refine W_none ?_ | refine W_callN ?_) | (show W _ _ (execs _ _) _ _; first | refine W_if ?_ | refine W_nil ?_ | refine W_asgAttr ?_) | (show W _ _ (isTrue _ _ _) _ _; first | refine T_cmp ?_ | refine T_bool ?_) | (show W _ _ (allTrue _ _ _) _ _; refine T_and ?_) | (show W _ _ (truthy _) _ _; refine t_bool ?_) | (show W _ _ (spliced _) _ _; first | refine W_sp ?_ | refine W_sp0 ?_) | (show W _ _ (compareOp _ _ _) _ _; first | refine o_nes ?_ | refine o_isNot (by with_unfolding_all rfl) ?_) | (show W _ _ (callWith _ _ _ _ _) _ _; refine W_cwT ?_) | (show W _ _ (call _ _ _) _ _; refine c_typeStr ?_) | (show if _ = true then _ else _; first | refine ite_f (by with_unfolding_all rfl) ?_ | refine ite_t (by with_unfolding_all rfl) ?_) | (show Sq _ _ _ _ _ _ _; refine sq_next ?_))
  with_reducible refine ms_translated G' (by assumption) hy' O₄ ?_
  with_reducible refine W_cw1 (by kernel_rfl) ?_
  repeat (with_reducible first | (show W _ _ (eval (.Name _ _) _) _ _; first | refine ld357_self ‹_› ?_ | refine ld357_initial_value ‹_› ?_ | refine ld357_newline ‹_› ?_ | refine gl357_type ‹_› ‹_› ?_ | refine gl357_str ‹_› ‹_› ?_) | (show W _ _ (eval _ _) _ _; first | (refine W_int ?_; intro _) | (refine W_str ?_; intro _) | refine W_none ?_ | refine W_callN ?_) | (show W _ _ (execs _ _) _ _; first | refine W_if ?_ | refine W_nil ?_ | refine W_asgAttr ?_) | (show W _ _ (isTrue _ _ _) _ _; first | refine T_cmp ?_ | refine T_bool ?_) | (show W _ _ (allTrue _ _ _) _ _; refine T_and ?_) | (show W _ _ (truthy _) _ _; refine t_bool ?_) | (show W _ _ (spliced _) _ _; first | refine W_sp ?_ | refine W_sp0 ?_) | (show W _ _ (compareOp _ _ _) _ _; first | refine o_nes ?_ | refine o_isNot (by with_unfolding_all rfl) ?_) | (show W _ _ (callWith _ _ _ _ _) _ _; refine W_cwT ?_) | (show W _ _ (call _ _ _) _ _; refine c_typeStr ?_) | (show if _ = true then _ else _; first | refine ite_f (by with_unfolding_all rfl) ?_ | refine ite_t (by with_unfolding_all rfl) ?_) | (show Sq _ _ _ _ _ _ _; refine sq_next ?_))
  refine ⟨(G'.keeps S₄.keep).k, ?_⟩
  refine (c364 G' S₄.keep hy' S₄.get0 (gd' _ (.head _)) O₄ (by show A.depth + 1 < 900; omega) ?_).call
  intro h₅ x₅
  have S₅ := S₄.ext x₅
  repeat (with_reducible first | (show W _ _ (eval (.Name _ _) _) _ _; first | refine ld357_self ‹_› ?_ | refine ld357_initial_value ‹_› ?_ | refine ld357_newline ‹_› ?_ | refine gl357_type ‹_› ‹_› ?_ | refine gl357_str ‹_› ‹_› ?_) | (show W _ _ (eval _ _) _ _; first | (refine W_int ?_; intro _) | (refine W_str ?_; intro _) | refine W_none ?_ | refine W_callN ?_) | (show W _ _ (execs _ _) _ _; first | refine W_if ?_ | refine W_nil ?_ | refine W_asgAttr ?_) | (show W _ _ (isTrue _ _ _) _ _; first | refine T_cmp ?_ | refine T_bool ?_) | (show W _ _ (allTrue _ _ _) _ _; refine T_and ?_) | (show W _ _ (truthy _) _ _; refine t_bool ?_) | (show W _ _ (spliced _) _ _; first | refine W_sp ?_ | refine W_sp0 ?_) | (show W _ _ (compareOp _ _ _) _ _; first | refine o_nes ?_ | refine o_isNot (by with_unfolding_all rfl) ?_) | (show W _ _ (callWith _ _ _ _ _) _ _; refine W_cwT ?_) | (show W _ _ (call _ _ _) _ _; refine c_typeStr ?_) | (show if _ = true then _ else _; first | refine ite_f (by with_unfolding_all rfl) ?_ | refine ite_t (by with_unfolding_all rfl) ?_) | (show Sq _ _ _ _ _ _ _; refine sq_next ?_))
  with_reducible refine iss__StringIO__buf G' (by assumption) hy' N₄ (by decide) ?_
  intro h₆ od₆ S₆ N₆
  repeat (with_reducible first | (show W _ _ (eval (.Name _ _) _) _ _; first | refine ld357_self ‹_› ?_ | refine ld357_initial_value ‹_› ?_ | refine ld357_newline ‹_› ?_ | refine gl357_type ‹_› ‹_› ?_ | refine gl357_str ‹_› ‹_› ?_) | (show W _ _ (eval _ _) _ _; first | (refine W_int ?_; intro _) | (refine W_str ?_; intro _) | refine W_none ?_ | refine W_callN ?_) | (show W _ _ (execs _ _) _ _; first | refine W_if ?_ | refine W_nil ?_ | refine W_asgAttr ?_) | (show W _ _ (isTrue _ _ _) _ _; first | refine T_cmp ?_ | refine T_bool ?_) | (show W _ _ (allTrue _ _ _) _ _; refine T_and ?_) | (show W _ _ (truthy _) _ _; refine t_bool ?_) | (show W _ _ (spliced _) _ _; first | refine W_sp ?_ | refine W_sp0 ?_) | (show W _ _ (compareOp _ _ _) _ _; first | refine o_nes ?_ | refine o_isNot (by with_unfolding_all rfl) ?_) | (show W _ _ (callWith _ _ _ _ _) _ _; refine W_cwT ?_) | (show W _ _ (call _ _ _) _ _; refine c_typeStr ?_) | (show if _ = true then _ else _; first | refine ite_f (by with_unfolding_all rfl) ?_ | refine ite_t (by with_unfolding_all rfl) ?_) | (show Sq _ _ _ _ _ _ _; refine sq_next ?_))
  exact k _ od₆ (fun b o z q => S₆.keep b o (kp b o z q)) S₆.get0 ⟨_, _, _, N₆⟩
/-- a StringIO is made -/
theorem mk587 (G : Gr w h) (hA : A.depth < 800) (k : ∀ h' y dy od', Ext h h' → h'.get? y = some (instObj 587 dy) → h'.get? dy = some od' → SioO od' x 0 → h.get? y = none → h.get? dy = none → y ≠ dy → P (.ref y) h') :
    WC w A (.call (.ref 587) ⟨[.str x t], []⟩) h P := fun s hs => by
  subst hs
  obtain ⟨h, g, d, t', os⟩ := s
  refine make587 G hA fun h₁ y dy t₁ e hy hdy ny ndy hne => ?_
  obtain ⟨g', G', e1, e2, gd', kp⟩ := hideL (G.keeps e) (Ext.refl h₁) [] (fun a ha => nomatch ha)
  refine WC.run (c357 (P := fun v h' => v = .none ∧ ∃ od', Ext h h' ∧ h'.get? y = some (instObj 587 dy) ∧ h'.get? dy = some od' ∧ SioO od' x 0) (h := h₁) (g := hideAll h₁ [dy]) ?_ (fun b o q => of_hideAll _ q) (hideAll_get _ hy (by simpa using hne)) hdy (hideAll_none _ (.head _)) ?_ fun h' od' x' hd' hO => ⟨rfl, od', ?_, ?_, hd', hO⟩)
    rfl (s₀ := ⟨h, g, d, t', os⟩) ⟨rfl, rfl, rfl⟩ fun v s' l p => ?_
  · exact G.keeps fun b o q => hideAll_get _ (e b o q) (fun z => by rw [List.mem_singleton.mp z] at q; rw [ndy] at q; cases q)
  · have : (Code.builtin "type.__call__" ⟨[.ref 587, .str x t], []⟩).weight ≤ 5 := by show (1 : Nat) ≤ 5; decide
    show A.depth + _ < 890
    omega
  · exact fun b o q => x' b o (fun z => by rw [List.mem_singleton.mp z] at q; rw [ndy] at q; cases q) (e b o q)
  · exact x' _ _ (by simpa using hne) hy
  · obtain ⟨rfl, od', a1, a2, a3, a4⟩ := p
    exact ⟨rfl, l, k _ y dy od' a1 a2 a3 a4 ny ndy hne⟩
end
section
variable {w : World} {A : Around} {h g : Heap} {P : Value → Heap → Prop} {L x dx : Addr} {m : Str → Option Value} {r : List (Addr × Obj)} {od : Obj} {txt nm : Str} {t t' : Tok}
theorem nsO_lex : NsO emptyDict (frL lexNs [none, none, none, none, none, none, none, none, none, none, none, none, none, none, none, none, none, none, none]) 0 := by
  have e : frL lexNs [none, none, none, none, none, none, none, none, none, none, none, none, none, none, none, none, none, none, none] = fun _ => none := by
    funext y
    simp only [frL, ite_self]
  rw [e]
  exact NsO.new
theorem gix_posix {v0 v1 v3 v4 v5 v6 v7 v8 v9 v10 v11 v12 v13 v14 v15 v16 v17 v18 : Option Value} {k : Nat} {v : Value} {ex : Bool} (G : Gr w g) (S : St g L h m ((dx, od) :: r)) (hx : g.get? x = some (instObj 722 dx)) (N : NsO od (frL lexNs [v0, v1, some v, v3, v4, v5, v6, v7, v8, v9, v10, v11, v12, v13, v14, v15, v16, v17, v18]) k) (hh : handedIn v = true) (p : P v h) : W w A (getAttr (.ref x) s_posix ex) h P :=
  W_get (G.keeps S.keep).k (S.keep _ _ hx) S.get0 N (by kernel_rfl) (by kernel_rfl) (show _ = some none from by kernel_rfl) rfl (show _ = some v from by kernel_rfl) hh p
theorem gix_wordchars {v0 v1 v2 v3 v4 v6 v7 v8 v9 v10 v11 v12 v13 v14 v15 v16 v17 v18 : Option Value} {k : Nat} {v : Value} {ex : Bool} (G : Gr w g) (S : St g L h m ((dx, od) :: r)) (hx : g.get? x = some (instObj 722 dx)) (N : NsO od (frL lexNs [v0, v1, v2, v3, v4, some v, v6, v7, v8, v9, v10, v11, v12, v13, v14, v15, v16, v17, v18]) k) (hh : handedIn v = true) (p : P v h) : W w A (getAttr (.ref x) s_wordchars ex) h P :=
  W_get (G.keeps S.keep).k (S.keep _ _ hx) S.get0 N (by kernel_rfl) (by kernel_rfl) (show _ = some none from by kernel_rfl) rfl (show _ = some v from by kernel_rfl) hh p
theorem ns_some {L' : Addr} {h' : Heap} {m' : Str → Option Value} (n : h'.Ns L' m') : ∃ o, h'.get? L' = some o := let ⟨o, _, _, e, _⟩ := n; ⟨o, e⟩
theorem ne_none {h' : Heap} {a b : Addr} {o : Obj} (x : h'.get? a = some o) (y : h'.get? b = none) : a ≠ b := fun q => by rw [q, y] at x; cases x
theorem c646 (G : Gr w g) (e : Ext g h) (hx : g.get? x = some (instObj 722 dx)) (hd : h.get? dx = some emptyDict) (gd : g.get? dx = none) (hA : A.depth < 790)
    (k : ∀ h' od' y dy oy a1 a2, ExtB [dx] h h' → h'.get? dx = some od' → h'.get? y = some (instObj 587 dy) → h'.get? dy = some oy → h'.get? a1 = some dqO → h'.get? a2 = some dqO → SioO oy txt 0 → LexO od' y nm a1 a2 (some lxSp) 1 (mkS []) →
      h.get? y = none → h.get? dy = none → h.get? a1 = none → h.get? a2 = none → y ≠ dy → P .none h') :
    WC w A (.call (.ref 646) ⟨[.ref x, .str txt t, .str nm t', .bool true], []⟩) h P := by
  obtain ⟨g', G', e1, e2, gd', kp⟩ := hideL G e [dx] (fun a ha => by rw [List.mem_singleton.mp ha]; exact gd)
  have hx' := e1 _ _ hx
  clear G e hx
  refine en646d (mu := [(dx, emptyDict)]) G' e2 (fun q hq => by cases List.mem_singleton.mp hq; exact ⟨hd, gd' _ (.head _)⟩) (by simp) (by omega) ?_
  intro L h₁ hL S x₁
  refine W_if ?_
  repeat (with_reducible first | (show W _ _ (eval (.Name _ _) _) _ _; first | refine ld646_self ‹_› ?_ | refine ld646_instream ‹_› ?_ | refine ld646_infile ‹_› ?_ | refine ld646_posix ‹_› ?_ | refine ld646_punctuation_chars ‹_› ?_ | refine gl646_isinstance ‹_› ‹_› ?_ | refine gl646_str ‹_› ‹_› ?_ | refine gl646_StringIO ‹_› ‹_› ?_ | refine gl646_deque ‹_› ‹_› ?_) | (show W _ _ (eval _ _) _ _; first | refine W_attr ?_ | (refine W_int ?_; intro _) | (refine W_str ?_; intro _) | refine W_bool ?_ | refine W_none ?_ | refine W_callN ?_) | (show W _ _ (execs _ _) _ _; first | refine W_asg ?_ | refine W_if ?_ | refine W_nil ?_ | refine W_asgAttr ?_ | refine W_augAttr ?_) | (show W _ _ (storeName _ _ _) _ _; first | (refine st646_instream ‹_› ?_; intro _ _ _) | (refine st646_punctuation_chars ‹_› ?_; intro _ _ _)) | (show W _ _ (isTrue _ _ _) _ _; first | refine T_cmp ?_ | refine T_not ?_ | refine T_val ?_) | (show W _ _ (truthy _) _ _; first | refine t_bool ?_ | refine t_str ‹_› ?_ | refine t_str (Nat.le_of_ble_eq_true rfl) ?_) | (show W _ _ (spliced _) _ _; first | refine W_sp ?_ | refine W_sp0 ?_) | (show W _ _ (compareOp _ _ _) _ _; refine o_isNot (by with_unfolding_all rfl) ?_) | (show W _ _ (callWith _ _ _ _ _) _ _; first | refine W_cwB ?_ | refine W_cwT0 ?_) | (show W _ _ (call _ _ _) _ _; refine c_isiStrStr ?_) | (show if _ = true then _ else _; first | refine ite_f ‹_› ?_ | refine ite_t ‹_› ?_ | refine ite_f (by decide +kernel) ?_ | refine ite_t (by decide +kernel) ?_ | refine ite_f (by with_unfolding_all rfl) ?_ | refine ite_t (by with_unfolding_all rfl) ?_) | (show Sq _ _ _ _ _ _ _; refine sq_next ?_) | (show W _ _ (setAttr _ _ _) _ _; first | (refine ixn_instream ‹_› ‹_› ‹_› ‹_› (by decide) ?_; intro _ _ _ _) | (refine ixn_infile ‹_› ‹_› ‹_› ‹_› (by decide) ?_; intro _ _ _ _) | (refine ixn_posix ‹_› ‹_› ‹_› ‹_› (by decide) ?_; intro _ _ _ _) | (refine ixn_eof ‹_› ‹_› ‹_› ‹_› (by decide) ?_; intro _ _ _ _) | (refine ixn_commenters ‹_› ‹_› ‹_› ‹_› (by decide) ?_; intro _ _ _ _) | (refine ixn_wordchars ‹_› ‹_› ‹_› ‹_› (by decide) ?_; intro _ _ _ _) | (refine ixn_whitespace ‹_› ‹_› ‹_› ‹_› (by decide) ?_; intro _ _ _ _) | (refine ixn_whitespace_split ‹_› ‹_› ‹_› ‹_› (by decide) ?_; intro _ _ _ _) | (refine ixn_quotes ‹_› ‹_› ‹_› ‹_› (by decide) ?_; intro _ _ _ _) | (refine ixn_escape ‹_› ‹_› ‹_› ‹_› (by decide) ?_; intro _ _ _ _) | (refine ixn_escapedquotes ‹_› ‹_› ‹_› ‹_› (by decide) ?_; intro _ _ _ _) | (refine ixn_state ‹_› ‹_› ‹_› ‹_› (by decide) ?_; intro _ _ _ _) | (refine ixn_pushback ‹_› ‹_› ‹_› ‹_› (by decide) ?_; intro _ _ _ _) | (refine ixn_lineno ‹_› ‹_› ‹_› ‹_› (by decide) ?_; intro _ _ _ _) | (refine ixn_debug ‹_› ‹_› ‹_› ‹_› (by decide) ?_; intro _ _ _ _) | (refine ixn_token ‹_› ‹_› ‹_› ‹_› (by decide) ?_; intro _ _ _ _) | (refine ixn_filestack ‹_› ‹_› ‹_› ‹_› (by decide) ?_; intro _ _ _ _) | (refine ixn_source ‹_› ‹_› ‹_› ‹_› (by decide) ?_; intro _ _ _ _) | (refine ixn__punctuation_chars ‹_› ‹_› ‹_› ‹_› (by decide) ?_; intro _ _ _ _)))
  with_reducible refine W_cw (by kernel_rfl) ?_
  repeat (with_reducible first | (show W _ _ (eval (.Name _ _) _) _ _; first | refine ld646_self ‹_› ?_ | refine ld646_instream ‹_› ?_ | refine ld646_infile ‹_› ?_ | refine ld646_posix ‹_› ?_ | refine ld646_punctuation_chars ‹_› ?_ | refine gl646_isinstance ‹_› ‹_› ?_ | refine gl646_str ‹_› ‹_› ?_ | refine gl646_StringIO ‹_› ‹_› ?_ | refine gl646_deque ‹_› ‹_› ?_) | (show W _ _ (eval _ _) _ _; first | refine W_attr ?_ | (refine W_int ?_; intro _) | (refine W_str ?_; intro _) | refine W_bool ?_ | refine W_none ?_ | refine W_callN ?_) | (show W _ _ (execs _ _) _ _; first | refine W_asg ?_ | refine W_if ?_ | refine W_nil ?_ | refine W_asgAttr ?_ | refine W_augAttr ?_) | (show W _ _ (storeName _ _ _) _ _; first | (refine st646_instream ‹_› ?_; intro _ _ _) | (refine st646_punctuation_chars ‹_› ?_; intro _ _ _)) | (show W _ _ (isTrue _ _ _) _ _; first | refine T_cmp ?_ | refine T_not ?_ | refine T_val ?_) | (show W _ _ (truthy _) _ _; first | refine t_bool ?_ | refine t_str ‹_› ?_ | refine t_str (Nat.le_of_ble_eq_true rfl) ?_) | (show W _ _ (spliced _) _ _; first | refine W_sp ?_ | refine W_sp0 ?_) | (show W _ _ (compareOp _ _ _) _ _; refine o_isNot (by with_unfolding_all rfl) ?_) | (show W _ _ (callWith _ _ _ _ _) _ _; first | refine W_cwB ?_ | refine W_cwT0 ?_) | (show W _ _ (call _ _ _) _ _; refine c_isiStrStr ?_) | (show if _ = true then _ else _; first | refine ite_f ‹_› ?_ | refine ite_t ‹_› ?_ | refine ite_f (by decide +kernel) ?_ | refine ite_t (by decide +kernel) ?_ | refine ite_f (by with_unfolding_all rfl) ?_ | refine ite_t (by with_unfolding_all rfl) ?_) | (show Sq _ _ _ _ _ _ _; refine sq_next ?_) | (show W _ _ (setAttr _ _ _) _ _; first | (refine ixn_instream ‹_› ‹_› ‹_› ‹_› (by decide) ?_; intro _ _ _ _) | (refine ixn_infile ‹_› ‹_› ‹_› ‹_› (by decide) ?_; intro _ _ _ _) | (refine ixn_posix ‹_› ‹_› ‹_› ‹_› (by decide) ?_; intro _ _ _ _) | (refine ixn_eof ‹_› ‹_› ‹_› ‹_› (by decide) ?_; intro _ _ _ _) | (refine ixn_commenters ‹_› ‹_› ‹_› ‹_› (by decide) ?_; intro _ _ _ _) | (refine ixn_wordchars ‹_› ‹_› ‹_› ‹_› (by decide) ?_; intro _ _ _ _) | (refine ixn_whitespace ‹_› ‹_› ‹_› ‹_› (by decide) ?_; intro _ _ _ _) | (refine ixn_whitespace_split ‹_› ‹_› ‹_› ‹_› (by decide) ?_; intro _ _ _ _) | (refine ixn_quotes ‹_› ‹_› ‹_› ‹_› (by decide) ?_; intro _ _ _ _) | (refine ixn_escape ‹_› ‹_› ‹_› ‹_› (by decide) ?_; intro _ _ _ _) | (refine ixn_escapedquotes ‹_› ‹_› ‹_› ‹_› (by decide) ?_; intro _ _ _ _) | (refine ixn_state ‹_› ‹_› ‹_› ‹_› (by decide) ?_; intro _ _ _ _) | (refine ixn_pushback ‹_› ‹_› ‹_› ‹_› (by decide) ?_; intro _ _ _ _) | (refine ixn_lineno ‹_› ‹_› ‹_› ‹_› (by decide) ?_; intro _ _ _ _) | (refine ixn_debug ‹_› ‹_› ‹_› ‹_› (by decide) ?_; intro _ _ _ _) | (refine ixn_token ‹_› ‹_› ‹_› ‹_› (by decide) ?_; intro _ _ _ _) | (refine ixn_filestack ‹_› ‹_› ‹_› ‹_› (by decide) ?_; intro _ _ _ _) | (refine ixn_source ‹_› ‹_› ‹_› ‹_› (by decide) ?_; intro _ _ _ _) | (refine ixn__punctuation_chars ‹_› ‹_› ‹_› ‹_› (by decide) ?_; intro _ _ _ _)))
  refine ⟨(G'.keeps S.keep).k, ?_⟩
  refine (mk587 (G'.keeps S.keep) (by show A.depth + 1 < 800; omega) ?_).call
  intro h₂ y dy oy x₂ hy hdy hY ny ndy hne
  obtain ⟨oL, eL⟩ := ns_some S.ns
  have nyL := ne_none eL ny
  have ndyL := ne_none eL ndy
  have nyx := ne_none S.get0 ny
  have ndyx := ne_none S.get0 ndy
  obtain ⟨g2, eg2, S2, kp2⟩ := (S.ext x₂).rebase
  have hy2 := kp2 _ _ hy (Ne.symm nyL) (by simpa using nyx)
  have hdy2 := kp2 _ _ hdy (Ne.symm ndyL) (by simpa using ndyx)
  have G2 := G'.keeps eg2
  have hx2 := eg2 _ _ hx'
  have hn : ∀ a, h₁.get? a = none → h.get? a = none := fun a ha => by
    cases q : h.get? a with
    | none => rfl
    | some o => rw [x₁ _ _ q] at ha; cases ha
  clear G' hx' S hy hdy
  have N0 := nsO_lex
  repeat (with_reducible first | (show W _ _ (eval (.Name _ _) _) _ _; first | refine ld646_self ‹_› ?_ | refine ld646_instream ‹_› ?_ | refine ld646_infile ‹_› ?_ | refine ld646_posix ‹_› ?_ | refine ld646_punctuation_chars ‹_› ?_ | refine gl646_isinstance ‹_› ‹_› ?_ | refine gl646_str ‹_› ‹_› ?_ | refine gl646_StringIO ‹_› ‹_› ?_ | refine gl646_deque ‹_› ‹_› ?_) | (show W _ _ (eval _ _) _ _; first | refine W_attr ?_ | (refine W_int ?_; intro _) | (refine W_str ?_; intro _) | refine W_bool ?_ | refine W_none ?_ | refine W_callN ?_) | (show W _ _ (execs _ _) _ _; first | refine W_asg ?_ | refine W_if ?_ | refine W_nil ?_ | refine W_asgAttr ?_ | refine W_augAttr ?_) | (show W _ _ (storeName _ _ _) _ _; first | (refine st646_instream ‹_› ?_; intro _ _ _) | (refine st646_punctuation_chars ‹_› ?_; intro _ _ _)) | (show W _ _ (isTrue _ _ _) _ _; first | refine T_cmp ?_ | refine T_not ?_ | refine T_val ?_) | (show W _ _ (truthy _) _ _; first | refine t_bool ?_ | refine t_str ‹_› ?_ | refine t_str (Nat.le_of_ble_eq_true rfl) ?_) | (show W _ _ (spliced _) _ _; first | refine W_sp ?_ | refine W_sp0 ?_) | (show W _ _ (compareOp _ _ _) _ _; refine o_isNot (by with_unfolding_all rfl) ?_) | (show W _ _ (callWith _ _ _ _ _) _ _; first | refine W_cwB ?_ | refine W_cwT0 ?_) | (show W _ _ (call _ _ _) _ _; refine c_isiStrStr ?_) | (show if _ = true then _ else _; first | refine ite_f ‹_› ?_ | refine ite_t ‹_› ?_ | refine ite_f (by decide +kernel) ?_ | refine ite_t (by decide +kernel) ?_ | refine ite_f (by with_unfolding_all rfl) ?_ | refine ite_t (by with_unfolding_all rfl) ?_) | (show Sq _ _ _ _ _ _ _; refine sq_next ?_) | (show W _ _ (setAttr _ _ _) _ _; first | (refine ixn_instream ‹_› ‹_› ‹_› ‹_› (by decide) ?_; intro _ _ _ _) | (refine ixn_infile ‹_› ‹_› ‹_› ‹_› (by decide) ?_; intro _ _ _ _) | (refine ixn_posix ‹_› ‹_› ‹_› ‹_› (by decide) ?_; intro _ _ _ _) | (refine ixn_eof ‹_› ‹_› ‹_› ‹_› (by decide) ?_; intro _ _ _ _) | (refine ixn_commenters ‹_› ‹_› ‹_› ‹_› (by decide) ?_; intro _ _ _ _) | (refine ixn_wordchars ‹_› ‹_› ‹_› ‹_› (by decide) ?_; intro _ _ _ _) | (refine ixn_whitespace ‹_› ‹_› ‹_› ‹_› (by decide) ?_; intro _ _ _ _) | (refine ixn_whitespace_split ‹_› ‹_› ‹_› ‹_› (by decide) ?_; intro _ _ _ _) | (refine ixn_quotes ‹_› ‹_› ‹_› ‹_› (by decide) ?_; intro _ _ _ _) | (refine ixn_escape ‹_› ‹_› ‹_› ‹_› (by decide) ?_; intro _ _ _ _) | (refine ixn_escapedquotes ‹_› ‹_› ‹_› ‹_› (by decide) ?_; intro _ _ _ _) | (refine ixn_state ‹_› ‹_› ‹_› ‹_› (by decide) ?_; intro _ _ _ _) | (refine ixn_pushback ‹_› ‹_› ‹_› ‹_› (by decide) ?_; intro _ _ _ _) | (refine ixn_lineno ‹_› ‹_› ‹_› ‹_› (by decide) ?_; intro _ _ _ _) | (refine ixn_debug ‹_› ‹_› ‹_› ‹_› (by decide) ?_; intro _ _ _ _) | (refine ixn_token ‹_› ‹_› ‹_› ‹_› (by decide) ?_; intro _ _ _ _) | (refine ixn_filestack ‹_› ‹_› ‹_› ‹_› (by decide) ?_; intro _ _ _ _) | (refine ixn_source ‹_› ‹_› ‹_› ‹_› (by decide) ?_; intro _ _ _ _) | (refine ixn__punctuation_chars ‹_› ‹_› ‹_› ‹_› (by decide) ?_; intro _ _ _ _)))
  rename_i h₃ od₃ S₃ N₃
  with_reducible refine gix_posix G2 S₃ hx2 N₃ rfl ?_
  repeat (with_reducible first | (show W _ _ (eval (.Name _ _) _) _ _; first | refine ld646_self ‹_› ?_ | refine ld646_instream ‹_› ?_ | refine ld646_infile ‹_› ?_ | refine ld646_posix ‹_› ?_ | refine ld646_punctuation_chars ‹_› ?_ | refine gl646_isinstance ‹_› ‹_› ?_ | refine gl646_str ‹_› ‹_› ?_ | refine gl646_StringIO ‹_› ‹_› ?_ | refine gl646_deque ‹_› ‹_› ?_) | (show W _ _ (eval _ _) _ _; first | refine W_attr ?_ | (refine W_int ?_; intro _) | (refine W_str ?_; intro _) | refine W_bool ?_ | refine W_none ?_ | refine W_callN ?_) | (show W _ _ (execs _ _) _ _; first | refine W_asg ?_ | refine W_if ?_ | refine W_nil ?_ | refine W_asgAttr ?_ | refine W_augAttr ?_) | (show W _ _ (storeName _ _ _) _ _; first | (refine st646_instream ‹_› ?_; intro _ _ _) | (refine st646_punctuation_chars ‹_› ?_; intro _ _ _)) | (show W _ _ (isTrue _ _ _) _ _; first | refine T_cmp ?_ | refine T_not ?_ | refine T_val ?_) | (show W _ _ (truthy _) _ _; first | refine t_bool ?_ | refine t_str ‹_› ?_ | refine t_str (Nat.le_of_ble_eq_true rfl) ?_) | (show W _ _ (spliced _) _ _; first | refine W_sp ?_ | refine W_sp0 ?_) | (show W _ _ (compareOp _ _ _) _ _; refine o_isNot (by with_unfolding_all rfl) ?_) | (show W _ _ (callWith _ _ _ _ _) _ _; first | refine W_cwB ?_ | refine W_cwT0 ?_) | (show W _ _ (call _ _ _) _ _; refine c_isiStrStr ?_) | (show if _ = true then _ else _; first | refine ite_f ‹_› ?_ | refine ite_t ‹_› ?_ | refine ite_f (by decide +kernel) ?_ | refine ite_t (by decide +kernel) ?_ | refine ite_f (by with_unfolding_all rfl) ?_ | refine ite_t (by with_unfolding_all rfl) ?_) | (show Sq _ _ _ _ _ _ _; refine sq_next ?_) | (show W _ _ (setAttr _ _ _) _ _; first | (refine ixn_instream ‹_› ‹_› ‹_› ‹_› (by decide) ?_; intro _ _ _ _) | (refine ixn_infile ‹_› ‹_› ‹_› ‹_› (by decide) ?_; intro _ _ _ _) | (refine ixn_posix ‹_› ‹_› ‹_› ‹_› (by decide) ?_; intro _ _ _ _) | (refine ixn_eof ‹_› ‹_› ‹_› ‹_› (by decide) ?_; intro _ _ _ _) | (refine ixn_commenters ‹_› ‹_› ‹_› ‹_› (by decide) ?_; intro _ _ _ _) | (refine ixn_wordchars ‹_› ‹_› ‹_› ‹_› (by decide) ?_; intro _ _ _ _) | (refine ixn_whitespace ‹_› ‹_› ‹_› ‹_› (by decide) ?_; intro _ _ _ _) | (refine ixn_whitespace_split ‹_› ‹_› ‹_› ‹_› (by decide) ?_; intro _ _ _ _) | (refine ixn_quotes ‹_› ‹_› ‹_› ‹_› (by decide) ?_; intro _ _ _ _) | (refine ixn_escape ‹_› ‹_› ‹_› ‹_› (by decide) ?_; intro _ _ _ _) | (refine ixn_escapedquotes ‹_› ‹_› ‹_› ‹_› (by decide) ?_; intro _ _ _ _) | (refine ixn_state ‹_› ‹_› ‹_› ‹_› (by decide) ?_; intro _ _ _ _) | (refine ixn_pushback ‹_› ‹_› ‹_› ‹_› (by decide) ?_; intro _ _ _ _) | (refine ixn_lineno ‹_› ‹_› ‹_› ‹_› (by decide) ?_; intro _ _ _ _) | (refine ixn_debug ‹_› ‹_› ‹_› ‹_› (by decide) ?_; intro _ _ _ _) | (refine ixn_token ‹_› ‹_› ‹_› ‹_› (by decide) ?_; intro _ _ _ _) | (refine ixn_filestack ‹_› ‹_› ‹_› ‹_› (by decide) ?_; intro _ _ _ _) | (refine ixn_source ‹_› ‹_› ‹_› ‹_› (by decide) ?_; intro _ _ _ _) | (refine ixn__punctuation_chars ‹_› ‹_› ‹_› ‹_› (by decide) ?_; intro _ _ _ _)))
  with_reducible refine gix_wordchars G2 S₃ hx2 N₃ rfl ?_
  repeat (with_reducible first | (show W _ _ (eval (.Name _ _) _) _ _; first | refine ld646_self ‹_› ?_ | refine ld646_instream ‹_› ?_ | refine ld646_infile ‹_› ?_ | refine ld646_posix ‹_› ?_ | refine ld646_punctuation_chars ‹_› ?_ | refine gl646_isinstance ‹_› ‹_› ?_ | refine gl646_str ‹_› ‹_› ?_ | refine gl646_StringIO ‹_› ‹_› ?_ | refine gl646_deque ‹_› ‹_› ?_) | (show W _ _ (eval _ _) _ _; first | refine W_attr ?_ | (refine W_int ?_; intro _) | (refine W_str ?_; intro _) | refine W_bool ?_ | refine W_none ?_ | refine W_callN ?_) | (show W _ _ (execs _ _) _ _; first | refine W_asg ?_ | refine W_if ?_ | refine W_nil ?_ | refine W_asgAttr ?_ | refine W_augAttr ?_) | (show W _ _ (storeName _ _ _) _ _; first | (refine st646_instream ‹_› ?_; intro _ _ _) | (refine st646_punctuation_chars ‹_› ?_; intro _ _ _)) | (show W _ _ (isTrue _ _ _) _ _; first | refine T_cmp ?_ | refine T_not ?_ | refine T_val ?_) | (show W _ _ (truthy _) _ _; first | refine t_bool ?_ | refine t_str ‹_› ?_ | refine t_str (Nat.le_of_ble_eq_true rfl) ?_) | (show W _ _ (spliced _) _ _; first | refine W_sp ?_ | refine W_sp0 ?_) | (show W _ _ (compareOp _ _ _) _ _; refine o_isNot (by with_unfolding_all rfl) ?_) | (show W _ _ (callWith _ _ _ _ _) _ _; first | refine W_cwB ?_ | refine W_cwT0 ?_) | (show W _ _ (call _ _ _) _ _; refine c_isiStrStr ?_) | (show if _ = true then _ else _; first | refine ite_f ‹_› ?_ | refine ite_t ‹_› ?_ | refine ite_f (by decide +kernel) ?_ | refine ite_t (by decide +kernel) ?_ | refine ite_f (by with_unfolding_all rfl) ?_ | refine ite_t (by with_unfolding_all rfl) ?_) | (show Sq _ _ _ _ _ _ _; refine sq_next ?_) | (show W _ _ (setAttr _ _ _) _ _; first | (refine ixn_instream ‹_› ‹_› ‹_› ‹_› (by decide) ?_; intro _ _ _ _) | (refine ixn_infile ‹_› ‹_› ‹_› ‹_› (by decide) ?_; intro _ _ _ _) | (refine ixn_posix ‹_› ‹_› ‹_› ‹_› (by decide) ?_; intro _ _ _ _) | (refine ixn_eof ‹_› ‹_› ‹_› ‹_› (by decide) ?_; intro _ _ _ _) | (refine ixn_commenters ‹_› ‹_› ‹_› ‹_› (by decide) ?_; intro _ _ _ _) | (refine ixn_wordchars ‹_› ‹_› ‹_› ‹_› (by decide) ?_; intro _ _ _ _) | (refine ixn_whitespace ‹_› ‹_› ‹_› ‹_› (by decide) ?_; intro _ _ _ _) | (refine ixn_whitespace_split ‹_› ‹_› ‹_› ‹_› (by decide) ?_; intro _ _ _ _) | (refine ixn_quotes ‹_› ‹_› ‹_› ‹_› (by decide) ?_; intro _ _ _ _) | (refine ixn_escape ‹_› ‹_› ‹_› ‹_› (by decide) ?_; intro _ _ _ _) | (refine ixn_escapedquotes ‹_› ‹_› ‹_› ‹_› (by decide) ?_; intro _ _ _ _) | (refine ixn_state ‹_› ‹_› ‹_› ‹_› (by decide) ?_; intro _ _ _ _) | (refine ixn_pushback ‹_› ‹_› ‹_› ‹_› (by decide) ?_; intro _ _ _ _) | (refine ixn_lineno ‹_› ‹_› ‹_› ‹_› (by decide) ?_; intro _ _ _ _) | (refine ixn_debug ‹_› ‹_› ‹_› ‹_› (by decide) ?_; intro _ _ _ _) | (refine ixn_token ‹_› ‹_› ‹_› ‹_› (by decide) ?_; intro _ _ _ _) | (refine ixn_filestack ‹_› ‹_› ‹_› ‹_› (by decide) ?_; intro _ _ _ _) | (refine ixn_source ‹_› ‹_› ‹_› ‹_› (by decide) ?_; intro _ _ _ _) | (refine ixn__punctuation_chars ‹_› ‹_› ‹_› ‹_› (by decide) ?_; intro _ _ _ _)))
  with_reducible refine o_iadds (by rw [sizeLine_eq]; exact Nat.le_of_ble_eq_true rfl) ?_
  intro t₄
  with_reducible refine ixs_wordchars G2 S₃ hx2 N₃ (by decide) ?_
  intro h₄ od₄ S₄ N₄
  clear S₃ N₃
  repeat (with_reducible first | (show W _ _ (eval (.Name _ _) _) _ _; first | refine ld646_self ‹_› ?_ | refine ld646_instream ‹_› ?_ | refine ld646_infile ‹_› ?_ | refine ld646_posix ‹_› ?_ | refine ld646_punctuation_chars ‹_› ?_ | refine gl646_isinstance ‹_› ‹_› ?_ | refine gl646_str ‹_› ‹_› ?_ | refine gl646_StringIO ‹_› ‹_› ?_ | refine gl646_deque ‹_› ‹_› ?_) | (show W _ _ (eval _ _) _ _; first | refine W_attr ?_ | (refine W_int ?_; intro _) | (refine W_str ?_; intro _) | refine W_bool ?_ | refine W_none ?_ | refine W_callN ?_) | (show W _ _ (execs _ _) _ _; first | refine W_asg ?_ | refine W_if ?_ | refine W_nil ?_ | refine W_asgAttr ?_ | refine W_augAttr ?_) | (show W _ _ (storeName _ _ _) _ _; first | (refine st646_instream ‹_› ?_; intro _ _ _) | (refine st646_punctuation_chars ‹_› ?_; intro _ _ _)) | (show W _ _ (isTrue _ _ _) _ _; first | refine T_cmp ?_ | refine T_not ?_ | refine T_val ?_) | (show W _ _ (truthy _) _ _; first | refine t_bool ?_ | refine t_str ‹_› ?_ | refine t_str (Nat.le_of_ble_eq_true rfl) ?_) | (show W _ _ (spliced _) _ _; first | refine W_sp ?_ | refine W_sp0 ?_) | (show W _ _ (compareOp _ _ _) _ _; refine o_isNot (by with_unfolding_all rfl) ?_) | (show W _ _ (callWith _ _ _ _ _) _ _; first | refine W_cwB ?_ | refine W_cwT0 ?_) | (show W _ _ (call _ _ _) _ _; refine c_isiStrStr ?_) | (show if _ = true then _ else _; first | refine ite_f ‹_› ?_ | refine ite_t ‹_› ?_ | refine ite_f (by decide +kernel) ?_ | refine ite_t (by decide +kernel) ?_ | refine ite_f (by with_unfolding_all rfl) ?_ | refine ite_t (by with_unfolding_all rfl) ?_) | (show Sq _ _ _ _ _ _ _; refine sq_next ?_) | (show W _ _ (setAttr _ _ _) _ _; first | (refine ixn_instream ‹_› ‹_› ‹_› ‹_› (by decide) ?_; intro _ _ _ _) | (refine ixn_infile ‹_› ‹_› ‹_› ‹_› (by decide) ?_; intro _ _ _ _) | (refine ixn_posix ‹_› ‹_› ‹_› ‹_› (by decide) ?_; intro _ _ _ _) | (refine ixn_eof ‹_› ‹_› ‹_› ‹_› (by decide) ?_; intro _ _ _ _) | (refine ixn_commenters ‹_› ‹_› ‹_› ‹_› (by decide) ?_; intro _ _ _ _) | (refine ixn_wordchars ‹_› ‹_› ‹_› ‹_› (by decide) ?_; intro _ _ _ _) | (refine ixn_whitespace ‹_› ‹_› ‹_› ‹_› (by decide) ?_; intro _ _ _ _) | (refine ixn_whitespace_split ‹_› ‹_› ‹_› ‹_› (by decide) ?_; intro _ _ _ _) | (refine ixn_quotes ‹_› ‹_› ‹_› ‹_› (by decide) ?_; intro _ _ _ _) | (refine ixn_escape ‹_› ‹_› ‹_› ‹_› (by decide) ?_; intro _ _ _ _) | (refine ixn_escapedquotes ‹_› ‹_› ‹_› ‹_› (by decide) ?_; intro _ _ _ _) | (refine ixn_state ‹_› ‹_› ‹_› ‹_› (by decide) ?_; intro _ _ _ _) | (refine ixn_pushback ‹_› ‹_› ‹_› ‹_› (by decide) ?_; intro _ _ _ _) | (refine ixn_lineno ‹_› ‹_› ‹_› ‹_› (by decide) ?_; intro _ _ _ _) | (refine ixn_debug ‹_› ‹_› ‹_› ‹_› (by decide) ?_; intro _ _ _ _) | (refine ixn_token ‹_› ‹_› ‹_› ‹_› (by decide) ?_; intro _ _ _ _) | (refine ixn_filestack ‹_› ‹_› ‹_› ‹_› (by decide) ?_; intro _ _ _ _) | (refine ixn_source ‹_› ‹_› ‹_› ‹_› (by decide) ?_; intro _ _ _ _) | (refine ixn__punctuation_chars ‹_› ‹_› ‹_› ‹_› (by decide) ?_; intro _ _ _ _)))
  with_reducible refine dq_call ?_
  intro h₅ hq₅ x₅
  rename_i h₄' od₄' S₄' N₄'
  have n1L := (S₄'.newIs (Nat.le_refl _)).1
  have n1x := (S₄'.newIs (Nat.le_refl _)).2
  have f1 := S₄'.gsize _ (Nat.le_refl _)
  have hd1 := (S₄'.mus _ (.head _)).1
  obtain ⟨g3, eg3, S3, kp3⟩ := (S₄'.ext x₅).rebase
  have hq3 := kp3 _ _ hq₅ n1L n1x
  have hy3 := eg3 _ _ hy2
  have hdy3 := eg3 _ _ hdy2
  have hx3 := eg3 _ _ hx2
  have G3 := G2.keeps eg3
  clear G2 hx2 hy2 hdy2 S₄' S₄ N₄
  repeat (with_reducible first | (show W _ _ (eval (.Name _ _) _) _ _; first | refine ld646_self ‹_› ?_ | refine ld646_instream ‹_› ?_ | refine ld646_infile ‹_› ?_ | refine ld646_posix ‹_› ?_ | refine ld646_punctuation_chars ‹_› ?_ | refine gl646_isinstance ‹_› ‹_› ?_ | refine gl646_str ‹_› ‹_› ?_ | refine gl646_StringIO ‹_› ‹_› ?_ | refine gl646_deque ‹_› ‹_› ?_) | (show W _ _ (eval _ _) _ _; first | refine W_attr ?_ | (refine W_int ?_; intro _) | (refine W_str ?_; intro _) | refine W_bool ?_ | refine W_none ?_ | refine W_callN ?_) | (show W _ _ (execs _ _) _ _; first | refine W_asg ?_ | refine W_if ?_ | refine W_nil ?_ | refine W_asgAttr ?_ | refine W_augAttr ?_) | (show W _ _ (storeName _ _ _) _ _; first | (refine st646_instream ‹_› ?_; intro _ _ _) | (refine st646_punctuation_chars ‹_› ?_; intro _ _ _)) | (show W _ _ (isTrue _ _ _) _ _; first | refine T_cmp ?_ | refine T_not ?_ | refine T_val ?_) | (show W _ _ (truthy _) _ _; first | refine t_bool ?_ | refine t_str ‹_› ?_ | refine t_str (Nat.le_of_ble_eq_true rfl) ?_) | (show W _ _ (spliced _) _ _; first | refine W_sp ?_ | refine W_sp0 ?_) | (show W _ _ (compareOp _ _ _) _ _; refine o_isNot (by with_unfolding_all rfl) ?_) | (show W _ _ (callWith _ _ _ _ _) _ _; first | refine W_cwB ?_ | refine W_cwT0 ?_) | (show W _ _ (call _ _ _) _ _; refine c_isiStrStr ?_) | (show if _ = true then _ else _; first | refine ite_f ‹_› ?_ | refine ite_t ‹_› ?_ | refine ite_f (by decide +kernel) ?_ | refine ite_t (by decide +kernel) ?_ | refine ite_f (by with_unfolding_all rfl) ?_ | refine ite_t (by with_unfolding_all rfl) ?_) | (show Sq _ _ _ _ _ _ _; refine sq_next ?_) | (show W _ _ (setAttr _ _ _) _ _; first | (refine ixn_instream ‹_› ‹_› ‹_› ‹_› (by decide) ?_; intro _ _ _ _) | (refine ixn_infile ‹_› ‹_› ‹_› ‹_› (by decide) ?_; intro _ _ _ _) | (refine ixn_posix ‹_› ‹_› ‹_› ‹_› (by decide) ?_; intro _ _ _ _) | (refine ixn_eof ‹_› ‹_› ‹_› ‹_› (by decide) ?_; intro _ _ _ _) | (refine ixn_commenters ‹_› ‹_› ‹_› ‹_› (by decide) ?_; intro _ _ _ _) | (refine ixn_wordchars ‹_› ‹_› ‹_› ‹_› (by decide) ?_; intro _ _ _ _) | (refine ixn_whitespace ‹_› ‹_› ‹_› ‹_› (by decide) ?_; intro _ _ _ _) | (refine ixn_whitespace_split ‹_› ‹_› ‹_› ‹_› (by decide) ?_; intro _ _ _ _) | (refine ixn_quotes ‹_› ‹_› ‹_› ‹_› (by decide) ?_; intro _ _ _ _) | (refine ixn_escape ‹_› ‹_› ‹_› ‹_› (by decide) ?_; intro _ _ _ _) | (refine ixn_escapedquotes ‹_› ‹_› ‹_› ‹_› (by decide) ?_; intro _ _ _ _) | (refine ixn_state ‹_› ‹_› ‹_› ‹_› (by decide) ?_; intro _ _ _ _) | (refine ixn_pushback ‹_› ‹_› ‹_› ‹_› (by decide) ?_; intro _ _ _ _) | (refine ixn_lineno ‹_› ‹_› ‹_› ‹_› (by decide) ?_; intro _ _ _ _) | (refine ixn_debug ‹_› ‹_› ‹_› ‹_› (by decide) ?_; intro _ _ _ _) | (refine ixn_token ‹_› ‹_› ‹_› ‹_› (by decide) ?_; intro _ _ _ _) | (refine ixn_filestack ‹_› ‹_› ‹_› ‹_› (by decide) ?_; intro _ _ _ _) | (refine ixn_source ‹_› ‹_› ‹_› ‹_› (by decide) ?_; intro _ _ _ _) | (refine ixn__punctuation_chars ‹_› ‹_› ‹_› ‹_› (by decide) ?_; intro _ _ _ _)))
  with_reducible refine dq_call ?_
  intro h₆ hq₆ x₆
  rename_i h₅' od₅' S₅' N₅'
  have n2L := (S₅'.newIs (Nat.le_refl _)).1
  have n2x := (S₅'.newIs (Nat.le_refl _)).2
  have f2 := S₅'.gsize _ (Nat.le_refl _)
  obtain ⟨g4, eg4, S4, kp4⟩ := (S₅'.ext x₆).rebase
  have hq4 := kp4 _ _ hq₆ n2L n2x
  have hq3' := eg4 _ _ hq3
  have hy4 := eg4 _ _ hy3
  have hdy4 := eg4 _ _ hdy3
  have hx4 := eg4 _ _ hx3
  have G4 := G3.keeps eg4
  clear G3 hx3 hy3 hdy3 S₅' hq3
  repeat (with_reducible first | (show W _ _ (eval (.Name _ _) _) _ _; first | refine ld646_self ‹_› ?_ | refine ld646_instream ‹_› ?_ | refine ld646_infile ‹_› ?_ | refine ld646_posix ‹_› ?_ | refine ld646_punctuation_chars ‹_› ?_ | refine gl646_isinstance ‹_› ‹_› ?_ | refine gl646_str ‹_› ‹_› ?_ | refine gl646_StringIO ‹_› ‹_› ?_ | refine gl646_deque ‹_› ‹_› ?_) | (show W _ _ (eval _ _) _ _; first | refine W_attr ?_ | (refine W_int ?_; intro _) | (refine W_str ?_; intro _) | refine W_bool ?_ | refine W_none ?_ | refine W_callN ?_) | (show W _ _ (execs _ _) _ _; first | refine W_asg ?_ | refine W_if ?_ | refine W_nil ?_ | refine W_asgAttr ?_ | refine W_augAttr ?_) | (show W _ _ (storeName _ _ _) _ _; first | (refine st646_instream ‹_› ?_; intro _ _ _) | (refine st646_punctuation_chars ‹_› ?_; intro _ _ _)) | (show W _ _ (isTrue _ _ _) _ _; first | refine T_cmp ?_ | refine T_not ?_ | refine T_val ?_) | (show W _ _ (truthy _) _ _; first | refine t_bool ?_ | refine t_str ‹_› ?_ | refine t_str (Nat.le_of_ble_eq_true rfl) ?_) | (show W _ _ (spliced _) _ _; first | refine W_sp ?_ | refine W_sp0 ?_) | (show W _ _ (compareOp _ _ _) _ _; refine o_isNot (by with_unfolding_all rfl) ?_) | (show W _ _ (callWith _ _ _ _ _) _ _; first | refine W_cwB ?_ | refine W_cwT0 ?_) | (show W _ _ (call _ _ _) _ _; refine c_isiStrStr ?_) | (show if _ = true then _ else _; first | refine ite_f ‹_› ?_ | refine ite_t ‹_› ?_ | refine ite_f (by decide +kernel) ?_ | refine ite_t (by decide +kernel) ?_ | refine ite_f (by with_unfolding_all rfl) ?_ | refine ite_t (by with_unfolding_all rfl) ?_) | (show Sq _ _ _ _ _ _ _; refine sq_next ?_) | (show W _ _ (setAttr _ _ _) _ _; first | (refine ixn_instream ‹_› ‹_› ‹_› ‹_› (by decide) ?_; intro _ _ _ _) | (refine ixn_infile ‹_› ‹_› ‹_› ‹_› (by decide) ?_; intro _ _ _ _) | (refine ixn_posix ‹_› ‹_› ‹_› ‹_› (by decide) ?_; intro _ _ _ _) | (refine ixn_eof ‹_› ‹_› ‹_› ‹_› (by decide) ?_; intro _ _ _ _) | (refine ixn_commenters ‹_› ‹_› ‹_› ‹_› (by decide) ?_; intro _ _ _ _) | (refine ixn_wordchars ‹_› ‹_› ‹_› ‹_› (by decide) ?_; intro _ _ _ _) | (refine ixn_whitespace ‹_› ‹_› ‹_› ‹_› (by decide) ?_; intro _ _ _ _) | (refine ixn_whitespace_split ‹_› ‹_› ‹_› ‹_› (by decide) ?_; intro _ _ _ _) | (refine ixn_quotes ‹_› ‹_› ‹_› ‹_› (by decide) ?_; intro _ _ _ _) | (refine ixn_escape ‹_› ‹_› ‹_› ‹_› (by decide) ?_; intro _ _ _ _) | (refine ixn_escapedquotes ‹_› ‹_› ‹_› ‹_› (by decide) ?_; intro _ _ _ _) | (refine ixn_state ‹_› ‹_› ‹_› ‹_› (by decide) ?_; intro _ _ _ _) | (refine ixn_pushback ‹_› ‹_› ‹_› ‹_› (by decide) ?_; intro _ _ _ _) | (refine ixn_lineno ‹_› ‹_› ‹_› ‹_› (by decide) ?_; intro _ _ _ _) | (refine ixn_debug ‹_› ‹_› ‹_› ‹_› (by decide) ?_; intro _ _ _ _) | (refine ixn_token ‹_› ‹_› ‹_› ‹_› (by decide) ?_; intro _ _ _ _) | (refine ixn_filestack ‹_› ‹_› ‹_› ‹_› (by decide) ?_; intro _ _ _ _) | (refine ixn_source ‹_› ‹_› ‹_› ‹_› (by decide) ?_; intro _ _ _ _) | (refine ixn__punctuation_chars ‹_› ‹_› ‹_› ‹_› (by decide) ?_; intro _ _ _ _)))
  rename_i h₇ od₇ S₇ N₇
  have hz : ∀ a, g2.get? a = none → a ≠ dx → h.get? a = none := fun a ha hax => by
    cases q : h.get? a with
    | none => rfl
    | some o => rw [eg2 _ _ (kp _ _ (by simpa using hax) q)] at ha; cases ha
  have hz3 : ∀ a, g3.get? a = none → g2.get? a = none := fun a ha => by
    cases q : g2.get? a with
    | none => rfl
    | some o => rw [eg3 _ _ q] at ha; cases ha
  refine k _ od₇ y dy oy _ _ (fun b o hb q => S₇.keep b o (eg4 _ _ (eg3 _ _ (eg2 _ _ (kp b o hb q))))) S₇.get0 (S₇.keep _ _ hy4) (S₇.keep _ _ hdy4) (S₇.keep _ _ hq3') (S₇.keep _ _ hq4) hY
    ⟨fun i => ([0, t', 0, 0, _, _, _, 0, _, _, _, _, 0, _, _, _, 0, 0, _] : List Tok).getD i 0, N₇⟩ (hn _ ny) (hn _ ndy) (hz _ f1 fun q => ?_) (hz _ (hz3 _ f2) fun q => ?_) hne
  · exact n1x _ (.head _) q.symm
  · exact n2x _ (.head _) q.symm
theorem NsO.cls {o : Obj} {m : Str → Option Value} {k : Nat} (N : NsO o m k) : o.cls = .type "dict" := by obtain ⟨es, n, rfl, _⟩ := N; rfl
theorem LexO.cls {y a1 a2 : Addr} {st : Option Str} {ln : Nat} {tk : Str} (O : LexO od y nm a1 a2 st ln tk) : od.cls = .type "dict" := let ⟨_, N⟩ := O; N.cls
theorem SioO.cls {z : Str} {p : Nat} (O : SioO od z p) : od.cls = .type "dict" := let ⟨_, _, _, N⟩ := O; N.cls
/-- a lexer is made -/
theorem mk722 (G : Gr w h) (hA : A.depth < 780)
    (k : ∀ h' x dx od' y dy oy a1 a2, Ext h h' → h'.get? x = some (instObj 722 dx) → h'.get? dx = some od' → h'.get? y = some (instObj 587 dy) → h'.get? dy = some oy → h'.get? a1 = some dqO → h'.get? a2 = some dqO → SioO oy txt 0 → LexO od' y nm a1 a2 (some lxSp) 1 (mkS []) →
      h.get? x = none → h.get? dx = none → h.get? y = none → h.get? dy = none → h.get? a1 = none → h.get? a2 = none → (∀ a ∈ [x, y, a1, a2], a ∉ [dx, dy]) → dx ≠ dy → P (.ref x) h') :
    WC w A (.call (.ref 722) ⟨[.str txt t, .str nm t', .bool true], []⟩) h P := fun s hs => by
  subst hs
  obtain ⟨h, g, d, t'', os⟩ := s
  have X := G.k
  have e1 : Ext h ((h.push emptyDict).push (instObj 722 h.objs.size)) := fun b o e => Heap.get?_push_of_some _ (Heap.get?_push_of_some _ e)
  have hx : ((h.push emptyDict).push (instObj 722 h.objs.size)).get? (h.objs.size + 1) = some (instObj 722 h.objs.size) := Heap.get?_push_at (by rw [Heap.size_push]) rfl
  have hd : ((h.push emptyDict).push (instObj 722 h.objs.size)).get? h.objs.size = some emptyDict := Heap.get?_push_of_some _ (Heap.get?_push_size _ rfl)
  have hxd : h.objs.size + 1 ≠ h.objs.size := Nat.succ_ne_self _
  refine make_core (init := .ref 646) (makes_of X (by kernel_rfl)) (looks_findIn X (by kernel_rfl)) (fun self => bind_fn X self (by kernel_rfl)) (.inl rfl) ?_
  refine WC.run (c646 (txt := txt) (nm := nm) (P := fun v h' => v = .none ∧ P (.ref (h.objs.size + 1)) h') (h := (h.push emptyDict).push (instObj 722 h.objs.size)) (g := hideAll ((h.push emptyDict).push (instObj 722 h.objs.size)) [h.objs.size])
    ?_ (fun b o q => of_hideAll _ q) (hideAll_get _ hx (by simp)) hd (hideAll_none _ (.head _)) ?_ fun h' od' y dy oy a1 a2 x' b1 b2 b3 b4 b5 b6 b7 n1 n2 n3 n4 n5 => ⟨rfl, ?_⟩)
    rfl (s₀ := ⟨h, g, d, t'', os⟩) ⟨rfl, rfl, rfl⟩ fun v s' l p => ?_
  · exact G.keeps fun b o q => hideAll_get _ (e1 b o q) (fun z => by rw [List.mem_singleton.mp z, get_size] at q; cases q)
  · have : (Code.builtin "type.__call__" ⟨[.ref 722, .str txt t, .str nm t', .bool true], []⟩).weight ≤ 5 := by show (1 : Nat) ≤ 5; decide
    show A.depth + _ < 790
    omega
  · have hn : ∀ a, ((h.push emptyDict).push (instObj 722 h.objs.size)).get? a = none → h.get? a = none := fun a ha => by
      cases q : h.get? a with
      | none => rfl
      | some o => rw [e1 _ _ q] at ha; cases ha
    refine k h' _ _ od' y dy oy a1 a2 (fun b o q => x' b o (fun z => by rw [List.mem_singleton.mp z, get_size] at q; cases q) (e1 b o q)) (x' _ _ (by simp) hx) b1 b2 b3 b4 b5 b6 b7 (get_above (Nat.le_succ _)) (get_size _) (hn _ n1) (hn _ n2) (hn _ n3) (hn _ n4) (fun a ha hb => ?_) (ne_none hd n2)
    have ca : ∃ oa, h'.get? a = some oa ∧ oa.cls ≠ .type "dict" := by
      simp only [List.mem_cons, List.not_mem_nil, or_false] at ha
      rcases ha with rfl | rfl | rfl | rfl
      · exact ⟨_, x' _ _ (by simp) hx, by simp⟩
      · exact ⟨_, b2, by simp⟩
      · exact ⟨_, b4, by simp [dqO]⟩
      · exact ⟨_, b5, by simp [dqO]⟩
    obtain ⟨oa, ga, ca⟩ := ca
    simp only [List.mem_cons, List.not_mem_nil, or_false] at hb
    rcases hb with rfl | rfl
    · rw [b1] at ga; cases ga; exact ca b7.cls
    · rw [b3] at ga; cases ga; exact ca b6.cls
  · exact ⟨p.1, l, p.2⟩
end
theorem len_line {α : Type} {l : List α} (e : Nat.ble l.length 1000 = true) : l.length ≤ sizeLine := by rw [sizeLine_eq]; exact Nat.le_trans (Nat.le_of_ble_eq_true e) (by decide)
section assign
variable {w : World} {A : Around} {h g : Heap} {env : Env} {F : Flow → Heap → Prop} {U : Unit → Heap → Prop} {rest : List Stmt}
noncomputable abbrev tupO (vs : List Value) : Obj := { cls := .type "tuple", data := .seq vs.toArray }
noncomputable abbrev lstN (n : Nat) (vs : List Value) : Obj := { cls := .type "list", data := .seq vs.toArray n }
noncomputable abbrev lstO (vs : List Value) : Obj := lstN 0 vs
/-- a new list, a new tuple -/
noncomputable def NewL (P : Value → Heap → Prop) (vs : List Value) (h : Heap) : Prop := vs.length ≤ sizeLine ∧ P (.ref h.objs.size) (h.push (lstO vs))
noncomputable def NewT (P : Value → Heap → Prop) (vs : List Value) (h : Heap) : Prop := vs.length ≤ sizeLine ∧ P (.ref h.objs.size) (h.push (tupO vs))
theorem newT {P : Value → Heap → Prop} {vs : List Value} (p : P (.ref h.objs.size) (h.push (tupO vs))) (hz : Nat.ble vs.length 1000 = true := by rfl) : NewT P vs h := ⟨len_line hz, p⟩
theorem W_tupleN {elts : List Expr} {k : Nat} {pos : Pos} {P : Value → Heap → Prop} (H : W w A (spliced (backTo pos (starEach elts env))) h (NewT P)) : W w A (eval (.Tuple elts k pos) env) h P := W_tuple H
theorem W_listN {elts : List Expr} {pos : Pos} {P : Value → Heap → Prop} (H : W w A (spliced (backTo pos (starEach elts env))) h (NewL P)) : W w A (eval (.List elts pos) env) h P := W_list H
theorem W_asgT {elts : List Expr} {k : Nat} {tpos pos : Pos} {value : Expr} (H : W w A (eval value env) h fun v h₁ => W w A (assign (.Tuple elts k tpos) env v) h₁ fun _ h₂ => W w A (execs rest env) h₂ F)
    (hs' : swapsWithSole [.Tuple elts k tpos] value pos.line env = pure false := by with_unfolding_all rfl) (hw : swappedStores [.Tuple elts k tpos] value env = pure none := by with_unfolding_all rfl) :
    W w A (execs (.Assign [.Tuple elts k tpos] value pos :: rest) env) h F :=
  W_cons fun s hs => Assign_Tuple (H.run hs .rfl' fun v s₁ l₁ p₁ => p₁.run rfl l₁ fun _ _ l p => ⟨l, p⟩) hs' hw
theorem a_name {x : Str} {pos : Pos} {v : Value} (H : W w A (storeName env x v) h U) : W w A (assign (.Name x pos) env v) h U := fun s hs => assign_Name (H.run hs .rfl' fun _ _ l p => ⟨l, p⟩)
theorem a_sub {o i : Expr} {pos : Pos} {v : Value} (H : W w A (eval o env) h fun ov h₁ => W w A (eval i env) h₁ fun iv h₂ => W w A (setItem ov iv v) h₂ U) : W w A (assign (.Subscript o i pos) env v) h U := fun s hs => by
  rw [assign_Subscript]
  refine wpAny_bind (wpAny_holding (H.run hs .rfl' fun ov s₁ l₁ p₁ => wpAny_bind (wpAny_holding (p₁.run rfl l₁ fun iv s₂ l₂ p₂ => wpAny_bind (wpAny_standAt ?_)))))
  first
    | exact wpAny_holding (p₂.run rfl l₂ fun _ _ l p => ⟨l, p⟩)
    | exact wpAny_bind (wpAny_holding (p₂.run rfl l₂ fun _ _ l p => wpAny_release ⟨l, p⟩))
theorem a_io0 (p : U () h) : W w A (assignInOrder [] []) h U := W.pure p
theorem a_io {t : Value → Sem Unit} {ts : List (Value → Sem Unit)} {x : Value} {xs : List Value} (H : W w A (t x) h fun _ h₁ => W w A (assignInOrder ts xs) h₁ U) : W w A (assignInOrder (t :: ts) (x :: xs)) h U := fun s hs => by
  show wpAny _ _ (do holding xs (t x); assignInOrder ts xs) _ _ _
  exact wpAny_bind (wpAny_holding (H.run hs .rfl' fun _ s₁ l₁ p₁ => p₁.run rfl l₁ fun _ _ l p => ⟨l, p⟩))
theorem a_tup {elts : List Expr} {k : Nat} {pos : Pos} {t : Addr} {items : List Value} {fs : List (Value → Sem Unit)} (hh : A.handled = none) (ht : h.get? t = some (tupO items))
    (hf : (assignEach elts env).map (·.2) = fs) (hn : fs.length = items.length) (hstar : (assignEach elts env).findIdx? (·.1) = none)
    (H : ∀ h', Ext h h' → W w A (assignInOrder fs items) h' U) : W w A (assign (.Tuple elts k pos) env (.ref t)) h U := fun s hs => by
  subst hs
  refine wpAny_assign_Tuple hh ⟨_, ht, rfl, 0, rfl⟩ (by rw [← hf] at hn; simpa using hn) hstar fun h' e => ?_
  rw [hf]
  exact (H h' fun b o q => e b o (Nat.ne_of_lt (Heap.lt_size q)) q).run rfl ⟨rfl, rfl, rfl⟩ fun _ _ l p => ⟨l, p⟩
theorem a_tup2 {e1 e2 : Expr} {k : Nat} {pos : Pos} {t : Addr} {x1 x2 : Value} (hh : A.handled = none) (ht : h.get? t = some (tupO [x1, x2]))
    (H : ∀ h', Ext h h' → W w A (assign e1 env x1) h' fun _ h₁ => W w A (assign e2 env x2) h₁ U)
    (hf : (assignEach [e1, e2] env).map (·.2) = [assign e1 env, assign e2 env] := by with_unfolding_all rfl) (hstar : (assignEach [e1, e2] env).findIdx? (·.1) = none := by with_unfolding_all rfl) : W w A (assign (.Tuple [e1, e2] k pos) env (.ref t)) h U :=
  a_tup hh ht hf rfl hstar fun h' e => a_io ((H h' e).mono fun _ _ q => a_io (q.mono fun _ _ z => a_io0 z))
theorem a_tup3 {e1 e2 e3 : Expr} {k : Nat} {pos : Pos} {t : Addr} {x1 x2 x3 : Value} (hh : A.handled = none) (ht : h.get? t = some (tupO [x1, x2, x3]))
    (H : ∀ h', Ext h h' → W w A (assign e1 env x1) h' fun _ h₁ => W w A (assign e2 env x2) h₁ fun _ h₂ => W w A (assign e3 env x3) h₂ U)
    (hf : (assignEach [e1, e2, e3] env).map (·.2) = [assign e1 env, assign e2 env, assign e3 env] := by with_unfolding_all rfl) (hstar : (assignEach [e1, e2, e3] env).findIdx? (·.1) = none := by with_unfolding_all rfl) : W w A (assign (.Tuple [e1, e2, e3] k pos) env (.ref t)) h U :=
  a_tup hh ht hf rfl hstar fun h' e => a_io ((H h' e).mono fun _ _ q => a_io (q.mono fun _ _ z => a_io (z.mono fun _ _ y => a_io0 y)))
theorem a_tup5 {e1 e2 e3 e4 e5 : Expr} {k : Nat} {pos : Pos} {t : Addr} {x1 x2 x3 x4 x5 : Value} (hh : A.handled = none) (ht : h.get? t = some (tupO [x1, x2, x3, x4, x5]))
    (H : ∀ h', Ext h h' → W w A (assign e1 env x1) h' fun _ h₁ => W w A (assign e2 env x2) h₁ fun _ h₂ => W w A (assign e3 env x3) h₂ fun _ h₃ => W w A (assign e4 env x4) h₃ fun _ h₄ => W w A (assign e5 env x5) h₄ U)
    (hf : (assignEach [e1, e2, e3, e4, e5] env).map (·.2) = [assign e1 env, assign e2 env, assign e3 env, assign e4 env, assign e5 env] := by with_unfolding_all rfl) (hstar : (assignEach [e1, e2, e3, e4, e5] env).findIdx? (·.1) = none := by with_unfolding_all rfl) : W w A (assign (.Tuple [e1, e2, e3, e4, e5] k pos) env (.ref t)) h U :=
  a_tup hh ht hf rfl hstar fun h' e => a_io ((H h' e).mono fun _ _ q => a_io (q.mono fun _ _ z => a_io (z.mono fun _ _ y => a_io (y.mono fun _ _ x => a_io (x.mono fun _ _ v => a_io0 v)))))
/-- two or three names with a display: the stores run backwards -/
theorem W_sw2 {e1 e2 : Expr} {k : Nat} {tpos pos : Pos} {value : Expr} {n1 n2 : Str} (hh : A.handled = none)
    (H : W w A (eval value env) h fun v h₁ => ∃ t x1 x2, v = .ref t ∧ h₁.get? t = some (tupO [x1, x2]) ∧ ∀ h', Ext h₁ h' → W w A (storeName env n2 x2) h' fun _ h₂ => W w A (storeName env n1 x1) h₂ fun _ h₃ => W w A (execs rest env) h₃ F)
    (hs' : swapsWithSole [.Tuple [e1, e2] k tpos] value pos.line env = pure false := by with_unfolding_all rfl) (hw : swappedStores [.Tuple [e1, e2] k tpos] value env = pure (some [n1, n2]) := by with_unfolding_all rfl) :
    W w A (execs (.Assign [.Tuple [e1, e2] k tpos] value pos :: rest) env) h F :=
  W_cons fun s hs => Assign_Tuple_swapped (names := [n1, n2]) (H.run hs .rfl' fun v s₁ l₁ p₁ => by
    obtain ⟨t, x1, x2, rfl, ht, p⟩ := p₁
    refine unpackItems_tuple (items := [x1, x2].toArray) hh ⟨_, ht, rfl, 0, rfl⟩ fun h' e => ?_
    have P := p h' fun b o q => e b o (Nat.ne_of_lt (Heap.lt_size q)) q
    show wpAny _ _ (do holding [x1] (bindName env n2 x2); (do holding [] (bindName env n1 x1); pure ())) _ _ _
    refine wpAny_bind (wpAny_holding (bindName_ (P.run rfl (s₀ := s) ⟨l₁.1, l₁.2.1, l₁.2.2⟩ fun _ s₂ l₂ p₂ => wpAny_bind (wpAny_holding (bindName_ (p₂.run rfl l₂ fun _ s₃ l₃ p₃ => wpAny_pure ⟨l₃, p₃⟩))))))) hs' hw
theorem W_sw3 {e1 e2 e3 : Expr} {k : Nat} {tpos pos : Pos} {value : Expr} {n1 n2 n3 : Str} (hh : A.handled = none)
    (H : W w A (eval value env) h fun v h₁ => ∃ t x1 x2 x3, v = .ref t ∧ h₁.get? t = some (tupO [x1, x2, x3]) ∧ ∀ h', Ext h₁ h' → W w A (storeName env n3 x3) h' fun _ h₂ => W w A (storeName env n2 x2) h₂ fun _ h₃ => W w A (storeName env n1 x1) h₃ fun _ h₄ => W w A (execs rest env) h₄ F)
    (hs' : swapsWithSole [.Tuple [e1, e2, e3] k tpos] value pos.line env = pure false := by with_unfolding_all rfl) (hw : swappedStores [.Tuple [e1, e2, e3] k tpos] value env = pure (some [n1, n2, n3]) := by with_unfolding_all rfl) :
    W w A (execs (.Assign [.Tuple [e1, e2, e3] k tpos] value pos :: rest) env) h F :=
  W_cons fun s hs => Assign_Tuple_swapped (names := [n1, n2, n3]) (H.run hs .rfl' fun v s₁ l₁ p₁ => by
    obtain ⟨t, x1, x2, x3, rfl, ht, p⟩ := p₁
    refine unpackItems_tuple (items := [x1, x2, x3].toArray) hh ⟨_, ht, rfl, 0, rfl⟩ fun h' e => ?_
    have P := p h' fun b o q => e b o (Nat.ne_of_lt (Heap.lt_size q)) q
    show wpAny _ _ (do holding [x2, x1] (bindName env n3 x3); (do holding [x1] (bindName env n2 x2); (do holding [] (bindName env n1 x1); pure ()))) _ _ _
    refine wpAny_bind (wpAny_holding (bindName_ (P.run rfl (s₀ := s) ⟨l₁.1, l₁.2.1, l₁.2.2⟩ fun _ s₂ l₂ p₂ => wpAny_bind (wpAny_holding (bindName_ (p₂.run rfl l₂ fun _ s₃ l₃ p₃ => wpAny_bind (wpAny_holding (bindName_ (p₃.run rfl l₃ fun _ s₄ l₄ p₄ => wpAny_pure ⟨l₄, p₄⟩)))))))))) hs' hw
end assign
/-! ### dicts with str keys, as lists of pairs -/
noncomputable abbrev DO (w : World) (o : Obj) (kvs : List (Str × Value)) : Prop := o.IsDictOf (PySem.strKind pw w) kvs
/-- the pairs of values tell the pairs of the plain list -/
inductive RelL {α : Type} (R : Value → α → Prop) : List (Str × Value) → List (Str × α) → Prop
  | nil : RelL R [] []
  | cons {k : Str} {v : Value} {a : α} {kvs : List (Str × Value)} {l : List (Str × α)} : R v a → RelL R kvs l → RelL R ((k, v) :: kvs) ((k, a) :: l)
noncomputable def look {α : Type} (l : List (Str × α)) (k : Str) : Option α := (l.find? fun kv => kv.1 = k).map (·.2)
noncomputable def put {α : Type} (l : List (Str × α)) (k : Str) (a : α) : List (Str × α) := if l.any (fun kv => kv.1 = k) then l.map (fun kv => if kv.1 = k then (kv.1, a) else kv) else l ++ [(k, a)]
section rel
variable {α : Type} {R R' : Value → α → Prop} {kvs : List (Str × Value)} {l : List (Str × α)}
theorem RelL.mono (r : RelL R kvs l) (k : ∀ v a, R v a → R' v a) : RelL R' kvs l := by
  induction r with
  | nil => exact .nil
  | cons h _ ih => exact .cons (k _ _ h) ih
theorem RelL.length (r : RelL R kvs l) : kvs.length = l.length := by
  induction r with
  | nil => rfl
  | cons _ _ ih => simp [ih]
theorem RelL.keys (r : RelL R kvs l) : kvs.map (·.1) = l.map (·.1) := by
  induction r with
  | nil => rfl
  | cons _ _ ih => simp [ih]
theorem RelL.get (r : RelL R kvs l) : ∀ {i : Nat} {k : Str} {v : Value}, kvs[i]? = some (k, v) → ∃ a, l[i]? = some (k, a) ∧ R v a := by
  induction r with
  | nil => intro i k v h; simp at h
  | cons h _ ih =>
    intro i k v e
    cases i with
    | zero => simp only [List.getElem?_cons_zero, Option.some.injEq, Prod.mk.injEq] at e; obtain ⟨rfl, rfl⟩ := e; exact ⟨_, rfl, h⟩
    | succ j => simp only [List.getElem?_cons_succ] at e ⊢; exact ih e
theorem RelL.look (r : RelL R kvs l) (k : Str) : (valueAt kvs k = none ∧ look l k = none) ∨ ∃ v a, valueAt kvs k = some v ∧ NQ.look l k = some a ∧ R v a := by
  induction r with
  | nil => exact .inl ⟨rfl, rfl⟩
  | @cons k' v a kvs l h _ ih =>
    by_cases q : k' = k
    · exact .inr ⟨v, a, by simp [valueAt, q], by simp [NQ.look, q], h⟩
    · have e1 : valueAt ((k', v) :: kvs) k = valueAt kvs k := by simp [valueAt, q]
      have e2 : NQ.look ((k', a) :: l) k = NQ.look l k := by simp [NQ.look, q]
      rw [e1, e2]; exact ih
theorem RelL.append {kvs' : List (Str × Value)} {l' : List (Str × α)} (r : RelL R kvs l) (r' : RelL R kvs' l') : RelL R (kvs ++ kvs') (l ++ l') := by
  induction r with
  | nil => exact r'
  | cons h _ ih => exact .cons h ih
theorem RelL.any (r : RelL R kvs l) (k : Str) : kvs.any (fun kv => kv.1 = k) = l.any (fun kv => kv.1 = k) := by
  induction r with
  | nil => rfl
  | cons _ _ ih => simp only [List.any_cons, ih]
theorem RelL.put (r : RelL R kvs l) {k : Str} {v : Value} {a : α} (h : R v a) : RelL R (stored kvs k v) (put l k a) := by
  unfold stored NQ.put
  rw [r.any k]
  split
  · rename_i hany
    clear hany
    induction r with
    | nil => exact .nil
    | @cons k' v' a' kvs l h' _ ih =>
      rw [List.map_cons, List.map_cons]
      by_cases q : k' = k
      · simp only [q, if_true]; exact .cons h ih
      · simp only [q, if_false]; exact .cons h' ih
  · exact r.append (.cons h .nil)
end rel
theorem look_put {α : Type} (l : List (Str × α)) (k : Str) (a : α) (k' : Str) : look (put l k a) k' = if k' = k then some a else look l k' := by
  unfold put
  by_cases h : l.any (fun kv => kv.1 = k) = true
  · rw [if_pos h]
    induction l with
    | nil => simp at h
    | cons p l ih =>
      obtain ⟨kp, ap⟩ := p
      by_cases q : kp = k
      · subst q
        by_cases z : k' = kp
        · subst z; simp [look]
        · rw [if_neg z]
          have z' : ¬ kp = k' := fun e => z e.symm
          by_cases h2 : l.any (fun kv => kv.1 = kp) = true
          · have := ih h2
            rw [if_neg z] at this
            simpa [look, z'] using this
          · have e : l.map (fun kv => if kv.1 = kp then (kv.1, a) else kv) = l := by
              rw [List.map_congr_left (g := id) (fun x hx => ?_), List.map_id]
              have : ¬ x.1 = kp := fun e => h2 (List.any_eq_true.mpr ⟨x, hx, by simpa using e⟩)
              simp [this]
            rw [List.map_cons, e]
            simp [look, z']
      · have h2 : l.any (fun kv => kv.1 = k) = true := by simpa [q] using h
        have := ih h2
        by_cases z : kp = k'
        · subst z; simp [look, q]
        · simpa [look, q, z] using this
  · rw [if_neg h]
    have hn : ∀ x ∈ l, ¬ x.1 = k := fun x hx e => h (List.any_eq_true.mpr ⟨x, hx, by simpa using e⟩)
    unfold look
    rw [List.find?_append]
    by_cases z : k' = k
    · subst z
      have : l.find? (fun kv => kv.1 = k') = none := List.find?_eq_none.mpr fun x hx => by simpa using hn x hx
      simp [this]
    · rw [if_neg z]
      have z' : ¬ k = k' := fun e => z e.symm
      cases l.find? (fun kv => kv.1 = k') <;> simp [z']
/-- a dict object that tells a list of pairs -/
noncomputable def DR {α : Type} (w : World) (R : Value → α → Prop) (o : Obj) (l : List (Str × α)) : Prop := ∃ kvs, DO w o kvs ∧ RelL R kvs l
section dict
variable {α : Type} {w : World} {R R' : Value → α → Prop} {o : Obj} {l : List (Str × α)} {A : Around} {h g : Heap} {P : Value → Heap → Prop} {U : Unit → Heap → Prop} {d : Addr} {k : Str} {t : Tok} {env : Env} {pos : Pos}
theorem DR.mono (D : DR w R o l) (f : ∀ v a, R v a → R' v a) : DR w R' o l := let ⟨kvs, a, r⟩ := D; ⟨kvs, a, r.mono f⟩
theorem DR.of (hd : h.get? d = some o) {kvs : List (Str × Value)} (D : DO w o kvs) : h.DictOf (PySem.strKind pw w) d kvs := Heap.dictOf_iff.mpr ⟨o, hd, D⟩
theorem DR.nodup (D : DR w R o l) : (l.map (·.1)).Nodup := by
  obtain ⟨kvs, ⟨_, _, _, _, _, _, n⟩, r⟩ := D
  rw [← r.keys]; exact n
theorem is_key : (PySem.strKind pw w).is k (.str k t) = true := by simp [PySem.strKind, Value.isStrOf]
theorem DR.new : DR w R emptyDict [] := by
  obtain ⟨o', ho', hd⟩ := Heap.dictOf_iff.mp (Heap.DictOf.new (knd := PySem.strKind pw w) ({} : Heap))
  have e : o' = emptyDict := by
    have : (({} : Heap).push emptyDict).get? ({} : Heap).objs.size = some emptyDict := Heap.get?_push_size _ rfl
    rw [this] at ho'; exact (Option.some.inj ho').symm
  exact ⟨[], e ▸ hd, .nil⟩
theorem d_get {a : α} (hd : h.get? d = some o) (D : DR w R o l) (hk : look l k = some a) (p : ∀ v, R v a → P v h) : W w A (getItem (.ref d) (.str k t)) h P := fun s hs => by
  subst hs
  obtain ⟨kvs, D, r⟩ := D
  rcases r.look k with ⟨_, q⟩ | ⟨v, a', e1, e2, q⟩
  · rw [q] at hk; cases hk
  · rw [e2] at hk; cases hk
    exact wpAny_getItem_of is_key (DR.of hd D).mapOf e1 ⟨⟨rfl, rfl, rfl⟩, p v q⟩
theorem d_sub {value slice : Expr} {a : α} (hd : h.get? d = some o) (D : DR w R o l) (hk : look l k = some a) (p : ∀ v, R v a → P v h)
    (hs' : subscripted slice false (.ref d) (.str k t) = operate [.ref d, .str k t] (getItem (.ref d) (.str k t)) := by with_unfolding_all rfl) : W w A (subscriptTail value slice (.ref d) (.str k t)) h P := fun s hs => by
  subst hs
  obtain ⟨kvs, D, r⟩ := D
  rcases r.look k with ⟨_, q⟩ | ⟨v, a', e1, e2, q⟩
  · rw [q] at hk; cases hk
  · rw [e2] at hk; cases hk
    exact subscriptTail_builtinR (DR.of hd D).typeIs slot_dict_getitem.lookup (wpAny_getItem_of (Q := fun r s' => r = v ∧ (Like s s' ∧ P r s'.heap)) is_key (DR.of hd D).mapOf e1 ⟨rfl, ⟨rfl, rfl, rfl⟩, p v q⟩) hs'
theorem d_set {v : Value} {a : α} (hd : h.get? d = some o) (D : DR w R o l) (hv : R v a) (hl : l.length ≤ 100000) (p : ∀ h' o', h'.get? d = some o' → DR w R o' (put l k a) → Heap.SameBut d h h' → U () h') : W w A (setItem (.ref d) (.str k t) v) h U := fun s hs => by
  subst hs
  obtain ⟨kvs, D, r⟩ := D
  refine wpAny_setItem_pairs is_key (DR.of hd D) (fun h' hd' hs => ?_) (by rw [r.length, sizeLine_eq]; omega)
  obtain ⟨o', ho', D'⟩ := Heap.dictOf_iff.mp hd'
  exact ⟨⟨rfl, rfl, rfl⟩, p h' o' ho' ⟨_, D', r.put hv⟩ hs⟩
theorem d_in (hd : h.get? d = some o) (D : DR w R o l) (hne : (d == sysModules) = false) (p : P (.bool (look l k).isSome) h) : W w A (compareOp .In (.str k t) (.ref d)) h P := fun s hs => by
  subst hs
  obtain ⟨kvs, D, r⟩ := D
  refine wpAny_in_of is_key hne (DR.of hd D).mapOf ⟨⟨rfl, rfl, rfl⟩, ?_⟩
  rcases r.look k with ⟨q1, q2⟩ | ⟨v, a', e1, e2, q⟩
  · rw [q2] at p; rw [q1]; exact p
  · rw [e2] at p; rw [e1]; exact p
theorem d_getm {pl : Sem Bool} {Q : Value × List Value → Heap → Prop} (hd : h.get? d = some o) (D : DR w R o l) (p : Q (.builtin "dict.get", [.ref d]) h) : W w A (getMethod (.ref d) s_get pl) h Q := fun s hs => by
  subst hs
  obtain ⟨kvs, D, r⟩ := D
  have hD := DR.of hd D
  rw [show s_get = Str.ofString "get" from by decide +kernel]
  exact getMethod_builtin hD.typeIs PySem.F.plainAttrs_dict PySem.F.slot_dict_get PySem.F.type_dict_get hD.mapOf.noDict ⟨.rfl', p⟩
theorem d_getc {dflt : Value} (hd : h.get? d = some o) (D : DR w R o l) (hne : (d == sysModules) = false) (p1 : look l k = none → P dflt h) (p2 : ∀ a v, look l k = some a → R v a → P v h) : W w A (call (.builtin "dict.get") [.ref d, .str k t, dflt]) h P := fun s hs => by
  subst hs
  obtain ⟨kvs, D, r⟩ := D
  have hD := DR.of hd D
  refine call_meetsIn PySem.F.slot_dict_get hD.typeIs PySem.F.entry_dict_get (PySem.F.args_dict_get_3 _ _ _) (meets_dict_get_default (PySem.strKind pw w) d (k := k) is_key hne dflt) ⟨_, hD.mapOf, ⟨⟨rfl, rfl, rfl⟩, ?_⟩⟩
  rcases r.look k with ⟨q1, q2⟩ | ⟨v, a', e1, e2, q⟩
  · rw [q1]; exact p1 q2
  · rw [e1]; exact p2 a' v e2 q
theorem W_dict0 (p : P (.ref h.objs.size) (h.push emptyDict)) : W w A (eval (.Dict [] [] pos) env) h P := fun s hs => by
  subst hs
  rw [eval_Dict_empty]
  exact wpAny_bind (wpAny_standAt (wpAny_newObj_type ⟨⟨rfl, rfl, rfl⟩, p⟩))
end dict
/-! ### loops over what stays -/
noncomputable abbrev Inv := Nat → Heap → (Str → Option Value) → List (Addr × Obj) → Prop
section loops
variable {w : World} {A : Around} {h g : Heap} {env : Env} {F : Flow → Heap → Prop} {rest : List Stmt} {L : Addr}
noncomputable def FE (J : Inv) (L : Addr) (i : Nat) (g : Heap) (p : Addr × Obj) (F : Flow → Heap → Prop) (f : Flow) (h : Heap) : Prop := match f with
  | .next => ∃ g' m mu, Ext g g' ∧ St g' L h m (p :: mu) ∧ J i g' m mu
  | .cont => ∃ g' m mu, Ext g g' ∧ St g' L h m (p :: mu) ∧ J i g' m mu
  | .brk => F .next h
  | .ret v => F (.ret v) h
theorem fe_next {J : Inv} {i : Nat} {p : Addr × Obj} {g' : Heap} {m : Str → Option Value} {mu : List (Addr × Obj)} (e : Ext g g') (S : St g' L h m (p :: mu)) (j : J i g' m mu) : FE J L i g p F .next h := ⟨g', m, mu, e, S, j⟩
/-- what an iterator at a, of n turns, is: its object at turn i, what turn i gives -/
structure ItR (w : World) (A : Around) (target : Expr) (L a : Addr) (n : Nat) (O : Nat → Obj → Prop) (V : Nat → Value → Heap → Prop) (g : Heap) : Prop where
  nx : ∀ i h o g' m mu, i < n → Ext g g' → O i o → St g' L h m ((a, o) :: mu) → W w A (pyNext (.ref a)) h fun r h' => ∃ v, r = some v ∧ W w A (letOwnedTupleGo target (.ref a) v) h' fun _ h'' => ∃ o', V i v h'' ∧ O (i + 1) o' ∧ St g' L h'' m ((a, o') :: mu)
  en : ∀ h o g' m mu, Ext g g' → O n o → St g' L h m ((a, o) :: mu) → W w A (pyNext (.ref a)) h fun r h' => r = none ∧ St g' L h' m mu
theorem W_forG {target iter : Expr} {body orelse : List Stmt} {pos : Pos} (H : W w A (eval iter env) h fun x h₁ => W w A (pyIter x) h₁ fun it h₂ => ∃ (a : Addr) (n : Nat) (O : Nat → Obj → Prop) (V : Nat → Value → Heap → Prop) (g : Heap) (m : Str → Option Value) (mu : List (Addr × Obj)) (o : Obj) (J : Inv),
      it = .ref a ∧ O 0 o ∧ St g L h₂ m ((a, o) :: mu) ∧ J 0 g m mu ∧ ItR w A target L a n O V g ∧
      (∀ i v h o (g' : Heap) m mu, i < n → Ext g g' → V i v h → St g' L h m ((a, o) :: mu) → J i g' m mu → W w A (assign target env v) h fun _ h₂ => W w A (execs body env) h₂ (FE J L (i + 1) g' (a, o) (Sq w A env rest F))) ∧
      (∀ h (g' : Heap) m mu, Ext g g' → St g' L h m mu → J n g' m mu → W w A (execs orelse env) h (Sq w A env rest F)))
    (hf : ∀ x, foldedSetIterable iter env x = pure x := by intro _; with_unfolding_all rfl) : W w A (execs (.For target iter body orelse pos :: rest) env) h F := by
  refine W_for (H.mono fun x h₁ H₁ => H₁.mono fun it h₂ H₂ => ?_) hf
  obtain ⟨a, n, O, V, g, m, mu, o, J, rfl, o0, S, j0, ⟨nx, en⟩, tn, fin⟩ := H₂
  refine ⟨fun k h => ∃ i o g' m mu, k + i = n ∧ Ext g g' ∧ O i o ∧ St g' L h m ((a, o) :: mu) ∧ J i g' m mu, n, ⟨0, o, g, m, mu, rfl, Ext.refl g, o0, S, j0⟩, ?_⟩
  rintro k h ⟨i, o, g', m, mu, hk, e, oi, S, j⟩
  cases k with
  | zero =>
    have hi : i = n := by omega
    subst hi
    refine (en h o g' m mu e oi S).mono fun r h' q => ?_
    obtain ⟨rfl, S'⟩ := q
    exact fin h' g' m mu e S' j
  | succ k =>
    refine (nx i h o g' m mu (by omega) e oi S).mono fun r h' q => ?_
    obtain ⟨v, rfl, q⟩ := q
    show W w A (letOwnedTupleGo target (.ref a) v) h' fun _ h₁ => W w A (assign target env v) h₁ fun _ h₂ => W w A (execs body env) h₂ (LpE _ (k + 1) (Sq w A env rest F))
    refine q.mono fun _ h'' q => ?_
    obtain ⟨o', vi, oi', S'⟩ := q
    refine (tn i v h'' o' g' m mu (by omega) e vi S' j).mono fun _ h₃ q => q.mono fun f h₄ q => ?_
    cases f with
    | next => obtain ⟨g'', m', mu', e', S'', j'⟩ := q; exact ⟨k, Nat.lt_succ_self _, i + 1, o', g'', m', mu', by omega, e.trans e', oi', S'', j'⟩
    | cont => obtain ⟨g'', m', mu', e', S'', j'⟩ := q; exact ⟨k, Nat.lt_succ_self _, i + 1, o', g'', m', mu', by omega, e.trans e', oi', S'', j'⟩
    | brk => exact q
    | ret v => exact q
/-! #### a list -/
noncomputable def liO (l : Addr) (i : Nat) (o : Obj) : Prop := o.cls = .type "list_iterator" ∧ o.data = .fields #[.ref l, .int i 0]
theorem it_list {target : Expr} {l a : Addr} {vs : List Value} {ln : Nat} (hh : A.handled = none) (hl : g.get? l = some (lstN ln vs)) (hg : (∃ x p, target = .Name x p) ∨ (∃ es k p, target = .Tuple es k p) ∧ ∀ v ∈ vs, ∃ T, v = .ref T) :
    ItR w A target L a vs.length (liO l) (fun i v _ => vs[i]? = some v) g where
  nx i h o g' m mu hi e oi S := fun s hs => by
    subst hs
    have hx : vs[i]? = some vs[i] := List.getElem?_eq_getElem hi
    refine wpAny_pyNext_list_item (l := l) (items := vs.toArray) (i := i) (x := vs[i]) ⟨o, S.get0, oi.1, oi.2⟩ ⟨_, S.keep _ _ (e _ _ hl), rfl, ln, rfl⟩ (by simp) fun h' hit hs => ⟨⟨rfl, rfl, rfl⟩, _, rfl, ?_⟩
    obtain ⟨o', ho', oc, od⟩ := id hit
    have S' := S.upd0 hs.extBut ho'
    intro s' hs'
    rcases hg with ⟨x, p, rfl⟩ | ⟨⟨es, k, p, rfl⟩, hv⟩
    · exact wpAny_pure ⟨.rfl', o', hx, ⟨oc, od⟩, hs' ▸ S'⟩
    · obtain ⟨T, eT⟩ := hv _ (List.getElem_mem hi)
      have r := wpAny_letOwnedTupleGo_listiter (prog := pw) (w := w) (A := A) (E := fun _ _ => False) (elts := es) (x1 := k) (pos := p) (I := a) (l := l) (T := T) (i := i + 1) (s := s') (Q := fun _ s'' => Like s' s'' ∧ ∃ o', vs[i]? = some vs[i] ∧ liO l (i + 1) o' ∧ St g' L s''.heap m ((a, o') :: mu))
        ⟨o', by rw [hs']; exact ho', oc, od⟩ ⟨.rfl', o', hx, ⟨oc, od⟩, by rw [hs']; exact S'⟩
      rw [← eT] at r
      exact r
  en h o g' m mu e oi S := fun s hs => by
    subst hs
    exact wpAny_pyNext_list_end (l := l) (items := vs.toArray) (i := vs.length) hh ⟨o, S.get0, oi.1, oi.2⟩ ⟨_, S.keep _ _ (e _ _ hl), rfl, ln, rfl⟩ (by simp) fun h' hs => ⟨⟨rfl, rfl, rfl⟩, rfl, by
      have D := S.mus _ (.head _)
      have N := List.nodup_cons.mp S.nd
      obtain ⟨oL, es, ep, hL, r⟩ := S.ns
      refine ⟨⟨oL, es, ep, hs _ _ (Ne.symm D.2.1) hL, r⟩, fun b x q => hs b x (fun z => by rw [z, D.2.2] at q; cases q) (S.keep b x q), S.gL, fun p hp => ?_, N.2⟩
      have T := S.mus p (.tail _ hp)
      exact ⟨hs _ _ (fun z => N.1 (List.mem_map.mpr ⟨p, hp, z⟩)) T.1, T.2⟩⟩
theorem drop_it {h h' : Heap} {a : Addr} {o : Obj} {g : Heap} {m : Str → Option Value} {mu : List (Addr × Obj)} (S : St g L h m ((a, o) :: mu)) (hs : Heap.ExtBut a h h') : St g L h' m mu := by
  have D := S.mus _ (.head _)
  have N := List.nodup_cons.mp S.nd
  obtain ⟨oL, es, ep, hL, r⟩ := S.ns
  refine ⟨⟨oL, es, ep, hs _ _ (Ne.symm D.2.1) hL, r⟩, fun b x q => hs b x (fun z => by rw [z, D.2.2] at q; cases q) (S.keep b x q), S.gL, fun p hp => ?_, N.2⟩
  have T := S.mus p (.tail _ hp)
  exact ⟨hs _ _ (fun z => N.1 (List.mem_map.mpr ⟨p, hp, z⟩)) T.1, T.2⟩
/-- over a list that stays -/
theorem W_forL {target iter : Expr} {body orelse : List Stmt} {pos : Pos} (hh : A.handled = none) (H : W w A (eval iter env) h fun x h₁ => ∃ (l : Addr) (ln : Nat) (vs : List Value) (g : Heap) (m : Str → Option Value) (mu : List (Addr × Obj)) (J : Inv),
      x = .ref l ∧ St g L h₁ m mu ∧ g.get? l = some (lstN ln vs) ∧ ((∃ x p, target = .Name x p) ∨ (∃ es k p, target = .Tuple es k p) ∧ ∀ v ∈ vs, ∃ T, v = .ref T) ∧ J 0 g m mu ∧
      (∀ i v h p (g' : Heap) m mu, vs[i]? = some v → Ext g g' → St g' L h m (p :: mu) → J i g' m mu → W w A (assign target env v) h fun _ h₂ => W w A (execs body env) h₂ (FE J L (i + 1) g' p (Sq w A env rest F))) ∧
      (∀ h (g' : Heap) m mu, Ext g g' → St g' L h m mu → J vs.length g' m mu → W w A (execs orelse env) h (Sq w A env rest F)))
    (hf : ∀ x, foldedSetIterable iter env x = pure x := by intro _; with_unfolding_all rfl) : W w A (execs (.For target iter body orelse pos :: rest) env) h F := by
  refine W_forG (L := L) (H.mono fun x h₁ q => ?_) hf
  obtain ⟨l, ln, vs, g, m, mu, J, rfl, S, hl, hg, j0, tn, fin⟩ := q
  intro s hs
  subst hs
  refine wpAny_pyIter_list (items := vs.toArray) ⟨_, S.keep _ _ hl, rfl, ln, rfl⟩ ⟨⟨rfl, rfl, rfl⟩, ?_⟩
  exact ⟨s.heap.objs.size, vs.length, liO l, fun i v _ => vs[i]? = some v, g, m, mu, _, J, rfl, ⟨rfl, rfl⟩, S.push { cls := .type "list_iterator", data := .fields #[.ref l, .int 0 0] }, j0, it_list hh hl hg, fun i v h o g' m mu _ e vi S j => tn i v h _ g' m mu vi e S j, fin⟩
/-! #### a dict's keys, items, values -/
variable {α : Type} {R : Value → α → Prop} {l : List (Str × α)}
noncomputable def kiO (d n ep i : Nat) (o : Obj) : Prop := o.cls = .type "dict_keyiterator" ∧ o.data = .fields #[.ref d, .int i 0, .int n 0, .int ep 0]
theorem W_forK {x : Str} {xp : Pos} {iter : Expr} {body orelse : List Stmt} {pos : Pos} (hh : A.handled = none) (H : W w A (eval iter env) h fun v h₁ => ∃ (d : Addr) (o : Obj) (g : Heap) (m : Str → Option Value) (mu : List (Addr × Obj)) (J : Inv),
      v = .ref d ∧ (d == sysModules) = false ∧ St g L h₁ m mu ∧ g.get? d = some o ∧ DR w R o l ∧ J 0 g m mu ∧
      (∀ i k a t h p (g' : Heap) m mu, l[i]? = some (k, a) → Ext g g' → St g' L h m (p :: mu) → J i g' m mu → W w A (storeName env x (.str k t)) h fun _ h₂ => W w A (execs body env) h₂ (FE J L (i + 1) g' p (Sq w A env rest F))) ∧
      (∀ h (g' : Heap) m mu, Ext g g' → St g' L h m mu → J l.length g' m mu → W w A (execs orelse env) h (Sq w A env rest F)))
    (hf : ∀ x, foldedSetIterable iter env x = pure x := by intro _; with_unfolding_all rfl) : W w A (execs (.For (.Name x xp) iter body orelse pos :: rest) env) h F := by
  refine W_forG (L := L) (H.mono fun v h₁ q => ?_) hf
  obtain ⟨d, o, g, m, mu, J, rfl, hsm, S, hd, ⟨kvs, D, r⟩, j0, tn, fin⟩ := q
  intro s hs
  subst hs
  obtain ⟨ep, DA⟩ := (DR.of (S.keep _ _ hd) D).dictAt
  obtain ⟨od', es', hod', rD⟩ := id DA
  obtain rfl : od' = o := by rw [S.keep _ _ hd] at hod'; exact (Option.some.inj hod').symm
  refine wpAny_pyIter_dict (knd := PySem.strKind pw w) hsm DA ⟨⟨rfl, rfl, rfl⟩, ?_⟩
  refine ⟨s.heap.objs.size, kvs.length, kiO d kvs.length ep, fun i v _ => ∃ k a t, v = .str k t ∧ l[i]? = some (k, a), g, m, mu, _, J, rfl, ⟨rfl, rfl⟩, S.push { cls := .type "dict_keyiterator", data := .fields #[.ref d, .int 0 0, .int kvs.length 0, .int ep 0] }, j0, ⟨?_, ?_⟩, ?_, ?_⟩
  · intro i h o g' m mu hi e oi S' s' hs'
    subst hs'
    have hx : kvs[i]? = some kvs[i] := List.getElem?_eq_getElem hi
    refine wpAny_pyNext_dict_item (knd := PySem.strKind pw w) (kvs := kvs) (k := kvs[i].1) (v := kvs[i].2) ⟨o, S'.get0, oi.1, oi.2⟩ ⟨od', es', S'.keep _ _ (e _ _ hd), rD⟩ hx fun key h' hk hit hs => ⟨⟨rfl, rfl, rfl⟩, key, rfl, ?_⟩
    obtain ⟨o', ho', oc, odd⟩ := id hit
    obtain ⟨tt, rfl⟩ := Value.isStrOf_shape hk
    obtain ⟨a, ha, _⟩ := r.get hx
    exact W.pure ⟨o', ⟨_, a, tt, rfl, ha⟩, ⟨oc, odd⟩, S'.upd0 hs.extBut ho'⟩
  · intro h o g' m mu e oi S' s' hs'
    subst hs'
    exact wpAny_pyNext_dict_end (knd := PySem.strKind pw w) hh ⟨o, S'.get0, oi.1, oi.2⟩ ⟨od', es', S'.keep _ _ (e _ _ hd), rD⟩ (by simp) fun h' hs => ⟨⟨rfl, rfl, rfl⟩, rfl, drop_it S' hs⟩
  · rintro i v h o g' m mu hi e ⟨k, a, t, rfl, ha⟩ S' j
    exact a_name (tn i k a t h _ g' m mu ha e S' j)
  · intro h g' m mu e S' j
    rw [r.length] at j
    exact fin h g' m mu e S' j
end loops
section loops
variable {w : World} {A : Around} {h g : Heap} {env : Env} {F : Flow → Heap → Prop} {rest : List Stmt} {L d : Addr} {α : Type} {R : Value → α → Prop} {l : List (Str × α)} {o : Obj} {P : Value → Heap → Prop}
/-! #### items -/
theorem d_itemsm {pl : Sem Bool} {Q : Value × List Value → Heap → Prop} (hd : h.get? d = some o) (D : DR w R o l) (p : Q (.builtin "dict.items", [.ref d]) h) : W w A (getMethod (.ref d) s_items pl) h Q := fun s hs => by
  subst hs
  obtain ⟨kvs, D, r⟩ := D
  have hD := DR.of hd D
  rw [show s_items = Str.ofString "items" from by decide +kernel]
  exact getMethod_builtin hD.typeIs PySem.F.plainAttrs_dict PySem.F.slot_dict_items PySem.F.type_dict_items hD.mapOf.noDict ⟨.rfl', p⟩
theorem d_items (hd : h.get? d = some o) (D : DR w R o l) (hne : (d == sysModules) = false) (p : P (.ref h.objs.size) (h.push { cls := .type "dict_items", data := .fields #[.ref d] })) : W w A (call (.builtin "dict.items") [.ref d]) h P := fun s hs => by
  subst hs
  obtain ⟨kvs, D, r⟩ := D
  have hD := DR.of hd D
  exact call_meetsIn PySem.F.slot_dict_items hD.typeIs PySem.F.entry_dict_items (PySem.F.args_dict_items_1 _) (meets_dict_items (PySem.strKind pw w) d hne) ⟨⟨_, hD⟩, ⟨⟨rfl, rfl, rfl⟩, p⟩⟩
theorem d_valuesm {pl : Sem Bool} {Q : Value × List Value → Heap → Prop} (hd : h.get? d = some o) (D : DR w R o l) (p : Q (.builtin "dict.values", [.ref d]) h) : W w A (getMethod (.ref d) s_values pl) h Q := fun s hs => by
  subst hs
  obtain ⟨kvs, D, r⟩ := D
  have hD := DR.of hd D
  rw [show s_values = Str.ofString "values" from by decide +kernel]
  exact getMethod_builtin hD.typeIs PySem.F.plainAttrs_dict PySem.F.slot_dict_values PySem.F.type_dict_values hD.mapOf.noDict ⟨.rfl', p⟩
theorem d_values (hd : h.get? d = some o) (D : DR w R o l) (hne : (d == sysModules) = false) (p : P (.ref h.objs.size) (h.push { cls := .type "dict_values", data := .fields #[.ref d] })) : W w A (call (.builtin "dict.values") [.ref d]) h P := fun s hs => by
  subst hs
  obtain ⟨kvs, D, r⟩ := D
  have hD := DR.of hd D
  exact call_meetsIn PySem.F.slot_dict_values hD.typeIs PySem.F.entry_dict_values (PySem.F.args_dict_values_1 _) (meets_dict_values (PySem.strKind pw w) d hne) ⟨⟨_, hD⟩, ⟨⟨rfl, rfl, rfl⟩, p⟩⟩
noncomputable def iiO (d n ep i : Nat) (o : Obj) : Prop := ∃ ok ov, o = { cls := .type "dict_itemiterator", dict := none, data := .fields #[.none, .bool false, .ref d, .int i 0, .int n 0, .int ep 0, ok, ov], slots := #[] }
theorem W_forI {es : List Expr} {ek : Nat} {tp : Pos} {iter : Expr} {body orelse : List Stmt} {pos : Pos} (hh : A.handled = none) (H : W w A (eval iter env) h fun v h₁ => ∃ (vw d : Addr) (o : Obj) (g : Heap) (m : Str → Option Value) (mu : List (Addr × Obj)) (J : Inv),
      v = .ref vw ∧ h₁.get? vw = some { cls := .type "dict_items", data := .fields #[.ref d] } ∧ St g L h₁ m mu ∧ g.get? d = some o ∧ DR w R o l ∧ J 0 g m mu ∧
      (∀ i k a t v T h p (g' : Heap) m mu, l[i]? = some (k, a) → R v a → h.get? T = some (tupO [.str k t, v]) → Ext g g' → St g' L h m (p :: mu) → J i g' m mu → W w A (assign (.Tuple es ek tp) env (.ref T)) h fun _ h₂ => W w A (execs body env) h₂ (FE J L (i + 1) g' p (Sq w A env rest F))) ∧
      (∀ h (g' : Heap) m mu, Ext g g' → St g' L h m mu → J l.length g' m mu → W w A (execs orelse env) h (Sq w A env rest F)))
    (hf : ∀ x, foldedSetIterable iter env x = pure x := by intro _; with_unfolding_all rfl) : W w A (execs (.For (.Tuple es ek tp) iter body orelse pos :: rest) env) h F := by
  refine W_forG (L := L) (H.mono fun v h₁ q => ?_) hf
  obtain ⟨vw, d, o, g, m, mu, J, rfl, hvw, S, hd, ⟨kvs, D, r⟩, j0, tn, fin⟩ := q
  intro s hs
  subst hs
  obtain ⟨ep, DA⟩ := (DR.of (S.keep _ _ hd) D).dictAt
  obtain ⟨od', es', hod', rD⟩ := id DA
  obtain rfl : od' = o := by rw [S.keep _ _ hd] at hod'; exact (Option.some.inj hod').symm
  refine wpAny_pyIter_items (knd := PySem.strKind pw w) ⟨_, hvw, rfl, rfl⟩ DA ⟨⟨rfl, rfl, rfl⟩, ?_⟩
  refine ⟨s.heap.objs.size, kvs.length, iiO d kvs.length ep, fun i v h => ∃ k a t va T, v = .ref T ∧ h.get? T = some (tupO [.str k t, va]) ∧ l[i]? = some (k, a) ∧ R va a, g, m, mu, _, J, rfl, ⟨.none, .none, rfl⟩, S.push { cls := .type "dict_itemiterator", data := .fields #[.none, .bool false, .ref d, .int 0 0, .int kvs.length 0, .int ep 0, .none, .none] }, j0, ⟨?_, ?_⟩, ?_, ?_⟩
  · rintro i h o g' m mu hi e ⟨ok, ov, rfl⟩ S' s' hs'
    subst hs'
    have hx : kvs[i]? = some kvs[i] := List.getElem?_eq_getElem hi
    refine wpAny_pyNext_items_item (knd := PySem.strKind pw w) (kvs := kvs) (k := kvs[i].1) (v := kvs[i].2) S'.get0 ⟨od', es', S'.keep _ _ (e _ _ hd), rD⟩ hx fun key h' hk hit ht hz hs => ⟨⟨rfl, rfl, rfl⟩, _, rfl, ?_⟩
    obtain ⟨tt, rfl⟩ := Value.isStrOf_shape hk
    obtain ⟨a, ha, ra⟩ := r.get hx
    intro s₂ hs₂
    subst hs₂
    refine wpAny_letOwnedTupleGo_items hit fun h₃ hit₃ hs₃ => ⟨⟨rfl, rfl, rfl⟩, _, ⟨_, a, tt, _, _, rfl, ?_, ha, ra⟩, ⟨_, _, rfl⟩, S'.upd0 (fun b x z q => (hs₃.2 b z).trans (hs b x z q)) hit₃⟩
    exact (hs₃.2 _ (Nat.ne_of_gt (Heap.lt_size S'.get0))).trans ht
  · rintro h o g' m mu e ⟨ok, ov, rfl⟩ S' s' hs'
    subst hs'
    exact wpAny_pyNext_items_end (knd := PySem.strKind pw w) hh S'.get0 ⟨od', es', S'.keep _ _ (e _ _ hd), rD⟩ (by simp) fun h' hs => ⟨⟨rfl, rfl, rfl⟩, rfl, drop_it S' hs⟩
  · rintro i v h o g' m mu hi e ⟨k, a, t, va, T, rfl, hT, ha, ra⟩ S' j
    exact tn i k a t va T h _ g' m mu ha ra hT e S' j
  · intro h g' m mu e S' j
    rw [r.length] at j
    exact fin h g' m mu e S' j
/-! #### values -/
noncomputable def viO (d n ep i : Nat) (o : Obj) : Prop := o.cls = .type "dict_valueiterator" ∧ o.data = .fields #[.ref d, .int i 0, .int n 0, .int ep 0]
theorem W_forV {x : Str} {xp : Pos} {iter : Expr} {body orelse : List Stmt} {pos : Pos} (hh : A.handled = none) (H : W w A (eval iter env) h fun v h₁ => ∃ (vw d : Addr) (o : Obj) (g : Heap) (m : Str → Option Value) (mu : List (Addr × Obj)) (J : Inv),
      v = .ref vw ∧ h₁.get? vw = some { cls := .type "dict_values", data := .fields #[.ref d] } ∧ St g L h₁ m mu ∧ g.get? d = some o ∧ DR w R o l ∧ J 0 g m mu ∧
      (∀ i k a v h p (g' : Heap) m mu, l[i]? = some (k, a) → R v a → Ext g g' → St g' L h m (p :: mu) → J i g' m mu → W w A (storeName env x v) h fun _ h₂ => W w A (execs body env) h₂ (FE J L (i + 1) g' p (Sq w A env rest F))) ∧
      (∀ h (g' : Heap) m mu, Ext g g' → St g' L h m mu → J l.length g' m mu → W w A (execs orelse env) h (Sq w A env rest F)))
    (hf : ∀ x, foldedSetIterable iter env x = pure x := by intro _; with_unfolding_all rfl) : W w A (execs (.For (.Name x xp) iter body orelse pos :: rest) env) h F := by
  refine W_forG (L := L) (H.mono fun v h₁ q => ?_) hf
  obtain ⟨vw, d, o, g, m, mu, J, rfl, hvw, S, hd, ⟨kvs, D, r⟩, j0, tn, fin⟩ := q
  intro s hs
  subst hs
  obtain ⟨ep, DA⟩ := (DR.of (S.keep _ _ hd) D).dictAt
  obtain ⟨od', es', hod', rD⟩ := id DA
  obtain rfl : od' = o := by rw [S.keep _ _ hd] at hod'; exact (Option.some.inj hod').symm
  refine wpAny_pyIter_values (knd := PySem.strKind pw w) ⟨_, hvw, rfl, rfl⟩ DA ⟨⟨rfl, rfl, rfl⟩, ?_⟩
  refine ⟨s.heap.objs.size, kvs.length, viO d kvs.length ep, fun i v _ => ∃ k a, l[i]? = some (k, a) ∧ R v a, g, m, mu, _, J, rfl, ⟨rfl, rfl⟩, S.push { cls := .type "dict_valueiterator", data := .fields #[.ref d, .int 0 0, .int kvs.length 0, .int ep 0] }, j0, ⟨?_, ?_⟩, ?_, ?_⟩
  · intro i h o g' m mu hi e oi S' s' hs'
    subst hs'
    have hx : kvs[i]? = some kvs[i] := List.getElem?_eq_getElem hi
    refine wpAny_pyNext_values_item (knd := PySem.strKind pw w) (kvs := kvs) (k := kvs[i].1) (v := kvs[i].2) ⟨o, S'.get0, oi.1, oi.2⟩ ⟨od', es', S'.keep _ _ (e _ _ hd), rD⟩ hx fun h' hit hs => ⟨⟨rfl, rfl, rfl⟩, _, rfl, ?_⟩
    obtain ⟨o', ho', oc, odd⟩ := id hit
    obtain ⟨a, ha, ra⟩ := r.get hx
    exact W.pure ⟨o', ⟨_, a, ha, ra⟩, ⟨oc, odd⟩, S'.upd0 hs.extBut ho'⟩
  · intro h o g' m mu e oi S' s' hs'
    subst hs'
    exact wpAny_pyNext_values_end (knd := PySem.strKind pw w) hh ⟨o, S'.get0, oi.1, oi.2⟩ ⟨od', es', S'.keep _ _ (e _ _ hd), rD⟩ (by simp) fun h' hs => ⟨⟨rfl, rfl, rfl⟩, rfl, drop_it S' hs⟩
  · rintro i v h o g' m mu hi e ⟨k, a, ha, ra⟩ S' j
    exact a_name (tn i k a v h _ g' m mu ha ra e S' j)
  · intro h g' m mu e S' j
    rw [r.length] at j
    exact fin h g' m mu e S' j
end loops
section
open PyProof.V PySem.Spec PySem.SeqAt
section lists
variable {w : World} {A : Around} {h g : Heap} {env : Env} {P : Value → Heap → Prop} {pos : Pos} {l b : Addr} {vs us : List Value} {a i : Int} {t u : Tok} {x y : Str}
theorem isL (hl : h.get? l = some (lstO vs)) : h.IsList l vs.toArray := ⟨_, hl, rfl, 0, rfl⟩
theorem o_subLst {value slice : Expr} {v : Value} (hl : h.get? l = some (lstO vs)) (h0 : 0 ≤ i) (h1 : i < 1000) (hx : vs[i.toNat]? = some v) (p : P v h)
    (hs' : subscripted slice false (.ref l) (.int i u) = operate [.ref l, .int i u] (getItem (.ref l) (.int i u)) := by with_unfolding_all rfl) : W w A (subscriptTail value slice (.ref l) (.int i u)) h P := fun s hs => by
  subst hs
  exact item_listR (isL hl) h0 (by omega) (by simpa using hx) ⟨.rfl', p⟩ hs'
noncomputable abbrev slcO (v1 v2 : Value) : Obj := { cls := .type "slice", data := .fields #[v1, v2, .none] }
theorem W_sliceLo {lo : Expr} {p : Pos} (H : W w A (eval lo env) h fun l h₁ => P (.ref h₁.objs.size) (h₁.push (slcO l .none))) : W w A (eval (.Slice (some lo) none none p) env) h P :=
  fun s hs => wpAny_Slice (wpAny_evalPart_some (H.run hs .rfl' fun l s₁ l₁ p₁ => wpAny_evalPart_none (wpAny_evalPart_none ⟨⟨l₁.1, l₁.2.1, l₁.2.2⟩, p₁⟩)))
theorem W_sliceHi {hi : Expr} {p : Pos} (H : W w A (eval hi env) h fun u h₁ => P (.ref h₁.objs.size) (h₁.push (slcO .none u))) : W w A (eval (.Slice none (some hi) none p) env) h P :=
  fun s hs => wpAny_Slice (wpAny_evalPart_none (wpAny_evalPart_some (H.run hs .rfl' fun l s₁ l₁ p₁ => wpAny_evalPart_none ⟨⟨l₁.1, l₁.2.1, l₁.2.2⟩, p₁⟩)))
theorem o_sliceL {value slice : Expr} {vl vu : Value} {lo hi : Option Int} (hl : h.get? l = some (lstO vs)) (pl : IsPart vl lo) (pu : IsPart vu hi) (hz : vs.length ≤ 100000)
    (hs' : subscripted slice false (.ref l) (.ref h.objs.size) = operate [.ref h.objs.size, .ref l] (getItem (.ref l) (.ref h.objs.size)))
    (p : ∀ h' n, Ext h h' → h.get? n = none → h'.get? n = some (lstO (slicePick vs.toArray lo hi none).toList) → P (.ref n) h') : W w A (subscriptTail value slice (.ref l) (.ref h.objs.size)) (h.push (slcO vl vu)) P := fun s hs => by
  have hl' : s.heap.IsList l vs.toArray := by rw [hs]; exact (isL hl).push _
  have hT : s.TypeIs (.ref l) "list" := hl'.typeIs
  have fin : wpAny (model pw w) A (getItem (.ref l) (.ref h.objs.size)) (fun v s' => Like s s' ∧ P v s'.heap) (fun _ _ => False) s := by
    refine wpAny_getItem_list_slice (sl := h.objs.size) hl' ⟨_, by rw [hs]; exact Heap.get?_push_size _ rfl, rfl, rfl⟩ pl pu .none (by simp) ⟨⟨rfl, rfl, rfl⟩, ?_⟩ (by rw [sizeLine_eq, List.size_toArray]; omega)
    refine p _ _ (fun b o e => Heap.get?_push_of_some _ (show s.heap.get? b = some o by rw [hs]; exact Heap.get?_push_of_some _ e)) (get_above (by rw [hs, Heap.size_push]; omega)) ?_
    rw [Heap.get?_push_size _ rfl]
  unfold subscriptTail
  refine wpAny_bind ?_
  rw [getitemInPython_of_ne hT.not_modules]
  refine wpAny_bind (wpAny_specialOf hT list_getitem_lookup ?_)
  have fin2 : wpAny (model pw w) A (subscripted slice false (.ref l) (.ref h.objs.size)) (fun r s₃ => wpAny (model pw w) A (letTemporaryGo value (.ref l) r >>= fun _ => pure r) (fun v s' => Like s s' ∧ P v s'.heap) (fun _ _ => False) s₃) (fun _ _ => False) s := by
    rw [hs']
    exact wpAny_operating (wpAny_mono fin (fun r s₃ h₃ => wpAny_bind (wpAny_letTemporaryGo (wpAny_pure h₃))) fun _ _ x => x)
  first
    | exact wpAny_pure (wpAny_bind fin2)
    | exact wpAny_bind (wpAny_pure (wpAny_bind fin2))
    | exact wpAny_bind fin2
theorem pick_from {n : Nat} (hn : n ≤ vs.length) : (slicePick vs.toArray (some (n : Int)) none none).toList = vs.drop n := by rw [slicePick_from _ _ (by simpa using hn)]
theorem pick_upto (n : Nat) : (slicePick vs.toArray none (some (n : Int)) none).toList = vs.take n := by
  by_cases hn : n ≤ vs.length
  · rw [slicePick_upto _ _ (by simpa using hn)]
  · have e : slicePick vs.toArray none (some (n : Int)) none = slicePick vs.toArray none (some (vs.length : Int)) none := by
      unfold slicePick
      have e2 : sliceBounds none (some (n : Int)) none vs.toArray.size = sliceBounds none (some (vs.length : Int)) none vs.toArray.size := by
        simp only [sliceBounds, List.size_toArray, Option.getD_none]
        have a1 : ¬ ((n : Int) < 0) := by omega
        have a2 : ¬ ((vs.length : Int) < 0) := by omega
        simp only [a1, a2, if_false]
        have : min (n : Int) (vs.length : Int) = min (vs.length : Int) (vs.length : Int) := by omega
        simp only [show ((1 : Int) > 0) = True from by simp, if_true, this]
      rw [e2]
    rw [e, slicePick_upto _ _ (by simp)]
    simp only [List.take_length]
    rw [List.take_of_length_le (by omega)]
theorem o_addLst (hl : h.get? l = some (lstO vs)) (hb : h.get? b = some (lstO us)) (hz : vs.length + us.length ≤ 100000) (p : P (.ref h.objs.size) (h.push (lstO (vs ++ us)))) : W w A (binaryOp .Add (.ref l) (.ref b)) h P := fun s hs => by
  subst hs
  have e : vs.toArray ++ us.toArray = (vs ++ us).toArray := by simp
  refine concat_meets ⟨_, hl, rfl⟩ ⟨_, hb, rfl⟩ noFill_list_add seq_list_add PySem.F.slot_list_add PySem.F.entry_list_add (PySem.F.args_list_add_2 _ _) (list_addW l b vs.toArray us.toArray 0 0 none none #[] #[] (by rw [sizeLine_eq]; simp; omega)) ⟨hl, hb, ?_⟩
  rw [e]
  exact ⟨⟨rfl, rfl, rfl⟩, p⟩
theorem readsStrs {h : Heap} : ∀ {vs : List Value} {ns : List Str}, StrsAre vs ns → ReadsAll h vs (ns.map PyData.str) []
  | _, _, .nil => .nil
  | _, _, .cons k t r => by
    have := ReadsAll.cons (Reads.str (h := h) k t) (readsStrs (h := h) r)
    simpa using this
theorem shaped_names : shaped (.list ([] : List PyData)) = true := by decide +kernel
theorem o_neLst {ns : List Str} (hl : h.get? l = some (lstO vs)) (hi : StrsAre vs ns) (hb : h.get? b = some (lstO [])) (hu : A.units + 64 < cLine) (hsh : shaped (.list (ns.map PyData.str)) = true) (p : P (.bool (!ns.isEmpty)) h) : W w A (compareOp .NotEq (.ref l) (.ref b)) h P := fun s hs => by
  subst hs
  refine ne_dataH_same (da := .list (ns.map PyData.str)) (db := .list []) (Reads.list hl rfl rfl (by simpa using readsStrs hi)) (Reads.list hb rfl rfl (by simpa using ReadsAll.nil)) hsh shaped_names hu ?_ ⟨.rfl', ?_⟩
  · cases ns <;> simp [noMix, noMixAll]
  · have e : PySem.Spec.same (.list (ns.map PyData.str)) (.list []) = ns.isEmpty := by cases ns <;> simp [PySem.Spec.same, PySem.Spec.sameAll]
    rw [e]; exact p
theorem o_fdiv {c : Int} (hb : c ≠ 0) (hc : c.natAbs < 1073741824) (p : ∀ t, P (.int (a.fdiv c) t) h) : W w A (binaryOp .FloorDiv (.int a t) (.int c u)) h P := fun s hs => floordiv_int hb ⟨⟨rfl, rfl, rfl⟩, hs ▸ p _⟩ (Or.inl (PyProof.noPylong_small hc))
theorem c_lenLst (hl : h.get? l = some (lstO vs)) (hz : vs.length ≤ 100000) (p : ∀ t, P (.int vs.length t) h) : W w A (call (.builtin "len") [.ref l]) h P := fun s hs => by
  subst hs
  have hz' : ((vs.toArray.size : Nat) : Int) < 2 ^ 63 := by rw [List.size_toArray]; omega
  exact Calls.call_len_list (isL hl) hz' ⟨⟨rfl, rfl, rfl⟩, p _⟩
theorem m_count {pl : Sem Bool} {Q : Value × List Value → Heap → Prop} (k : Q (.builtin "str.count", [.str x t]) h) : W w A (getMethod (.str x t) s_count pl) h Q := fun s hs => by
  rw [show s_count = Str.ofString "count" from by decide +kernel]
  exact GM.count ⟨.rfl', hs ▸ k⟩
theorem c_count (p : ∀ t, P (.int (Txt.count x y) t) h) : W w A (call (.builtin "str.count") [.str x t, .str y u]) h P := fun s hs => SC.count ⟨⟨rfl, rfl, rfl⟩, hs ▸ p _⟩
theorem c_append {n : Nat} {v : Value} (hl : h.get? l = some (lstN n vs)) (hz : vs.length ≤ 100000) (p : ∀ h' n', h'.get? l = some (lstN n' (vs ++ [v])) → Heap.SameBut l h h' → P .none h') : W w A (call (.builtin "list.append") [.ref l, v]) h P := fun s hs => by
  subst hs
  refine wpAny_list_append_plain (items := vs.toArray) ⟨n, hl⟩ (fun h' hp sb => ⟨⟨rfl, rfl, rfl⟩, ?_⟩) (by rw [sizeLine_eq, List.size_toArray]; omega)
  obtain ⟨n', e⟩ := hp
  refine p h' n' ?_ sb
  rw [e]; simp
theorem m_append {n : Nat} {pl : Sem Bool} {Q : Value × List Value → Heap → Prop} (hl : h.get? l = some (lstN n vs)) (k : Q (.builtin "list.append", [.ref l]) h) : W w A (getMethod (.ref l) s_append pl) h Q := fun s hs => by
  subst hs
  rw [show s_append = Str.ofString "append" from by decide +kernel]
  exact Calls.getMethod_list_append hl rfl rfl ⟨.rfl', k⟩
end lists
end
set_option compiler.extract_closed false in
local macro_rules | `(tactic| wtm_at "Kn") => `(tactic| first | (show W _ _ (eval _ _) _ _; first | refine W_attr ?_ | (refine W_int ?_; intro _) | (refine W_str ?_; intro _) | refine W_bool ?_ | refine W_none ?_ | refine W_callN ?_ | refine W_BinOp ?_ | refine W_sub ?_ | refine W_IfExp ?_ | refine W_sliceLo ?_ | refine W_sliceHi ?_ | refine W_tupleN ?_ | refine W_listN ?_) | (show W _ _ (assign _ _ _) _ _; first | refine a_name ?_ | refine a_sub ?_) | (show W _ _ (execs _ _) _ _; first | refine W_asg ?_ | refine W_if ?_ | refine W_ret ?_ | refine W_nil ?_ | refine W_expr ?_ | refine W_aug ?_ | refine W_asgSub ?_ | refine W_augSub ?_ | refine W_asgT ?_) | (show W _ _ (isTrue _ _ _) _ _; first | refine T_cmp ?_ | refine T_bool ?_ | refine T_not ?_ | refine T_val ?_) | (show W _ _ (allTrue _ _ _) _ _; first | refine T_and ?_ | refine T_or ?_ | refine T_andNil ?_ | refine T_orNil ?_) | (show W _ _ (truthy _) _ _; refine t_bool ?_) | (show W _ _ (spliced _) _ _; first | refine W_sp ?_ | refine W_sp0 ?_) | (show W _ _ (compareOp _ _ _) _ _; first | refine o_eq ?_ | refine o_eqs ?_ | refine o_lt ?_ | refine o_ne ?_ | refine o_isNot (by with_unfolding_all rfl) ?_) | (show W _ _ (callWith _ _ _ _ _) _ _; first | refine W_cwB ?_ | refine W_cwB1 ?_ | refine W_cwB0 ?_) | (show W _ _ (binaryOp _ _ _) _ _; first | (refine o_add ?_; intro _) | (refine o_sub ?_; intro _) | (refine o_mod (by decide) ?_; intro _) | (refine o_fdiv (by decide) (by decide) ?_; intro _)) | (show W _ _ (inplaceOp _ _ _) _ _; (refine o_iadd ?_; intro _)) | (show W _ _ (call _ _ _) _ _; refine c_isiIntTuple ?_) | (show if _ = true then _ else _; first | refine ite_f (by with_unfolding_all rfl) ?_ | refine ite_t (by with_unfolding_all rfl) ?_) | (show Sq _ _ _ _ _ _ _; refine sq_next ?_))
set_option compiler.extract_closed false in
local macro_rules | `(tactic| wtm_at "R740") => `(tactic| repeat (with_reducible first | (show W _ _ (eval (.Name _ _) _) _ _; first | refine ld740_target ‹_› ?_ | refine ld740_source ‹_› ?_ | refine ld740_new_callers ‹_› ?_ | refine ld740_func ‹_› ?_ | refine ld740_caller ‹_› ?_ | refine gl740_isinstance ‹_› ‹_› ?_ | refine gl740_tuple ‹_› ‹_› ?_) | (show W _ _ (storeName _ _ _) _ _; first | (refine st740_new_callers ‹_› ?_; intro _ _ _) | (refine st740_func ‹_› ?_; intro _ _ _) | (refine st740_caller ‹_› ?_; intro _ _ _)) | wtm_at "Kn"))
/-! ### callers -/
noncomputable def IntR (v : Value) (i : Int) : Prop := ∃ t, v = .int i t
/-- a dict on the heap -/
noncomputable def DH {α : Type} (w : World) (R : Value → α → Prop) (h : Heap) (d : Addr) (l : List (Str × α)) : Prop := ∃ o, h.get? d = some o ∧ DR w R o l ∧ (d == sysModules) = false
theorem DH.ext {α : Type} {w : World} {R : Value → α → Prop} {h h' : Heap} {d : Addr} {l : List (Str × α)} (D : DH w R h d l) (e : Ext h h') : DH w R h' d l := let ⟨o, a, b, c⟩ := D; ⟨o, e _ _ a, b, c⟩
theorem DH.mono {α : Type} {w : World} {R R' : Value → α → Prop} {h : Heap} {d : Addr} {l : List (Str × α)} (D : DH w R h d l) (f : ∀ v a, R v a → R' v a) : DH w R' h d l := let ⟨o, a, b, c⟩ := D; ⟨o, a, b.mono f, c⟩
theorem fresh_ne {w : World} {h : Heap} (X : (kK w.params).In h) {a : Addr} (ha : h.objs.size ≤ a) : (a == sysModules) = false := by
  have : h.get? 780 = some (o780 w.params) := X 780 _ (by kernel_rfl)
  have := Heap.lt_size this
  rw [beq_eq_false_iff_ne]
  intro q
  rw [q] at ha
  exact absurd ha (Nat.not_le.mpr (Nat.lt_trans (show sysModules < 780 by decide) this))
noncomputable def addI (acc : List (Str × Int)) (p : Str × Int) : List (Str × Int) := put acc p.1 (match look acc p.1 with | some i => i + p.2 | none => p.2)
noncomputable def putI (acc : List (Str × Int)) (p : Str × Int) : List (Str × Int) := put acc p.1 p.2
noncomputable def addC (t s : List (Str × Int)) : List (Str × Int) := s.foldl addI (t.foldl putI [])
theorem intR (i : Int) (t : Tok) : IntR (.int i t) i := ⟨t, rfl⟩
theorem addI_some {acc : List (Str × Int)} {k : Str} {a b : Int} (h : look acc k = some b) : addI acc (k, a) = put acc k (b + a) := by simp only [addI, h]
theorem addI_none {acc : List (Str × Int)} {k : Str} {a : Int} (h : look acc k = none) : addI acc (k, a) = put acc k a := by simp only [addI, h]
theorem put_len {α : Type} (l : List (Str × α)) (k : Str) (a : α) : (put l k a).length ≤ l.length + 1 := by
  unfold put; split
  · simp
  · simp
theorem foldl_take {α β : Type} (f : β → α → β) (b : β) (l : List α) (i : Nat) (x : α) (h : l[i]? = some x) : (l.take (i + 1)).foldl f b = f ((l.take i).foldl f b) x := by
  rw [List.take_add_one, h, List.foldl_append]; rfl
theorem foldl_len {α : Type} (f : List (Str × Int) → α → List (Str × Int)) (hf : ∀ l x, (f l x).length ≤ l.length + 1) : ∀ (l : List α) (b : List (Str × Int)), (l.foldl f b).length ≤ b.length + l.length
  | [], b => by simp
  | x :: l, b => by
    have := foldl_len f hf l (f b x)
    have := hf b x
    simp only [List.foldl_cons, List.length_cons]; omega
section
variable {w : World} {A : Around} {h g : Heap} {P : Value → Heap → Prop} {d1 d2 : Addr} {l1 l2 : List (Str × Int)}
theorem c740 (G : Gr w h) (D1 : DH w IntR h d1 l1) (D2 : DH w IntR h d2 l2) (n1 : l1.length ≤ 10000) (n2 : l2.length ≤ 10000) (hA : A.depth < 800) (hh : A.handled = none)
    (k : ∀ h' d, Ext h h' → h.get? d = none → DH w IntR h' d (addC l1 l2) → P (.ref d) h') : WC w A (.call (.ref 740) ⟨[.ref d1, .ref d2], []⟩) h P := by
  refine en740 (mu := []) G (Ext.refl h) (fun _ hp => (nomatch hp)) List.nodup_nil (by omega) ?_
  intro L h₁ hL S x₁
  have hh' : (A.deeper (env740 L)).handled = none := hh
  refine W_asg ?_
  with_reducible refine W_dict0 ?_
  have S₁ := S.push emptyDict
  have fr : (h₁.objs.size == sysModules) = false := fresh_ne (G.keeps S.keep).k (Nat.le_refl _)
  have fn : h.get? h₁.objs.size = none := S.gsize _ (Nat.le_refl _)
  generalize h₁.push emptyDict = h₂ at S₁ ⊢
  generalize h₁.objs.size = n at S₁ fr fn ⊢
  wtm_at "R740"
  rename_i S₂
  clear S S₁
  obtain ⟨o1, hd1, DR1, ne1⟩ := id D1
  obtain ⟨o2, hd2, DR2, ne2⟩ := id D2
  with_reducible refine W_forI (L := L) (R := IntR) (l := l1) hh' ?_
  with_reducible refine W_callM ?_
  wtm_at "R740"
  with_reducible refine d_itemsm (S₂.keep _ _ hd1) DR1 ?_
  wtm_at "R740"
  with_reducible refine d_items (S₂.keep _ _ hd1) DR1 ne1 ?_
  refine ⟨_, d1, o1, h, _, _, fun i g' m mu => ∃ od v1 v2, m = frL ns740 [some (.ref d1), some (.ref d2), some (.ref n), v1, v2] ∧ mu = [(n, od)] ∧ DR w IntR od ((l1.take i).foldl putI []), rfl, Heap.get?_push_size _ rfl, S₂.ext (Ext.push _ _), hd1, DR1, ⟨_, _, _, rfl, rfl, DR.new⟩, ?_, ?_⟩
  · rintro i key a t v T h₅ p g' m mu hi hv hT e S₅ ⟨od, v1, v2, rfl, rfl, Dn⟩
    with_reducible refine a_tup2 hh' hT ?_
    intro h₆ x₆
    have S₆ := S₅.ext x₆
    wtm_at "R740"
    rename_i S₈
    with_reducible refine d_set (St.get1 S₈) Dn hv ?_ ?_
    · have := foldl_len putI (fun l x => put_len l _ _) (l1.take i) []
      simp at this ⊢; omega
    intro h₉ o₉ g₉ D₉ sb₉
    wtm_at "R740"
    refine fe_next (Ext.refl _) (S₈.upd1 sb₉.extBut g₉) ⟨o₉, _, _, rfl, rfl, ?_⟩
    rw [foldl_take _ _ _ _ _ hi]
    exact D₉
  · rintro h₅ g' m mu e S₅ ⟨od, v1, v2, rfl, rfl, Dn⟩
    clear S₂
    rw [List.take_length] at Dn
    wtm_at "R740"
    have len1 : (l1.foldl putI []).length ≤ 10000 := by
      have := foldl_len putI (fun l x => put_len l _ _) l1 []
      simp at this ⊢; omega
    have hd2' := e _ _ hd2
    with_reducible refine W_forI (L := L) (R := IntR) (l := l2) hh' ?_
    with_reducible refine W_callM ?_
    wtm_at "R740"
    with_reducible refine d_itemsm (S₅.keep _ _ hd2') DR2 ?_
    wtm_at "R740"
    with_reducible refine d_items (S₅.keep _ _ hd2') DR2 ne2 ?_
    refine ⟨_, d2, o2, g', _, _, fun i g' m mu => ∃ od v1 v2, m = frL ns740 [some (.ref d1), some (.ref d2), some (.ref n), v1, v2] ∧ mu = [(n, od)] ∧ DR w IntR od ((l2.take i).foldl addI (l1.foldl putI [])), rfl, Heap.get?_push_size _ rfl, S₅.ext (Ext.push _ _), hd2', DR2, ⟨_, _, _, rfl, rfl, Dn⟩, ?_, ?_⟩
    · rintro i key a t v T h₅ p g'' m mu hi hv hT e' S₅' ⟨od', v1', v2', rfl, rfl, Dn'⟩
      have G'' := G.keeps (e.trans e')
      have len2 : ((l2.take i).foldl addI (l1.foldl putI [])).length ≤ 30000 := by
        have := foldl_len addI (fun l x => put_len l _ _) (l2.take i) (l1.foldl putI [])
        simp at this ⊢; omega
      clear S₅
      with_reducible refine a_tup2 hh' hT ?_
      intro h₆ x₆
      have S₆ := S₅'.ext x₆
      obtain ⟨tv, rfl⟩ := hv
      wtm_at "R740"
      rename_i S₈
      with_reducible refine d_in (St.get1 S₈) Dn' fr ?_
      wtm_at "R740"
      refine ite_s (fun q => ?_) fun q => ?_
      · obtain ⟨b, hb⟩ := Option.isSome_iff_exists.mp q
        wtm_at "R740"
        with_reducible refine d_get (St.get1 S₈) Dn' hb ?_
        rintro v' ⟨t', rfl⟩
        wtm_at "R740"
        with_reducible refine d_set (St.get1 S₈) Dn' (a := b + a) (intR _ _) (by omega) ?_
        intro h₉ o₉ g₉ D₉ sb₉
        wtm_at "R740"
        refine fe_next (Ext.refl _) (S₈.upd1 sb₉.extBut g₉) ⟨o₉, _, _, rfl, rfl, ?_⟩
        rw [foldl_take _ _ _ _ _ hi]
        rw [addI_some hb]
        exact D₉
      · have hb := Option.isNone_iff_eq_none.mp (by rw [Option.isSome_eq_false_iff] at q; exact q)
        wtm_at "R740"
        with_reducible refine d_set (St.get1 S₈) Dn' (a := a) (intR _ _) (by omega) ?_
        intro h₉ o₉ g₉ D₉ sb₉
        wtm_at "R740"
        refine fe_next (Ext.refl _) (S₈.upd1 sb₉.extBut g₉) ⟨o₉, _, _, rfl, rfl, ?_⟩
        rw [foldl_take _ _ _ _ _ hi]
        rw [addI_none hb]
        exact D₉
    · rintro h₅' g'' m mu e' S₅' ⟨od', v1', v2', rfl, rfl, Dn'⟩
      rw [List.take_length] at Dn'
      wtm_at "R740"
      exact k _ n ((e.trans e').trans S₅'.keep) fn ⟨od', S₅'.get0, Dn', fr⟩
end
set_option compiler.extract_closed false in
local macro_rules | `(tactic| wtm_at "R733") => `(tactic| repeat (with_reducible first | (show W _ _ (eval (.Name _ _) _) _ _; first | refine ld733_target ‹_› ?_ | refine ld733_source ‹_› ?_ | refine ld733_cc ‹_› ?_ | refine ld733_nc ‹_› ?_ | refine ld733_tt ‹_› ?_ | refine ld733_ct ‹_› ?_ | refine ld733_callers ‹_› ?_ | refine ld733_t_cc ‹_› ?_ | refine ld733_t_nc ‹_› ?_ | refine ld733_t_tt ‹_› ?_ | refine ld733_t_ct ‹_› ?_ | refine ld733_t_callers ‹_› ?_ | refine gl733_add_callers ‹_› ‹_› ?_) | (show W _ _ (storeName _ _ _) _ _; first | (refine st733_cc ‹_› ?_; intro _ _ _) | (refine st733_nc ‹_› ?_; intro _ _ _) | (refine st733_tt ‹_› ?_; intro _ _ _) | (refine st733_ct ‹_› ?_; intro _ _ _) | (refine st733_callers ‹_› ?_; intro _ _ _) | (refine st733_t_cc ‹_› ?_; intro _ _ _) | (refine st733_t_nc ‹_› ?_; intro _ _ _) | (refine st733_t_tt ‹_› ?_; intro _ _ _) | (refine st733_t_ct ‹_› ?_; intro _ _ _) | (refine st733_t_callers ‹_› ?_; intro _ _ _)) | wtm_at "Kn"))
/-! ### rows of a table -/
structure Row where
  cc : Int
  nc : Int
  tt : Int
  ct : Int
  cal : List (Str × Int)
noncomputable def addRow (t s : Row) : Row := ⟨s.cc + t.cc, s.nc + t.nc, s.tt + t.tt, s.ct + t.ct, addC t.cal s.cal⟩
noncomputable def RowAt (w : World) (h : Heap) (v : Value) (r : Row) : Prop := ∃ T d t1 t2 t3 t4, v = .ref T ∧ h.get? T = some (tupO [.int r.cc t1, .int r.nc t2, .int r.tt t3, .int r.ct t4, .ref d]) ∧ DH w IntR h d r.cal
theorem RowAt.ext {w : World} {h h' : Heap} {v : Value} {r : Row} (R : RowAt w h v r) (e : Ext h h') : RowAt w h' v r := let ⟨T, d, t1, t2, t3, t4, a, b, c⟩ := R; ⟨T, d, t1, t2, t3, t4, a, e _ _ b, c.ext e⟩
/-- a row whose tuple and dict are new -/
noncomputable def RowNew (w : World) (h h' : Heap) (v : Value) (r : Row) : Prop := ∃ T d t1 t2 t3 t4, v = .ref T ∧ h.get? T = none ∧ h.get? d = none ∧ h'.get? T = some (tupO [.int r.cc t1, .int r.nc t2, .int r.tt t3, .int r.ct t4, .ref d]) ∧ DH w IntR h' d r.cal
theorem RowNew.at {w : World} {h h' g : Heap} {v : Value} {r : Row} (R : RowNew w h h' v r) (k : ∀ b o, h.get? b = none → h'.get? b = some o → g.get? b = some o) : RowAt w g v r :=
  let ⟨T, d, t1, t2, t3, t4, a, f1, f2, b, o, c1, c2, c3⟩ := R; ⟨T, d, t1, t2, t3, t4, a, k _ _ f1 b, o, k _ _ f2 c1, c2, c3⟩
section
variable {w : World} {A : Around} {h g : Heap} {P : Value → Heap → Prop} {v1 v2 : Value} {r1 r2 : Row}
theorem c733 (G : Gr w h) (R1 : RowAt w h v1 r1) (R2 : RowAt w h v2 r2) (n1 : r1.cal.length ≤ 10000) (n2 : r2.cal.length ≤ 10000) (hA : A.depth < 790) (hh : A.handled = none)
    (k : ∀ h' v, Ext h h' → RowNew w h h' v (addRow r1 r2) → P v h') : WC w A (.call (.ref 733) ⟨[v1, v2], []⟩) h P := by
  obtain ⟨T1, d1, p1, p2, p3, p4, rfl, hT1, D1⟩ := R1
  obtain ⟨T2, d2, q1, q2, q3, q4, rfl, hT2, D2⟩ := R2
  refine en733 (mu := []) G (Ext.refl h) (fun _ hp => (nomatch hp)) List.nodup_nil (by omega) ?_
  intro L h₁ hL S x₁
  have hh' : (A.deeper (env733 L)).handled = none := hh
  refine W_asgT ?_
  wtm_at "R733"
  with_reducible refine a_tup5 hh' (S.keep _ _ hT2) ?_
  intro h₂ x₂
  replace S := S.ext x₂
  wtm_at "R733"
  rename St _ _ _ _ _ => S₃
  clear S
  with_reducible refine a_tup5 hh' (S₃.keep _ _ hT1) ?_
  intro h₄ x₄
  replace S₃ := S₃.ext x₄
  wtm_at "R733"
  rename St _ _ _ _ _ => S₅
  with_reducible refine W_cw (by kernel_rfl) ?_
  wtm_at "R733"
  refine ⟨(G.keeps S₅.keep).k, ?_⟩
  refine (c740 (G.keeps S₅.keep) (D1.ext S₅.keep) (D2.ext S₅.keep) n1 n2 (by show A.depth + 1 < 800; omega) hh' ?_).call
  intro h₆ d x₆ f₆ D₆
  wtm_at "R733"
  refine newT ?_
  have n : ∀ {h' : Heap}, Ext h h' → ∀ a, h'.get? a = none → h.get? a = none := fun {h'} e a ha => by
    cases q : h.get? a with
    | none => rfl
    | some o => rw [e _ _ q] at ha; cases ha
  refine k _ _ ((S₅.keep.trans x₆).trans (Ext.push _ _)) ⟨_, d, _, _, _, _, rfl, n (S₅.keep.trans x₆) _ (get_size _), n S₅.keep _ f₆, Heap.get?_push_size _ rfl, D₆.ext (Ext.push _ _)⟩
end
set_option compiler.extract_closed false in
local macro_rules | `(tactic| wtm_at "R747") => `(tactic| repeat (with_reducible first | (show W _ _ (eval (.Name _ _) _) _ _; first | refine ld747_callers ‹_› ?_ | refine ld747_nc ‹_› ?_ | refine ld747_calls ‹_› ?_) | (show W _ _ (storeName _ _ _) _ _; first | (refine st747_nc ‹_› ?_; intro _ _ _) | (refine st747_calls ‹_› ?_; intro _ _ _)) | (show W _ _ (loadName _ _) _ _; refine ln747_nc ‹_› ?_) | wtm_at "Kn"))
set_option compiler.extract_closed false in
local macro_rules | `(tactic| wtm_at "R773") => `(tactic| repeat (with_reducible first | (show W _ _ (eval (.Name _ _) _) _ _; first | refine ld773_table ‹_› ?_ | refine ld773_start ‹_› ?_ | refine ld773_name ‹_› ?_ | refine gl773_count_calls ‹_› ‹_› ?_) | (show W _ _ (storeName _ _ _) _ _; (refine st773_name ‹_› ?_; intro _ _ _)) | wtm_at "Kn"))
theorem look_of_get {α : Type} : ∀ {l : List (Str × α)} {i : Nat} {k : Str} {a : α}, (l.map (·.1)).Nodup → l[i]? = some (k, a) → look l k = some a
  | [], i, k, a, _, h => by simp at h
  | p :: l, 0, k, a, _, h => by
    simp only [List.getElem?_cons_zero, Option.some.injEq] at h
    subst h; simp [look]
  | p :: l, i + 1, k, a, n, h => by
    simp only [List.getElem?_cons_succ] at h
    rw [List.map_cons, List.nodup_cons] at n
    have : ¬ p.1 = k := fun q => n.1 (by rw [q]; exact List.mem_map.mpr ⟨(k, a), List.mem_of_getElem? h, rfl⟩)
    have ih := look_of_get n.2 h
    simpa [look, this] using ih
noncomputable def sumC (l : List (Str × Int)) : Int := l.foldl (fun s p => s + p.2) 0
noncomputable def sumI (s : Int) (p : Str × Int) : Int := s + p.2
section
variable {w : World} {A : Around} {h g : Heap} {P : Value → Heap → Prop} {d : Addr} {l : List (Str × Int)}
theorem o_subTup {value slice : Expr} {T : Addr} {vs : List Value} {i : Int} {u : Tok} {x : Value} (hT : h.get? T = some (tupO vs)) (h0 : 0 ≤ i) (h1 : i < 1000) (hx : vs[i.toNat]? = some x) (p : P x h)
    (hs' : subscripted slice false (.ref T) (.int i u) = operate [.ref T, .int i u] (getItem (.ref T) (.int i u)) := by with_unfolding_all rfl) : W w A (subscriptTail value slice (.ref T) (.int i u)) h P := fun s hs => by
  subst hs
  have ht : IsTup s.heap T vs.toArray := ⟨_, hT, rfl, 0, rfl⟩
  have hlt : i.toNat < vs.length := (List.getElem?_eq_some_iff.mp hx).1
  have hj : seqIndex? i vs.toArray.size = some i.toNat := by
    rw [List.size_toArray]
    unfold seqIndex?
    have e1 : ¬ i < 0 := by omega
    have e2 : i < (vs.length : Int) := by omega
    simp only [e1, if_false]
    (try simp only [h0, e2, decide_true, Bool.and_self, if_true, and_self])
  exact subscriptTail_builtinR ht.typeIs slot_tuple_getitem.lookup (getItem_tuple (Q := fun r s' => r = x ∧ (Like s s' ∧ P r s'.heap)) ht (by omega) (by omega) hj (by simpa using hx) ⟨rfl, .rfl', p⟩) hs'
theorem c747 (G : Gr w h) (D : DH w IntR h d l) (hA : A.depth < 800) (hh : A.handled = none) (k : ∀ t h', Ext h h' → P (.int (sumC l) t) h') : WC w A (.call (.ref 747) ⟨[.ref d], []⟩) h P := by
  obtain ⟨o, hd, DR1, ne1⟩ := id D
  refine en747 (mu := []) G (Ext.refl h) (fun _ hp => (nomatch hp)) List.nodup_nil (by omega) ?_
  intro L h₁ hL S x₁
  have hh' : (A.deeper (env747 L)).handled = none := hh
  refine W_asg ?_
  wtm_at "R747"
  rename St _ _ _ _ _ => S₂
  with_reducible refine W_forV (L := L) (R := IntR) (l := l) hh' ?_
  with_reducible refine W_callM ?_
  wtm_at "R747"
  with_reducible refine d_valuesm (S₂.keep _ _ hd) DR1 ?_
  wtm_at "R747"
  with_reducible refine d_values (S₂.keep _ _ hd) DR1 ne1 ?_
  refine ⟨_, d, o, h, _, _, fun i g' m mu => ∃ t v, m = frL ns747 [some (.ref d), some (.int ((l.take i).foldl sumI 0) t), v] ∧ mu = [], rfl, Heap.get?_push_size _ rfl, S₂.ext (Ext.push _ _), hd, DR1, ⟨_, _, rfl, rfl⟩, ?_, ?_⟩
  · rintro i key a v h₅ p g' m mu hi ⟨t, rfl⟩ e S₅ ⟨t', v', rfl, rfl⟩
    clear S S₂
    wtm_at "R747"
    rename St _ _ _ _ _ => S₆
    refine fe_next (Ext.refl _) S₆ ?_
    rw [foldl_take _ _ _ _ _ hi]
    exact ⟨_, _, rfl, rfl⟩
  · rintro h₅ g' m mu e S₅ ⟨t', v', rfl, rfl⟩
    rw [List.take_length] at S₅
    clear S S₂
    wtm_at "R747"
    exact k _ _ (e.trans S₅.keep)
/-! ### tables -/
noncomputable def TH (w : World) (h : Heap) (d : Addr) (l : List (Str × Row)) : Prop := DH w (RowAt w h) h d l
theorem TH.ext {h' : Heap} {l : List (Str × Row)} (T : TH w h d l) (e : Ext h h') : TH w h' d l := (DH.ext T e).mono fun _ _ r => r.ext e
theorem c773 {l : List (Str × Row)} {start : Str} {ts : Tok} (G : Gr w h) (T : TH w h d l) (hok : ∀ p ∈ l, sumC p.2.cal = if p.1 = start then 0 else p.2.nc) (hA : A.depth < 790) (hh : A.handled = none) (k : ∀ h', Ext h h' → P (.bool true) h') :
    WC w A (.call (.ref 773) ⟨[.ref d, .str start ts], []⟩) h P := by
  obtain ⟨o, hd, DR1, ne1⟩ := id T
  refine en773 (mu := []) G (Ext.refl h) (fun _ hp => (nomatch hp)) List.nodup_nil (by omega) ?_
  intro L h₁ hL S x₁
  have hh' : (A.deeper (env773 L)).handled = none := hh
  refine W_forK (L := L) (R := RowAt w h) (l := l) hh' ?_
  wtm_at "R773"
  refine ⟨d, o, h, _, _, fun i g' m mu => ∃ v, m = frL ns773 [some (.ref d), some (.str start ts), v] ∧ mu = [], rfl, ne1, S, hd, DR1, ⟨_, rfl, rfl⟩, ?_, ?_⟩
  · rintro i key r t h₅ p g' m mu hi e S₅ ⟨v', rfl, rfl⟩
    have G' := G.keeps e
    have hlk : look l key = some r := look_of_get DR1.nodup hi
    clear S
    wtm_at "R773"
    rename St _ _ _ _ _ => S₆
    with_reducible refine W_cw (by kernel_rfl) ?_
    wtm_at "R773"
    with_reducible refine d_sub (S₆.keep _ _ (e _ _ hd)) DR1 hlk ?_
    rintro v ⟨T, dc, t1, t2, t3, t4, rfl, hT, Dc⟩
    have hT6 := S₆.keep _ _ (e _ _ hT)
    wtm_at "R773"
    refine o_subTup hT6 (by decide) (by decide) rfl ?_
    wtm_at "R773"
    refine ⟨(G'.keeps S₆.keep).k, ?_⟩
    refine (c747 (G'.keeps S₆.keep) (Dc.ext (e.trans S₆.keep)) (by show A.depth + 1 < 800; omega) hh' ?_).call
    intro t₇ h₇ x₇
    have S₇ := S₆.ext x₇
    have hkk := hok _ (List.mem_of_getElem? hi)
    clear S₆
    wtm_at "R773"
    refine ite_s (fun q => ?_) fun q => ?_
    · have hz : sumC r.cal = 0 := by simpa [show key = start by simpa using q] using hkk
      wtm_at "R773"
      rw [hz]
      wtm_at "R773"
      exact fe_next (Ext.refl _) S₇ ⟨_, rfl, rfl⟩
    · have hz : sumC r.cal = r.nc := by simpa [show ¬ key = start by simpa using q] using hkk
      wtm_at "R773"
      with_reducible refine d_sub (S₇.keep _ _ (e _ _ hd)) DR1 hlk ?_
      rintro v ⟨T, dc, t1, t2, t3, t4, rfl, hT, Dc⟩
      have hT7 := S₇.keep _ _ (e _ _ hT)
      wtm_at "R773"
      refine o_subTup hT7 (by decide) (by decide) rfl ?_
      have eb : (sumC r.cal != r.nc) = false := by simp [hz]
      with_reducible refine o_ne ?_
      with_reducible refine t_bool ?_
      with_reducible refine ite_f eb ?_
      wtm_at "R773"
      exact fe_next (Ext.refl _) S₇ ⟨_, rfl, rfl⟩
  · rintro h₅ g' m mu e S₅ ⟨v', rfl, rfl⟩
    clear S
    wtm_at "R773"
    exact k _ (e.trans S₅.keep)
end
/-! ### what the texts are -/
noncomputable def nms : List Str := [s_main, s_b1, s_c_c, s_dd, s_e2]
/-- an item of a text: the use of a later text, a word, a remark -/
inductive It
  | use (u v : Str) (q nl : Bool)
  | word (u : Str) (k : Nat) (nl : Bool)
  | rem (u : Str)
noncomputable def It.nm : It → Str
  | .use u _ _ _ => u
  | .word u _ _ => u
  | .rem u => u
noncomputable def wht (nl : Bool) : List Nat := if nl then [10] else [32]
noncomputable def mrk (q : Bool) : List Nat := if q then [39] else []
noncomputable def wrd (k : Nat) : List Nat := if k = 3 then [39, 39] else if k = 4 then [34, 98, 49, 32, 99, 95, 99, 34] else [119, 119]
noncomputable def sgn (x : Str) : List Nat := x.cps.toList
noncomputable def It.ren : It → List Nat
  | .use _ v q nl => ((mrk q ++ sgn v) ++ mrk q) ++ wht nl
  | .word _ k nl => wrd k ++ wht nl
  | .rem _ => [35, 32, 98, 49, 10]
structure Bd where
  tx : List (Str × List Nat)
  wd : List (Str × Int)
  us : List (Str × Str × Int)
noncomputable def txOf (b : Bd) (u : Str) : List Nat := (look b.tx u).getD []
noncomputable def wdOf (b : Bd) (u : Str) : Int := (look b.wd u).getD 0
noncomputable def Bd.step (b : Bd) (it : It) : Bd where
  tx := put b.tx it.nm (txOf b it.nm ++ it.ren)
  wd := match it with | .word u _ _ => put b.wd u (wdOf b u + 1) | _ => b.wd
  us := match it with | .use u v _ _ => b.us ++ [(u, v, ((txOf b u ++ it.ren).count 10 : Int) + 1)] | _ => b.us
noncomputable def bd0 : Bd := ⟨nms.map fun n => (n, []), nms.map fun n => (n, 0), []⟩
/-- the item that a number tells -/
noncomputable def itemOf (x : Int) : It :=
  let i := (x.fmod 5).toNat
  let u := nms.getD i s_main
  let kind := (x.fdiv 5).fmod 6
  let rest := x.fdiv 30
  let nl := decide (rest.fmod 2 = 1)
  if kind < 2 ∧ i < 4 then .use u (nms.getD (i + 1 + ((rest.fdiv 2).fmod ((4 - i : Nat) : Int)).toNat) s_main) (decide (kind = 1)) nl
  else if kind < 5 then .word u kind.toNat nl else .rem u
noncomputable def ownL : List Int := [0, 90, 25, 65, 60, 50, 1, 16, 2, 42, 13]
noncomputable def built (xs : List Int) : Bd := ((ownL ++ xs.take 10).map itemOf).foldl Bd.step bd0
theorem mkS_sgn (x : Str) : mkS (sgn x) = x := by
  obtain ⟨⟨l⟩⟩ := x; rfl
noncomputable def StrR (v : Value) (l : List Nat) : Prop := ∃ t, v = .str (mkS l) t
noncomputable def UseAt (h : Heap) (v : Value) (p : Str × Str × Int) : Prop := ∃ T t1 t2 t3, v = .ref T ∧ h.get? T = some (tupO [.str p.1 t1, .str p.2.1 t2, .int p.2.2 t3])
inductive UsesAre (h : Heap) : List Value → List (Str × Str × Int) → Prop
  | nil : UsesAre h [] []
  | cons {v : Value} {p : Str × Str × Int} {vs : List Value} {l : List (Str × Str × Int)} : UseAt h v p → UsesAre h vs l → UsesAre h (v :: vs) (p :: l)
theorem UseAt.ext {h h' : Heap} {v : Value} {p : Str × Str × Int} (u : UseAt h v p) (e : Ext h h') : UseAt h' v p := let ⟨T, t1, t2, t3, a, b⟩ := u; ⟨T, t1, t2, t3, a, e _ _ b⟩
theorem UsesAre.ext {h h' : Heap} {vs : List Value} {l : List (Str × Str × Int)} (u : UsesAre h vs l) (e : Ext h h') : UsesAre h' vs l := by
  induction u with
  | nil => exact .nil
  | cons a _ ih => exact .cons (a.ext e) ih
theorem UsesAre.snoc {h : Heap} {vs : List Value} {l : List (Str × Str × Int)} {v : Value} {p : Str × Str × Int} (u : UsesAre h vs l) (a : UseAt h v p) : UsesAre h (vs ++ [v]) (l ++ [p]) := by
  induction u with
  | nil => exact .cons a .nil
  | cons b _ ih => exact .cons b ih
theorem UsesAre.len {h : Heap} {vs : List Value} {l : List (Str × Str × Int)} (u : UsesAre h vs l) : vs.length = l.length := by
  induction u with
  | nil => rfl
  | cons _ _ ih => simp [ih]
theorem UsesAre.get {h : Heap} {vs : List Value} {l : List (Str × Str × Int)} (u : UsesAre h vs l) : ∀ {i : Nat} {v : Value}, vs[i]? = some v → ∃ p, l[i]? = some p ∧ UseAt h v p := by
  induction u with
  | nil => intro i v e; simp at e
  | cons a _ ih =>
    intro i v e
    cases i with
    | zero => simp only [List.getElem?_cons_zero, Option.some.injEq] at e; subst e; exact ⟨_, rfl, a⟩
    | succ j => simp only [List.getElem?_cons_succ] at e ⊢; exact ih e
theorem put_keys {α : Type} {l : List (Str × α)} {k : Str} {a : α} (h : k ∈ l.map (·.1)) : (put l k a).map (·.1) = l.map (·.1) := by
  unfold put
  obtain ⟨x, hx, rfl⟩ := List.mem_map.mp h
  rw [if_pos (List.any_eq_true.mpr ⟨x, hx, by simp⟩), List.map_map]
  refine List.map_congr_left fun y _ => ?_
  simp only [Function.comp]
  split <;> rfl
theorem look_some {α : Type} {l : List (Str × α)} {k : Str} (h : k ∈ l.map (·.1)) : ∃ a, look l k = some a := by
  obtain ⟨x, hx, rfl⟩ := List.mem_map.mp h
  unfold look
  cases q : l.find? (fun kv => kv.1 = x.1) with
  | some y => exact ⟨_, rfl⟩
  | none => exact absurd (List.find?_eq_none.mp q x hx) (by simp)
section
variable {w : World} {A : Around} {h g : Heap} {P : Value → Heap → Prop} {L : Addr} {m : Str → Option Value} {mu : List (Addr × Obj)} {vs : List Value} {env : Env} {pos : Pos}
/-- a new dict, to be filled -/
theorem W_dict0S (G : Gr w g) (S : St g L h m mu) (p : ∀ h' d, Ext h h' → St g L h' m ((d, emptyDict) :: mu) → (d == sysModules) = false → P (.ref d) h') : W w A (eval (.Dict [] [] pos) env) h P :=
  W_dict0 (p _ _ (Ext.push _ _) (S.push emptyDict) (fresh_ne (G.keeps S.keep).k (Nat.le_refl _)))
/-- a new list, to be turned -/
theorem lstM (S : St g L h m mu) (p : ∀ h' d, Ext h h' → St g L h' m ((d, lstO vs) :: mu) → P (.ref d) h') (hz : Nat.ble vs.length 1000 = true := by rfl) : NewL P vs h :=
  ⟨len_line hz, p _ _ (Ext.push _ _) (S.push (lstO vs))⟩
/-- a new list that stays -/
theorem lstK (S : St g L h m mu) (p : ∀ h' g' d, Ext h h' → Ext g g' → g'.get? d = some (lstO vs) → St g' L h' m mu → P (.ref d) h') (hz : Nat.ble vs.length 1000 = true := by rfl) : NewL P vs h := by
  refine ⟨len_line hz, ?_⟩
  have n := S.newIs (Nat.le_refl _)
  obtain ⟨g1, eg1, S1, kp1⟩ := (S.ext (Ext.push h (lstO vs))).rebase
  exact p _ g1 _ (Ext.push _ _) eg1 (kp1 _ _ (Heap.get?_push_size _ rfl) n.1 n.2) S1
/-- a new tuple that stays -/
theorem tupK (S : St g L h m mu) (p : ∀ h' g' d, Ext h h' → Ext g g' → g'.get? d = some (tupO vs) → St g' L h' m mu → P (.ref d) h') (hz : Nat.ble vs.length 1000 = true := by rfl) : NewT P vs h := by
  refine ⟨len_line hz, ?_⟩
  have n := S.newIs (Nat.le_refl _)
  obtain ⟨g1, eg1, S1, kp1⟩ := (S.ext (Ext.push h (tupO vs))).rebase
  exact p _ g1 _ (Ext.push _ _) eg1 (kp1 _ _ (Heap.get?_push_size _ rfl) n.1 n.2) S1
/-- what has come stays from now on -/
theorem St.freeze (S : St g L h m mu) {h' : Heap} (e : Ext h h') : ∃ g', Ext g g' ∧ St g' L h' m mu ∧ ∀ b o, h.get? b = none → h'.get? b = some o → g'.get? b = some o := by
  obtain ⟨g1, eg1, S1, kp1⟩ := (S.ext e).rebase
  refine ⟨g1, eg1, S1, fun b o hb q => kp1 b o q (fun z => ?_) (fun p hp z => ?_)⟩
  · obtain ⟨oL, _, _, hL, _⟩ := S.ns
    rw [z, hL] at hb; cases hb
  · rw [← z, (S.mus p hp).1] at hb; cases hb
/-- what stands at the head stays from now on -/
theorem St.freeze0 {a : Addr} {o : Obj} (S : St g L h m ((a, o) :: mu)) : ∃ g', Ext g g' ∧ g'.get? a = some o ∧ St g' L h m mu := by
  obtain ⟨g', eg, S', kp⟩ := S.drop0.rebase
  refine ⟨g', eg, kp a o S.get0 (S.mus _ (.head _)).2.1 fun p hp q => ?_, S'⟩
  exact (List.nodup_cons.mp S.nd).1 (List.mem_map.mpr ⟨p, hp, q⟩)
end
/-! ### plain facts on the items -/
noncomputable def It.ok : It → Prop
  | .use u v _ _ => u ∈ nms ∧ v ∈ nms
  | .word u k _ => u ∈ nms ∧ k < 5
  | .rem u => u ∈ nms
theorem It.ok_nm {it : It} (h : it.ok) : it.nm ∈ nms := by cases it <;> first | exact h.1 | exact h
theorem nms_len : ∀ n ∈ nms, (sgn n).length ≤ 4 := by decide +kernel
theorem ren_len {it : It} (h : it.ok) : it.ren.length ≤ 10 := by
  cases it with
  | use u v q nl =>
    have := nms_len v h.2
    cases q <;> cases nl <;> simp [It.ren, mrk, wht] <;> omega
  | word u k nl =>
    simp only [It.ren, wrd]
    cases nl <;> (repeat' split) <;> simp [wht]
  | rem u => simp [It.ren]
theorem fmod5 (x : Int) : 0 ≤ x.fmod 5 ∧ x.fmod 5 < 5 := ⟨Int.fmod_nonneg_of_pos _ (by decide), Int.fmod_lt_of_pos _ (by decide)⟩
theorem nms_get {i : Nat} (h : i < 5) : nms[i]? = some (nms.getD i s_main) := by
  rw [List.getD_eq_getElem?_getD, List.getElem?_eq_getElem (show i < nms.length from h)]; rfl
theorem nms_mem {i : Nat} (h : i < 5) : nms.getD i s_main ∈ nms := List.mem_of_getElem? (nms_get h)
theorem itemOf_ok (x : Int) : (itemOf x).ok := by
  have h5 := fmod5 x
  have h6 : 0 ≤ (x.fdiv 5).fmod 6 ∧ (x.fdiv 5).fmod 6 < 6 := ⟨Int.fmod_nonneg_of_pos _ (by decide), Int.fmod_lt_of_pos _ (by decide)⟩
  unfold itemOf
  simp only
  split
  · rename_i q
    have hp : (0 : Int) < ((4 - (x.fmod 5).toNat : Nat) : Int) := by omega
    have h1 := Int.fmod_nonneg_of_pos ((x.fdiv 30).fdiv 2) hp
    have h2 := Int.fmod_lt_of_pos ((x.fdiv 30).fdiv 2) hp
    exact ⟨nms_mem (by omega), nms_mem (by omega)⟩
  · split
    · exact ⟨nms_mem (by omega), by omega⟩
    · exact nms_mem (show (x.fmod 5).toNat < 5 by omega)
theorem step_keys {b : Bd} {it : It} (h : it.ok) (h1 : b.tx.map (·.1) = nms) (h2 : b.wd.map (·.1) = nms) : (b.step it).tx.map (·.1) = nms ∧ (b.step it).wd.map (·.1) = nms := by
  constructor
  · show (put b.tx it.nm _).map (·.1) = nms
    rw [put_keys (by rw [h1]; exact It.ok_nm h), h1]
  · cases it with
    | word u k nl =>
      show (put b.wd u _).map (·.1) = nms
      rw [put_keys (by rw [h2]; exact h.1), h2]
    | _ => exact h2
theorem step_tx {b : Bd} {it : It} (u : Str) : txOf (b.step it) u = if u = it.nm then txOf b it.nm ++ it.ren else txOf b u := by
  show (look (put b.tx it.nm _) u).getD [] = _
  rw [look_put]
  split <;> rfl
theorem step_wd {b : Bd} {it : It} (u : Str) : wdOf (b.step it) u = wdOf b u + (match it with | .word v _ _ => if u = v then 1 else 0 | _ => 0) := by
  cases it with
  | word v k nl =>
    show (look (put b.wd v _) u).getD 0 = wdOf b u + (if u = v then 1 else 0)
    rw [look_put]
    by_cases q : u = v
    · subst q; simp
    · simp only [q, if_false, Int.add_zero]; rfl
  | _ => exact (Int.add_zero _).symm
structure BdOk (b : Bd) (n : Nat) : Prop where
  kt : b.tx.map (·.1) = nms
  kw : b.wd.map (·.1) = nms
  ln : ∀ u, (txOf b u).length ≤ 10 * n
  lu : b.us.length ≤ n
theorem BdOk.step {b : Bd} {n : Nat} {it : It} (B : BdOk b n) (h : it.ok) : BdOk (b.step it) (n + 1) := by
  have K := step_keys h B.kt B.kw
  refine ⟨K.1, K.2, fun u => ?_, ?_⟩
  · rw [step_tx]
    have h1 := B.ln u
    have h2 := B.ln it.nm
    have h3 := ren_len h
    split
    · rw [List.length_append]; omega
    · omega
  · have := B.lu
    cases it with
    | use u v q nl => show (b.us ++ [_]).length ≤ n + 1; simp; omega
    | word u k nl => show b.us.length ≤ n + 1; omega
    | rem u => show b.us.length ≤ n + 1; omega
theorem bd0_ok : BdOk bd0 0 := ⟨by decide +kernel, by decide +kernel, fun u => by
  have : txOf bd0 u = [] := by
    unfold txOf look bd0
    cases q : (nms.map fun n => (n, ([] : List Nat))).find? (fun kv => decide (kv.1 = u)) with
    | none => rfl
    | some p =>
      obtain ⟨n, _, rfl⟩ := List.mem_map.mp (List.mem_of_find?_eq_some q)
      rfl
  rw [this]; exact Nat.zero_le _, Nat.le_refl _⟩
theorem BdOk.fold : ∀ (l : List It) (b : Bd) (n : Nat), BdOk b n → (∀ it ∈ l, it.ok) → BdOk (l.foldl Bd.step b) (n + l.length)
  | [], b, n, B, _ => B
  | it :: l, b, n, B, h => by
    have := BdOk.fold l (b.step it) (n + 1) (B.step (h it (.head _))) (fun x hx => h x (.tail _ hx))
    rw [List.length_cons, show n + (l.length + 1) = n + 1 + l.length from by omega]
    exact this
set_option compiler.extract_closed false in
local macro_rules | `(tactic| wtm_at "R754") => `(tactic| repeat (with_reducible first | (show W _ _ (eval (.Name _ _) _) _ _; first | refine ld754_script ‹_› ?_ | refine ld754_names ‹_› ?_ | refine ld754_texts ‹_› ?_ | refine ld754_words ‹_› ?_ | refine ld754_uses ‹_› ?_ | refine ld754_name ‹_› ?_ | refine ld754_x ‹_› ?_ | refine ld754_later ‹_› ?_ | refine ld754_kind ‹_› ?_ | refine ld754_rest ‹_› ?_ | refine ld754_white ‹_› ?_ | refine ld754_used ‹_› ?_ | refine ld754_mark ‹_› ?_ | refine gl754_len ‹_› ‹_› ?_) | (show W _ _ (storeName _ _ _) _ _; first | (refine st754_names ‹_› ?_; intro _ _ _) | (refine st754_texts ‹_› ?_; intro _ _ _) | (refine st754_words ‹_› ?_; intro _ _ _) | (refine st754_uses ‹_› ?_; intro _ _ _) | (refine st754_name ‹_› ?_; intro _ _ _) | (refine st754_x ‹_› ?_; intro _ _ _) | (refine st754_later ‹_› ?_; intro _ _ _) | (refine st754_kind ‹_› ?_; intro _ _ _) | (refine st754_rest ‹_› ?_; intro _ _ _) | (refine st754_white ‹_› ?_; intro _ _ _) | (refine st754_used ‹_› ?_; intro _ _ _) | (refine st754_mark ‹_› ?_; intro _ _ _)) | wtm_at "Kn"))
theorem St.upd3 {g h h' : Heap} {L a : Addr} {m : Str → Option Value} {o o' : Obj} {p p' p'' : Addr × Obj} {r : List (Addr × Obj)} (S : St g L h m (p :: p' :: p'' :: (a, o) :: r)) (hs : Heap.ExtBut a h h') (e : h'.get? a = some o') : St g L h' m (p :: p' :: p'' :: (a, o') :: r) := St.updAt (pre := [p, p', p'']) S hs e
theorem St.get3 {g h : Heap} {L a : Addr} {m : Str → Option Value} {o : Obj} {p p' p'' : Addr × Obj} {r : List (Addr × Obj)} (S : St g L h m (p :: p' :: p'' :: (a, o) :: r)) : h.get? a = some o := (S.mus _ (.tail _ (.tail _ (.tail _ (.head _))))).1
theorem nms_nin {i : Nat} {u : Str} (h : nms[i]? = some u) : u ∉ nms.take i := by
  have hi : i < 5 := (List.getElem?_eq_some_iff.mp h).1
  have hc : i = 0 ∨ i = 1 ∨ i = 2 ∨ i = 3 ∨ i = 4 := by omega
  rcases hc with rfl | rfl | rfl | rfl | rfl <;> (simp only [nms, List.getElem?_cons_zero, List.getElem?_cons_succ, Option.some.injEq] at h; subst h; decide +kernel)
theorem strR (l : List Nat) (t : Tok) : StrR (.str (mkS l) t) l := ⟨t, rfl⟩
theorem keysM {α : Type} (l : List Str) (a : α) : (l.map fun n => (n, a)).map (·.1) = l := by rw [List.map_map]; exact List.map_id _
theorem ints_len : ∀ {vs : List Value} {ns : List Int}, IntsAre vs ns → vs.length = ns.length
  | _, _, .nil => rfl
  | _, _, .cons _ _ r => by simp [ints_len r]
theorem ints_get : ∀ {vs : List Value} {ns : List Int}, IntsAre vs ns → ∀ {i : Nat} {v : Value}, vs[i]? = some v → ∃ u t, ns[i]? = some u ∧ v = .int u t
  | _, _, .nil, i, v, h => by simp at h
  | _, _, .cons y t r, 0, v, h => by simp only [List.getElem?_cons_zero, Option.some.injEq] at h; exact ⟨y, t, rfl, h.symm⟩
  | _, _, .cons y t r, i + 1, v, h => by simp only [List.getElem?_cons_succ] at h ⊢; exact ints_get r h
theorem fold_next {zs : List Int} {i : Nat} {x : Int} (h : zs[i]? = some x) : ((zs.take (i + 1)).map itemOf).foldl Bd.step bd0 = Bd.step (((zs.take i).map itemOf).foldl Bd.step bd0) (itemOf x) := by
  rw [List.take_add_one, h, List.map_append, List.foldl_append]; rfl
theorem getD_some {α : Type} {o : Option α} {a d : α} (h : o = some a) : o.getD d = a := by rw [h]; rfl
theorem szL {a b : List Nat} (h : (a ++ b).length ≤ 100000) : (mkS a).length + (mkS b).length ≤ sizeLine := by
  rw [mkS_len, mkS_len, sizeLine_eq]; rw [List.length_append] at h; omega
theorem wrd_len (k : Nat) (nl : Bool) : (wrd k ++ wht nl).length ≤ 10 := by
  unfold wrd
  cases nl <;> (repeat' split) <;> simp [wht]
theorem strs_get : ∀ {vs : List Value} {ns : List Str}, StrsAre vs ns → ∀ {i : Nat} {v : Value}, vs[i]? = some v → ∃ u t, ns[i]? = some u ∧ v = .str u t
  | _, _, .nil, i, v, h => by simp at h
  | _, _, .cons y t r, 0, v, h => by simp only [List.getElem?_cons_zero, Option.some.injEq] at h; exact ⟨y, t, rfl, h.symm⟩
  | _, _, .cons y t r, i + 1, v, h => by simp only [List.getElem?_cons_succ] at h ⊢; exact strs_get r h
theorem strs_get' : ∀ {vs : List Value} {ns : List Str}, StrsAre vs ns → ∀ {i : Nat} {u : Str}, ns[i]? = some u → ∃ t, vs[i]? = some (.str u t)
  | _, _, .nil, i, v, h => by simp at h
  | _, _, .cons y t r, 0, v, h => by simp only [List.getElem?_cons_zero, Option.some.injEq] at h; subst h; exact ⟨t, rfl⟩
  | _, _, .cons y t r, i + 1, v, h => by simp only [List.getElem?_cons_succ] at h ⊢; exact strs_get' r h
theorem strs_len : ∀ {vs : List Value} {ns : List Str}, StrsAre vs ns → vs.length = ns.length
  | _, _, .nil => rfl
  | _, _, .cons _ _ r => by simp [strs_len r]
theorem strs_drop : ∀ {vs : List Value} {ns : List Str}, StrsAre vs ns → ∀ k, StrsAre (vs.drop k) (ns.drop k)
  | _, _, h, 0 => h
  | _, _, .nil, _ + 1 => .nil
  | _, _, .cons _ _ h, k + 1 => strs_drop h k
theorem put_snoc {α : Type} {l : List (Str × α)} {k : Str} {a : α} (h : k ∉ l.map (·.1)) : put l k a = l ++ [(k, a)] := by
  unfold put
  rw [if_neg]
  intro q
  obtain ⟨x, hx, e⟩ := List.any_eq_true.mp q
  exact h (List.mem_map.mpr ⟨x, hx, by simpa using e⟩)
theorem fm5n (x : Int) : (x.fmod 5).toNat < 5 := by have := fmod5 x; omega
theorem fm5k (x : Int) : x.fmod 5 < 1000 := by have := fmod5 x; omega
theorem fm5s (x : Int) : x.fmod 5 + 1 = (((x.fmod 5).toNat + 1 : Nat) : Int) := by have := fmod5 x; omega
theorem lt5c : ∀ n : Nat, n < 5 → n = 0 ∨ n = 1 ∨ n = 2 ∨ n = 3 ∨ n = 4 := by decide
theorem lt4c : ∀ n : Nat, n < 4 → n = 0 ∨ n = 1 ∨ n = 2 ∨ n = 3 := by decide
theorem lt2c : ∀ n : Nat, n < 2 → n = 0 ∨ n = 1 := by decide
theorem int_nat {y : Int} (h : 0 ≤ y) : ∃ n : Nat, y = n := ⟨y.toNat, (Int.toNat_of_nonneg h).symm⟩
theorem fm5c (x : Int) : (x.fmod 5).toNat = 0 ∨ (x.fmod 5).toNat = 1 ∨ (x.fmod 5).toNat = 2 ∨ (x.fmod 5).toNat = 3 ∨ (x.fmod 5).toNat = 4 := lt5c _ (fm5n x)
theorem fm4 {x : Int} (h : ¬ (x.fmod 5).toNat < 4) : (x.fmod 5).toNat = 4 := by have := fmod5 x; omega
theorem fq2 (y : Int) : 0 ≤ y.fmod 2 ∧ y.fmod 2 < 2 := ⟨Int.fmod_nonneg_of_pos _ (by decide), Int.fmod_lt_of_pos _ (by decide)⟩
theorem fm2c (y : Int) : y.fmod 2 = 0 ∨ y.fmod 2 = 1 := by have := fq2 y; omega
theorem fm2k (y : Int) : y.fmod 2 < 1000 := by have := fq2 y; omega
theorem fm6 (y : Int) : 0 ≤ y.fmod 6 ∧ y.fmod 6 < 6 := ⟨Int.fmod_nonneg_of_pos _ (by decide), Int.fmod_lt_of_pos _ (by decide)⟩
theorem fm6k (y : Int) : y.fmod 6 < 1000 := by have := fm6 y; omega
theorem fm6c {y : Int} (h : y.fmod 6 < 5) : y.fmod 6 = 0 ∨ y.fmod 6 = 1 ∨ y.fmod 6 = 2 ∨ y.fmod 6 = 3 ∨ y.fmod 6 = 4 := by
  obtain ⟨n, e⟩ := int_nat (fm6 y).1
  rw [e] at h ⊢
  rcases lt5c n (Int.ofNat_lt.mp h) with z | z | z | z | z <;> subst z <;> decide
theorem fm6d {y : Int} (h : y.fmod 6 < 2) : y.fmod 6 = 0 ∨ y.fmod 6 = 1 := by
  obtain ⟨n, e⟩ := int_nat (fm6 y).1
  rw [e] at h ⊢
  rcases lt2c n (Int.ofNat_lt.mp h) with z | z <;> subst z <;> decide
theorem lt25 {y : Int} (h : y < 2) : y < 5 := by omega
theorem tkl {α : Type} (i : Nat) (f : Str → Str × α) : ((nms.take i).map f).length ≤ 100000 := by
  have e : nms.length = 5 := rfl
  rw [List.length_map, List.length_take]; omega
theorem own_len {ovs svs : List Value} {xs : List Int} (hov : IntsAre ovs ownL) (hi : IntsAre svs xs) : ovs.length + (svs.take 10).length ≤ 100000 := by
  have := ints_len hov
  have e : ownL.length = 11 := rfl
  rw [List.length_take]; omega
theorem itm_len (xs : List Int) (i : Nat) : (((ownL ++ xs.take 10).take i).map itemOf).length ≤ 21 := by
  have e : ownL.length = 11 := rfl
  simp; omega
theorem tx_len {b : Bd} {n : Nat} (B : BdOk b n) (h : n ≤ 21) (u : Str) : (txOf b u).length ≤ 10000 := by have := B.ln u; omega
theorem keys_len {α : Type} {l : List (Str × α)} (h : l.map (·.1) = nms) : l.length ≤ 100000 := by
  have := congrArg List.length h
  have e : nms.length = 5 := rfl
  rw [List.length_map] at this; omega
theorem later_facts {x : Int} (k4 : (x.fmod 5).toNat < 4) {nvs : List Value} (hn : nvs.length = 5) : (nvs.drop ((x.fmod 5).toNat + 1)).length = 4 - (x.fmod 5).toNat ∧ (0 : Int) < ((4 - (x.fmod 5).toNat : Nat) : Int) ∧ (!(nms.drop ((x.fmod 5).toNat + 1)).isEmpty) = true := by
  refine ⟨by rw [List.length_drop, hn]; omega, by omega, ?_⟩
  rcases lt4c _ k4 with z | z | z | z <;> rw [z] <;> rfl
theorem pick_facts {x y : Int} (k4 : (x.fmod 5).toNat < 4) : 0 ≤ y.fmod ((4 - (x.fmod 5).toNat : Nat) : Int) ∧ y.fmod ((4 - (x.fmod 5).toNat : Nat) : Int) < 1000 ∧ (x.fmod 5).toNat + 1 + (y.fmod ((4 - (x.fmod 5).toNat : Nat) : Int)).toNat < 5 := by
  have hp : (0 : Int) < ((4 - (x.fmod 5).toNat : Nat) : Int) := by omega
  have j1 := Int.fmod_nonneg_of_pos y hp
  have j2 := Int.fmod_lt_of_pos y hp
  omega
theorem sum4 {a b c d : List Nat} (ha : a.length ≤ 1) (hb : b.length ≤ 4) (hc : d.length ≤ 1) : (a ++ b).length ≤ 100000 ∧ (a ++ b ++ a).length ≤ 100000 ∧ (a ++ b ++ a ++ d).length ≤ 100000 ∧ (c.length ≤ 10000 → (c ++ (a ++ b ++ a ++ d)).length ≤ 100000) := by
  simp only [List.length_append]; omega
theorem sum2 {c d : List Nat} (hc : c.length ≤ 10000) (hd : d.length ≤ 10) : (c ++ d).length ≤ 100000 := by rw [List.length_append]; omega
theorem us_len {a b n : Nat} (h : a = b) (h1 : b ≤ n) (h2 : n ≤ 21) : a ≤ 100000 := by omega
section
variable {w : World} {A : Around} {h g : Heap} {P : Value → Heap → Prop} {sc : Addr} {svs : List Value} {xs : List Int}
set_option maxHeartbeats 4000000 in
theorem c754 {q : Addr × Obj} (G : Gr w g) (e0 : Ext g h) (hq : h.get? q.1 = some q.2) (gq : g.get? q.1 = none) (hs : g.get? sc = some (lstO svs)) (hi : IntsAre svs xs) (hlen : xs.length ≤ 1000) (hA : A.depth < 800) (hh : A.handled = none) (hu : A.units + 200 < cLine)
    (k : ∀ h' g' T dt dw lu n vs, Ext g g' → Ext g' h' → g'.get? q.1 = none → h'.get? q.1 = some q.2 → g'.get? T = some (tupO [.ref dt, .ref dw, .ref lu]) → DH w StrR g' dt (built xs).tx → DH w IntR g' dw (built xs).wd → g'.get? lu = some (lstN n vs) → UsesAre g' vs (built xs).us → P (.ref T) h') :
    WC w A (.call (.ref 754) ⟨[.ref sc], []⟩) h P := by
  refine en754 (mu := [q]) G e0 (fun p hp => by cases List.mem_singleton.mp hp; exact ⟨hq, gq⟩) (by simp) (Nat.lt_trans hA (by decide)) ?_
  intro L h₁ hL S x₁
  have hh' : (A.deeper (env754 L)).handled = none := hh
  refine W_asg ?_
  wtm_at "R754"
  refine lstK S ?_
  intro h₂ g1 nl x₂ eg1 hnl S1
  have G1 := G.keeps eg1
  obtain ⟨nvs, hnm, hnl⟩ : ∃ nvs, StrsAre nvs nms ∧ g1.get? nl = some (lstO nvs) := ⟨_, .cons s_main _ (.cons s_b1 _ (.cons s_c_c _ (.cons s_dd _ (.cons s_e2 _ .nil)))), hnl⟩
  clear S x₁ x₂
  wtm_at "R754"
  rename St _ _ _ _ _ => S2
  clear S1
  with_reducible refine W_sw3 hh' ?_
  wtm_at "R754"
  with_reducible refine W_dict0S G1 S2 ?_
  intro h₃ dt _ S3 fdt
  wtm_at "R754"
  with_reducible refine W_dict0S G1 S3 ?_
  intro h₄ dw _ S4 fdw
  wtm_at "R754"
  refine lstM S4 ?_
  intro h₅ lu _ S5
  clear S2 S3 S4
  wtm_at "R754"
  refine tupK S5 ?_
  intro h₆ g2 T6 _ eg2 hT6 S6
  clear S5
  refine ⟨T6, _, _, _, rfl, S6.keep _ _ hT6, fun h₇ x₇ => ?_⟩
  replace S6 := S6.ext x₇
  have G2 := G1.keeps eg2
  have hnl2 := eg2 _ _ hnl
  clear G1 hnl hT6
  wtm_at "R754"
  rename St _ _ _ _ _ => S7
  clear S6
  with_reducible refine W_forL (L := L) hh' ?_
  wtm_at "R754"
  refine ⟨nl, 0, _, g2, _, _, fun i g' m mu => ∃ ot ow v, m = frL ns754 [some (.ref sc), some (.ref nl), some (.ref dt), some (.ref dw), some (.ref lu), v, none, none, none, none, none, none, none] ∧ mu = [(lu, lstO []), (dw, ow), (dt, ot), q] ∧
      DR w StrR ot ((nms.take i).map fun n => (n, [])) ∧ DR w IntR ow ((nms.take i).map fun n => (n, 0)), rfl, S7, hnl2, .inl ⟨_, _, rfl⟩, ⟨_, _, _, rfl, rfl, DR.new, DR.new⟩, ?_, ?_⟩
  · rintro i v h p g' m mu hv e S8 ⟨ot, ow, v', rfl, rfl, Dt, Dw⟩
    obtain ⟨u, tv, hu', rfl⟩ := strs_get hnm hv
    clear S7
    with_reducible refine W.hideU fun Q hQ => ?_
    wtm_at "R754"
    rename St _ _ _ _ _ => S9
    refine tupK S9 ?_
    intro h₉ g3 T9 _ eg3 hT9 S10
    clear S9 S8
    with_reducible refine a_tup2 hh' (S10.keep _ _ hT9) ?_
    intro h₁₀ x₁₀
    replace S10 := S10.ext x₁₀
    have hi5 : i < 5 := (List.getElem?_eq_some_iff.mp hu').1
    have hnin := nms_nin hu'
    have htk : nms.take (i + 1) = nms.take i ++ [u] := by rw [List.take_add_one, hu']; rfl
    wtm_at "R754"
    with_reducible refine d_set (St.get3 S10) Dt (a := []) (strR _ _) (tkl _ _) ?_
    intro h₁₁ ot' g₁₁ Dt' sb₁₁
    replace S10 := S10.upd3 sb₁₁.extBut g₁₁
    wtm_at "R754"
    with_reducible refine d_set (St.get2 S10) Dw (a := 0) (intR _ _) (tkl _ _) ?_
    intro h₁₂ ow' g₁₂ Dw' sb₁₂
    replace S10 := S10.upd2 sb₁₂.extBut g₁₂
    wtm_at "R754"
    rw [put_snoc (by rw [keysM]; exact hnin)] at Dt' Dw'
    refine hQ _ _ (fe_next eg3 S10 ⟨ot', ow', _, rfl, rfl, ?_, ?_⟩)
    · rw [htk, List.map_append]; exact Dt'
    · rw [htk, List.map_append]; exact Dw'
  · rintro h₈ g3 m mu e3 S8 ⟨ot, ow, v', rfl, rfl, Dt, Dw⟩
    clear S7
    have G3 := G2.keeps e3
    have hnl3 := e3 _ _ hnl2
    rw [strs_len hnm] at Dt Dw
    wtm_at "R754"
    with_reducible refine W_forL (L := L) hh' ?_
    wtm_at "R754"
    refine lstK S8 ?_
    intro h₉ g4 l9 _ eg4 hl9 S9
    clear S8
    wtm_at "R754"
    with_reducible refine o_sliceL (S9.keep _ _ (eg4 _ _ (e3 _ _ (eg2 _ _ (eg1 _ _ hs))))) .none (.int _ _) ?_ (by with_unfolding_all rfl) ?_
    · rw [ints_len hi]; exact Nat.le_trans hlen (by decide)
    intro h₁₀ l10 x₁₀ _ hl10
    rw [show (10 : Int) = ((10 : Nat) : Int) from rfl, pick_upto] at hl10
    have S10 := S9.ext x₁₀
    obtain ⟨ovs, hov, hl9⟩ : ∃ ovs, IntsAre ovs ownL ∧ g4.get? l9 = some (lstO ovs) := ⟨_, .cons 0 _ (.cons 90 _ (.cons 25 _ (.cons 65 _ (.cons 60 _ (.cons 50 _ (.cons 1 _ (.cons 16 _ (.cons 2 _ (.cons 42 _ (.cons 13 _ .nil)))))))))), hl9⟩
    have hzs : IntsAre (ovs ++ svs.take 10) (ownL ++ xs.take 10) := hov.append (hi.take 10)
    clear S9
    with_reducible refine o_addLst (S10.keep _ _ hl9) hl10 ?_ ?_
    · exact own_len hov hi
    have n11 := S10.newIs (Nat.le_refl _)
    obtain ⟨g5, eg5, S11, kp5⟩ := (S10.ext (Ext.push h₁₀ (lstO (ovs ++ svs.take 10)))).rebase
    have hl11 := kp5 _ _ (Heap.get?_push_size _ rfl) n11.1 n11.2
    clear S10 kp5
    have hnl5 := eg5 _ _ (eg4 _ _ hnl3)
    have G5 := (G3.keeps eg4).keeps eg5
    have e5 : Ext g g5 := (((eg1.trans eg2).trans e3).trans eg4).trans eg5
    refine ⟨_, 0, _, g5, _, _, fun i g' m mu => ∃ ot ow nu uvs v5 v6 v7 v8 v9 v10 v11 v12, m = frL ns754 [some (.ref sc), some (.ref nl), some (.ref dt), some (.ref dw), some (.ref lu), v5, v6, v7, v8, v9, v10, v11, v12] ∧ mu = [(lu, lstN nu uvs), (dw, ow), (dt, ot), q] ∧
      DR w StrR ot ((((ownL ++ xs.take 10).take i).map itemOf).foldl Bd.step bd0).tx ∧ DR w IntR ow ((((ownL ++ xs.take 10).take i).map itemOf).foldl Bd.step bd0).wd ∧ UsesAre g' uvs ((((ownL ++ xs.take 10).take i).map itemOf).foldl Bd.step bd0).us,
      rfl, S11, hl11, .inl ⟨_, _, rfl⟩, ⟨ot, ow, 0, [], _, _, _, _, _, _, _, _, rfl, rfl, Dt, Dw, .nil⟩, ?_, ?_⟩
    · rintro i v h₁₂ p g6 m mu hv e6 S12 ⟨ot, ow, nu, uvs, v5, v6, v7, v8, v9, v10, v11, v12, rfl, rfl, Dt, Dw, Us⟩
      obtain ⟨x, tx, hx, rfl⟩ := ints_get hzs hv
      have G6 := G5.keeps e6
      have hnl6 := e6 _ _ hnl5
      clear S11
      with_reducible refine W.hideU fun Q hQ => ?_
      wtm_at "R754"
      rename St _ _ _ _ _ => S13
      have h5 := fmod5 x
      have i5 := fm5n x
      obtain ⟨tu, hnu⟩ := strs_get' hnm (nms_get i5)
      with_reducible refine W_sw2 hh' ?_
      wtm_at "R754"
      with_reducible refine o_subLst (S13.keep _ _ hnl6) h5.1 (fm5k x) hnu ?_
      wtm_at "R754"
      with_reducible refine o_sliceL (S13.keep _ _ hnl6) (.int _ _) .none (by rw [strs_len hnm]; decide) (by with_unfolding_all rfl) ?_
      intro h₁₄ ll x₁₄ fll hll
      rw [fm5s x, pick_from (by rw [strs_len hnm]; exact i5)] at hll
      have hlat := strs_drop hnm ((x.fmod 5).toNat + 1)
      obtain ⟨g7, eg7, S14, kp7⟩ := S13.freeze x₁₄
      have hll7 := kp7 _ _ fll hll
      have G7 := G6.keeps eg7
      have Us7 := Us.ext eg7
      have hnl7 := eg7 _ _ hnl6
      clear kp7 S13 S12 G6 Us hnl6 hll fll
      wtm_at "R754"
      refine tupK S14 ?_
      intro h₁₅ g8 T15 _ eg8 hT15 S15
      refine ⟨T15, _, _, rfl, S15.keep _ _ hT15, fun h₁₆ x₁₆ => ?_⟩
      have S16 := S15.ext x₁₆
      have hll8 := eg8 _ _ hll7
      have G8 := G7.keeps eg8
      have Us8 := Us7.ext eg8
      have hnl8 := eg8 _ _ hnl7
      clear G7 Us7 hnl7 hll7 S14 S15 hT15
      wtm_at "R754"
      rename St _ _ _ _ _ => S17
      clear S16
      with_reducible refine W_sw2 hh' ?_
      wtm_at "R754"
      refine tupK S17 ?_
      intro h₁₈ g9 T18 _ eg9 hT18 S18
      refine ⟨T18, _, _, rfl, S18.keep _ _ hT18, fun h₁₉ x₁₉ => ?_⟩
      have S19 := S18.ext x₁₉
      clear S17 S18 hT18
      wtm_at "R754"
      rename St _ _ _ _ _ => S20
      clear S19
      refine lstK S20 ?_
      intro h₂₁ g10 l21 _ eg10 hl21 S21
      clear S20
      wtm_at "R754"
      have hnl2' : ∃ nl : Bool, decide ((x.fdiv 30).fmod 2 = 1) = nl := ⟨_, rfl⟩
      obtain ⟨bnl, hbnl⟩ := hnl2'
      have h2 := fq2 (x.fdiv 30)
      have hwht : ∀ {t1 t2 : Tok}, ∃ t, ([.str lxSp t1, .str t_45 t2] : List Value)[((x.fdiv 30).fmod 2).toNat]? = some (.str (mkS (wht bnl)) t) := by
        intro t1 t2
        have hc := fm2c (x.fdiv 30)
        rcases hc with q | q
        · rw [q] at hbnl ⊢; subst hbnl; exact ⟨t1, rfl⟩
        · rw [q] at hbnl ⊢; subst hbnl; exact ⟨t2, rfl⟩
      obtain ⟨tw, hwht⟩ := hwht
      with_reducible refine o_subLst (S21.keep _ _ hl21) h2.1 (fm2k _) hwht ?_
      wtm_at "R754"
      rename St _ _ _ _ _ => S22
      clear S21
      have hll10 := eg10 _ _ (eg9 _ _ hll8)
      have hnl10 := eg10 _ _ (eg9 _ _ hnl8)
      have G10 := (G8.keeps eg9).keeps eg10
      have Us10 := (Us8.ext eg9).ext eg10
      have e10 : Ext g6 g10 := ((eg7.trans eg8).trans eg9).trans eg10
      clear G8 hll8 hnl8 Us8 hl21
      have h6 := fm6 (x.fdiv 5)
      have BK : BdOk ((((ownL ++ xs.take 10).take i).map itemOf).foldl Bd.step bd0) (((ownL ++ xs.take 10).take i).map itemOf).length := by
        have := BdOk.fold (((ownL ++ xs.take 10).take i).map itemOf) bd0 0 bd0_ok (fun it hit => by obtain ⟨y, _, rfl⟩ := List.mem_map.mp hit; exact itemOf_ok y)
        rw [Nat.zero_add] at this; exact this
      have hitm := fold_next hx
      have hzl := itm_len xs i
      generalize (((ownL ++ xs.take 10).take i).map itemOf).foldl Bd.step bd0 = b at *
      have hum : nms.getD (x.fmod 5).toNat s_main ∈ nms := nms_mem i5
      obtain ⟨tu0, htu⟩ := look_some (l := b.tx) (k := nms.getD (x.fmod 5).toNat s_main) (by rw [BK.kt]; exact hum)
      obtain ⟨wu0, hwu⟩ := look_some (l := b.wd) (k := nms.getD (x.fmod 5).toNat s_main) (by rw [BK.kw]; exact hum)
      have etu : txOf b (nms.getD (x.fmod 5).toNat s_main) = tu0 := getD_some htu
      have ewu : wdOf b (nms.getD (x.fmod 5).toNat s_main) = wu0 := getD_some hwu
      have ltu : tu0.length ≤ 10000 := by have := tx_len BK hzl (nms.getD (x.fmod 5).toNat s_main); rwa [etu] at this
      have lkt := keys_len BK.kt
      have lkw := keys_len BK.kw
      have hwrd : (x.fdiv 5).fmod 6 < 5 → ∀ t1 t2 t3 t4 t5 : Tok, ∃ t, ([.str (mkS [119, 119]) t1, .str (mkS [119, 119]) t2, .str (mkS [119, 119]) t3, .str (mkS [39, 39]) t4, .str (mkS [34, 98, 49, 32, 99, 95, 99, 34]) t5] : List Value)[((x.fdiv 5).fmod 6).toNat]? = some (.str (mkS (wrd ((x.fdiv 5).fmod 6).toNat)) t) := by
        intro k5 t1 t2 t3 t4 t5
        have hc := fm6c k5
        rcases hc with q | q | q | q | q <;> rw [q] <;> exact ⟨_, rfl⟩
      refine ite_s (fun q => ?_) fun q => ?_
      · have k2 : (x.fdiv 5).fmod 6 < 2 := of_decide_eq_true q
        have k5 := lt25 k2
        wtm_at "R754"
        refine lstK S22 ?_
        intro h₂₃ g23 l23 _ eg23 hl23 S23
        clear S22
        have hll23 := eg23 _ _ hll10
        have G23 := G10.keeps eg23
        with_reducible refine o_neLst (S23.keep _ _ hll23) hlat (S23.keep _ _ hl23) ?_ ?_ ?_
        · exact Nat.lt_of_le_of_lt (Nat.add_le_add_left (show 3 + 64 ≤ 200 by decide) _) hu
        · have hc := fm5c x
          rcases hc with z | z | z | z | z <;> rw [z] <;> decide +kernel
        by_cases k4 : (x.fmod 5).toNat < 4
        · obtain ⟨hlen, hp, hne⟩ := later_facts k4 (strs_len hnm)
          wtm_at "R754"
          with_reducible refine ite_t hne ?_
          wtm_at "R754"
          obtain ⟨j1, j2, hv5⟩ := pick_facts (y := (x.fdiv 30).fdiv 2) k4
          obtain ⟨tv, hnv⟩ := strs_get' hnm (nms_get hv5)
          have hnv' : (nvs.drop ((x.fmod 5).toNat + 1))[(((x.fdiv 30).fdiv 2).fmod ((4 - (x.fmod 5).toNat : Nat) : Int)).toNat]? = some (.str (nms.getD ((x.fmod 5).toNat + 1 + (((x.fdiv 30).fdiv 2).fmod ((4 - (x.fmod 5).toNat : Nat) : Int)).toNat) s_main) tv) := by rw [List.getElem?_drop]; exact hnv
          have hvm := nms_mem hv5
          have hit0 : itemOf x = .use (nms.getD (x.fmod 5).toNat s_main) (nms.getD ((x.fmod 5).toNat + 1 + (((x.fdiv 30).fdiv 2).fmod ((4 - (x.fmod 5).toNat : Nat) : Int)).toNat) s_main) (decide ((x.fdiv 5).fmod 6 = 1)) bnl := by
            unfold itemOf; simp only; rw [if_pos ⟨k2, k4⟩, hbnl]
          generalize nms.getD ((x.fmod 5).toNat + 1 + (((x.fdiv 30).fdiv 2).fmod ((4 - (x.fmod 5).toNat : Nat) : Int)).toNat) s_main = vn at hnv hnv' hvm hit0
          obtain ⟨vl, rfl⟩ : ∃ vl, vn = mkS vl := ⟨sgn vn, (mkS_sgn vn).symm⟩
          have hvl : vl.length ≤ 4 := nms_len _ hvm
          have hmrk : ∀ t1 t2 : Tok, ∃ t, ([.str (mkS []) t1, .str (mkS [39]) t2] : List Value)[((x.fdiv 5).fmod 6).toNat]? = some (.str (mkS (mrk (decide ((x.fdiv 5).fmod 6 = 1)))) t) := by
            intro t1 t2
            have hc := fm6d k2
            rcases hc with z | z <;> rw [z] <;> exact ⟨_, rfl⟩
          generalize decide ((x.fdiv 5).fmod 6 = 1) = bq at hmrk hit0
          with_reducible refine W_sw2 hh' ?_
          wtm_at "R754"
          with_reducible refine c_lenLst (S23.keep _ _ hll23) (by rw [hlen]; exact Nat.le_trans (Nat.sub_le _ _) (by decide)) ?_
          intro _
          rw [hlen]
          with_reducible refine o_mod (Int.ne_of_gt hp) ?_
          intro _
          with_reducible refine o_subLst (S23.keep _ _ hll23) j1 j2 hnv' ?_
          wtm_at "R754"
          refine lstK S23 ?_
          intro h₂₄ g24 l24 _ eg24 hl24 S24
          clear S23
          wtm_at "R754"
          obtain ⟨tm, hmk⟩ := hmrk _ _
          with_reducible refine o_subLst (S24.keep _ _ hl24) h6.1 (fm6k _) hmk ?_
          wtm_at "R754"
          refine tupK S24 ?_
          intro h₂₅ g25 T25 _ eg25 hT25 S25
          refine ⟨T25, _, _, rfl, S25.keep _ _ hT25, fun h₂₆ x₂₆ => ?_⟩
          have S26 := S25.ext x₂₆
          clear S24 S25 hT25
          wtm_at "R754"
          rename St _ _ _ _ _ => S27
          clear S26
          with_reducible refine d_get (St.get3 S27) Dt htu ?_
          rintro vt ⟨tvt, rfl⟩
          wtm_at "R754"
          obtain ⟨z1, z2, z3, z4⟩ := sum4 (c := tu0) (show (mrk bq).length ≤ 1 by cases bq <;> decide) hvl (show (wht bnl).length ≤ 1 by cases bnl <;> decide)
          with_reducible refine o_adds (szL z1) ?_
          intro _
          rw [mkS_app]
          wtm_at "R754"
          with_reducible refine o_adds (szL z2) ?_
          intro _
          rw [mkS_app]
          wtm_at "R754"
          with_reducible refine o_adds (szL z3) ?_
          intro _
          rw [mkS_app]
          wtm_at "R754"
          with_reducible refine o_iadds (szL (z4 ltu)) ?_
          intro _
          rw [mkS_app]
          with_reducible refine d_set (St.get3 S27) Dt (a := tu0 ++ (mrk bq ++ vl ++ mrk bq ++ wht bnl)) (strR _ _) lkt ?_
          intro h₂₈ ot₂₈ g₂₈ Dt₂₈ sb₂₈
          have S28 := S27.upd3 sb₂₈.extBut g₂₈
          clear S27
          wtm_at "R754"
          with_reducible refine W_callM ?_
          wtm_at "R754"
          with_reducible refine m_append (St.get1 S28) ?_
          wtm_at "R754"
          with_reducible refine W_callM ?_
          wtm_at "R754"
          have hlk : look (put b.tx (nms.getD (x.fmod 5).toNat s_main) (tu0 ++ (mrk bq ++ vl ++ mrk bq ++ wht bnl))) (nms.getD (x.fmod 5).toNat s_main) = some (tu0 ++ (mrk bq ++ vl ++ mrk bq ++ wht bnl)) := by rw [look_put, if_pos rfl]
          with_reducible refine d_sub (St.get3 S28) Dt₂₈ hlk ?_
          rintro vt' ⟨tvt', rfl⟩
          wtm_at "R754"
          with_reducible refine m_count ?_
          wtm_at "R754"
          with_reducible refine c_count ?_
          intro _
          rw [show Txt.count (mkS (tu0 ++ (mrk bq ++ vl ++ mrk bq ++ wht bnl))) (mkS [10]) = (((tu0 ++ (mrk bq ++ vl ++ mrk bq ++ wht bnl)).count 10 : Nat) : Int) from congrArg Nat.cast (count_one _ 10)]
          wtm_at "R754"
          refine tupK S28 ?_
          intro h₂₉ g29 T29 _ eg29 hT29 S29
          clear S28
          wtm_at "R754"
          have hul : uvs.length ≤ 100000 := us_len Us10.len BK.lu hzl
          with_reducible refine c_append (St.get1 S29) hul ?_
          intro h₃₀ n₃₀ g₃₀ sb₃₀
          wtm_at "R754"
          refine hQ _ _ (fe_next ((((e10.trans eg23).trans eg24).trans eg25).trans eg29) (S29.upd1 sb₃₀.extBut g₃₀) ⟨ot₂₈, ow, n₃₀, uvs ++ [.ref T29], _, _, _, _, _, _, _, _, rfl, rfl, ?_, ?_, ?_⟩)
          · rw [hitm, hit0]; simp only [Bd.step, It.nm, It.ren, etu]; exact Dt₂₈
          · rw [hitm, hit0]; exact Dw
          · rw [hitm, hit0]; simp only [Bd.step, It.ren, etu]
            exact ((((Us10.ext eg23).ext eg24).ext eg25).ext eg29).snoc ⟨T29, _, _, _, rfl, hT29⟩
        · have hne : (!(nms.drop ((x.fmod 5).toNat + 1)).isEmpty) = false := by
            rw [fm4 k4]; rfl
          wtm_at "R754"
          with_reducible refine ite_f hne ?_
          have S24 := S23
          clear S23
          wtm_at "R754"
          with_reducible refine ite_t (decide_eq_true k5) ?_
          wtm_at "R754"
          with_reducible refine d_get (St.get2 S24) Dw hwu ?_
          rintro vw ⟨tvw, rfl⟩
          wtm_at "R754"
          with_reducible refine d_set (St.get2 S24) Dw (a := wu0 + 1) (intR _ _) lkw ?_
          intro h₃₀ ow₃₀ g₃₀ Dw₃₀ sb₃₀
          have S30 := S24.upd2 sb₃₀.extBut g₃₀
          clear S24
          wtm_at "R754"
          with_reducible refine d_get (St.get3 S30) Dt htu ?_
          rintro vt ⟨tvt, rfl⟩
          wtm_at "R754"
          refine lstK S30 ?_
          intro h₃₁ g31 l31 _ eg31 hl31 S31
          clear S30
          wtm_at "R754"
          obtain ⟨twd, hwd⟩ := hwrd k5 _ _ _ _ _
          with_reducible refine o_subLst (S31.keep _ _ hl31) h6.1 (fm6k _) hwd ?_
          wtm_at "R754"
          with_reducible refine o_adds (szL (Nat.le_trans (wrd_len _ _) (by decide))) ?_
          intro _
          rw [mkS_app]
          with_reducible refine o_iadds (szL (sum2 ltu (wrd_len _ _))) ?_
          intro _
          rw [mkS_app]
          with_reducible refine d_set (St.get3 S31) Dt (a := tu0 ++ (wrd ((x.fdiv 5).fmod 6).toNat ++ wht bnl)) (strR _ _) lkt ?_
          intro h₃₂ ot₃₂ g₃₂ Dt₃₂ sb₃₂
          wtm_at "R754"
          have hit : itemOf x = .word (nms.getD (x.fmod 5).toNat s_main) ((x.fdiv 5).fmod 6).toNat bnl := by unfold itemOf; simp only; rw [if_neg (fun z => absurd z.2 k4), if_pos k5, hbnl]
          refine hQ _ _ (fe_next ((e10.trans eg23).trans eg31) (S31.upd3 sb₃₂.extBut g₃₂) ⟨ot₃₂, ow₃₀, nu, uvs, _, _, _, _, _, _, _, _, rfl, rfl, ?_, ?_, ?_⟩)
          · rw [hitm, hit]; simp only [Bd.step, It.nm, etu]; exact Dt₃₂
          · rw [hitm, hit]; simp only [Bd.step, ewu]; exact Dw₃₀
          · rw [hitm, hit]; exact (Us10.ext eg23).ext eg31
      · have k2 : ¬ (x.fdiv 5).fmod 6 < 2 := of_decide_eq_false q
        wtm_at "R754"
        by_cases k5 : (x.fdiv 5).fmod 6 < 5
        · wtm_at "R754"
          with_reducible refine ite_t (decide_eq_true k5) ?_
          wtm_at "R754"
          with_reducible refine d_get (St.get2 S22) Dw hwu ?_
          rintro vw ⟨tvw, rfl⟩
          wtm_at "R754"
          with_reducible refine d_set (St.get2 S22) Dw (a := wu0 + 1) (intR _ _) lkw ?_
          intro h₃₀ ow₃₀ g₃₀ Dw₃₀ sb₃₀
          have S30 := S22.upd2 sb₃₀.extBut g₃₀
          clear S22
          wtm_at "R754"
          with_reducible refine d_get (St.get3 S30) Dt htu ?_
          rintro vt ⟨tvt, rfl⟩
          wtm_at "R754"
          refine lstK S30 ?_
          intro h₃₁ g31 l31 _ eg31 hl31 S31
          clear S30
          wtm_at "R754"
          obtain ⟨twd, hwd⟩ := hwrd k5 _ _ _ _ _
          with_reducible refine o_subLst (S31.keep _ _ hl31) h6.1 (fm6k _) hwd ?_
          wtm_at "R754"
          with_reducible refine o_adds (szL (Nat.le_trans (wrd_len _ _) (by decide))) ?_
          intro _
          rw [mkS_app]
          with_reducible refine o_iadds (szL (sum2 ltu (wrd_len _ _))) ?_
          intro _
          rw [mkS_app]
          with_reducible refine d_set (St.get3 S31) Dt (a := tu0 ++ (wrd ((x.fdiv 5).fmod 6).toNat ++ wht bnl)) (strR _ _) lkt ?_
          intro h₃₂ ot₃₂ g₃₂ Dt₃₂ sb₃₂
          wtm_at "R754"
          have hit : itemOf x = .word (nms.getD (x.fmod 5).toNat s_main) ((x.fdiv 5).fmod 6).toNat bnl := by unfold itemOf; simp only; rw [if_neg (fun z => absurd z.1 k2), if_pos k5, hbnl]
          refine hQ _ _ (fe_next (e10.trans eg31) (S31.upd3 sb₃₂.extBut g₃₂) ⟨ot₃₂, ow₃₀, nu, uvs, _, _, _, _, _, _, _, _, rfl, rfl, ?_, ?_, ?_⟩)
          · rw [hitm, hit]; simp only [Bd.step, It.nm, etu]; exact Dt₃₂
          · rw [hitm, hit]; simp only [Bd.step, ewu]; exact Dw₃₀
          · rw [hitm, hit]; exact Us10.ext eg31
        · with_reducible refine ite_f (decide_eq_false k5) ?_
          wtm_at "R754"
          with_reducible refine d_get (St.get3 S22) Dt htu ?_
          rintro vt ⟨tvt, rfl⟩
          wtm_at "R754"
          with_reducible refine o_iadds (szL (sum2 ltu (by decide))) ?_
          intro _
          rw [mkS_app]
          with_reducible refine d_set (St.get3 S22) Dt (a := tu0 ++ [35, 32, 98, 49, 10]) (strR _ _) lkt ?_
          intro h₃₂ ot₃₂ g₃₂ Dt₃₂ sb₃₂
          wtm_at "R754"
          have hit : itemOf x = .rem (nms.getD (x.fmod 5).toNat s_main) := by
            unfold itemOf; simp only; rw [if_neg (fun z => absurd z.1 k2), if_neg k5]
          refine hQ _ _ (fe_next e10 (S22.upd3 sb₃₂.extBut g₃₂) ⟨ot₃₂, ow, nu, uvs, _, _, _, _, _, _, _, _, rfl, rfl, ?_, ?_, ?_⟩)
          · rw [hitm, hit]; simp only [Bd.step, It.nm, etu]; exact Dt₃₂
          · rw [hitm, hit]; exact Dw
          · rw [hitm, hit]; exact Us10
    · rintro h₁₂ g6 m mu e6 S12 ⟨ot, ow, nu, uvs, v5, v6, v7, v8, v9, v10, v11, v12, rfl, rfl, Dt, Dw, Us⟩
      rw [ints_len hzs, List.take_length] at Dt Dw Us
      clear S11
      wtm_at "R754"
      refine tupK S12 ?_
      intro h₁₃ g7 T13 _ eg7 hT13 S13
      clear S12
      obtain ⟨g8, eg8, hlu, S14⟩ := S13.freeze0
      obtain ⟨g9, eg9, hdw, S15⟩ := S14.freeze0
      obtain ⟨g10, eg10, hdt, S16⟩ := S15.freeze0
      have e10 := eg9.trans eg10
      have D0 := S16.mus _ (.head _)
      exact k _ g10 T13 dt dw lu nu uvs (((e5.trans e6).trans eg7).trans (eg8.trans e10)) S16.keep D0.2.2 D0.1 (e10 _ _ (eg8 _ _ hT13)) ⟨ot, hdt, Dt, fdt⟩ ⟨ow, eg10 _ _ hdw, Dw, fdw⟩ (e10 _ _ hlu) (((Us.ext eg7).ext eg8).ext e10)
end
/-! ### reading a text: its tokens -/
noncomputable abbrev Tab := List (Str × Row)
noncomputable def zeroRow : Row := ⟨0, 0, 0, 0, []⟩
noncomputable def nlN (nl : Bool) : Nat := if nl then 1 else 0
noncomputable def It.nlN : It → Nat
  | .use _ _ _ nl => NQ.nlN nl
  | .word _ _ nl => NQ.nlN nl
  | .rem _ => 1
noncomputable def It.isRem : It → Bool
  | .rem _ => true
  | _ => false
noncomputable def wtk (k : Nat) : List Nat := if k = 3 then [] else if k = 4 then [98, 49, 32, 99, 95, 99] else [119, 119]
noncomputable def It.tk : It → List Nat
  | .use _ v _ _ => sgn v
  | .word _ k _ => wtk k
  | .rem _ => []
noncomputable def It.qd : It → Bool
  | .use _ _ q _ => q
  | .word _ k _ => k = 3 ∨ k = 4
  | .rem _ => false
noncomputable def renL (l : List It) : List Nat := l.flatMap It.ren
theorem run_wht {nl : Bool} {tk r : List Nat} {qd : Bool} {ln : Nat} (h : tk ≠ [] ∨ qd = true) : Run .a tk qd ln (wht nl ++ r) ⟨tk, qd, ln + nlN nl, r, some lxSp⟩ := by
  cases nl
  · exact .aSp h
  · exact .aNl h
theorem run_words {qd : Bool} {ln : Nat} {o : Out} : ∀ (u tk r : List Nat), (∀ c ∈ u, IsW c) → Run .a (tk ++ u) qd ln r o → Run .a tk qd ln (u ++ r) o
  | [], tk, r, _, R => by simpa using R
  | c :: u, tk, r, h, R => .aWord (h c (.head _)) (run_words u (tk ++ [c]) r (fun d hd => h d (.tail _ hd)) (by simpa using R))
theorem run_qwords {d : Nat} {qd : Bool} {ln : Nat} {o : Out} (hd : IsQ d) : ∀ (u tk r : List Nat), u ≠ [] → (∀ c ∈ u, IsW c) → Run (.q d) (tk ++ u) true ln r o → Run (.q d) tk qd ln (u ++ r) o
  | [], tk, r, n, _, R => absurd rfl n
  | [c], tk, r, _, h, R => .qWord hd (h c (.head _)) R
  | c :: c' :: u, tk, r, _, h, R => .qWord hd (h c (.head _)) (run_qwords hd (c' :: u) (tk ++ [c]) r (by simp) (fun d hd => h d (.tail _ hd)) (by simpa using R))
theorem nms_W : ∀ n ∈ nms, ∀ c ∈ sgn n, IsW c := by
  intro n hn c hc
  refine isW c ?_
  revert c
  revert n
  decide +kernel
theorem nms_ne : ∀ n ∈ nms, sgn n ≠ [] := by decide +kernel
theorem run_name {v : Str} (hv : v ∈ nms) {ln : Nat} {r : List Nat} {o : Out} (R : Run .a (sgn v) false ln r o) : Run .sp [] false ln (sgn v ++ r) o := by
  have hw := nms_W v hv
  have hn := nms_ne v hv
  generalize sgn v = l at hw hn R
  cases l with
  | nil => exact absurd rfl hn
  | cons c u => exact .spWord (hw c (.head _)) (run_words u [c] r (fun d hd => hw d (.tail _ hd)) R)
theorem run_it {it : It} (hok : it.ok) (hr : it.isRem = false) (ln : Nat) (r : List Nat) : Run .sp [] false ln (it.ren ++ r) ⟨it.tk, it.qd, ln + it.nlN, r, some lxSp⟩ := by
  cases it with
  | rem u => cases hr
  | use u v q nl =>
    have hv := hok.2
    have hn := nms_ne v hv
    cases q with
    | false =>
      show Run .sp [] false ln ((([] ++ sgn v) ++ []) ++ wht nl ++ r) _
      simp only [List.nil_append, List.append_nil, List.append_assoc]
      exact run_name hv (run_wht (.inl hn))
    | true =>
      show Run .sp [] false ln ((([39] ++ sgn v) ++ [39]) ++ wht nl ++ r) _
      simp only [List.cons_append, List.nil_append, List.append_assoc]
      exact .spQuot isQ1 (run_qwords isQ1 (sgn v) [] _ hn (nms_W v hv) (.qClose isQ1 (run_wht (.inr rfl))))
  | word u k nl =>
    have wW : IsW 119 := isW 119 (by decide)
    by_cases k3 : k = 3
    · subst k3
      show Run .sp [] false ln (39 :: 39 :: (wht nl ++ r)) ⟨[], true, _, _, _⟩
      exact .spQuot isQ1 (.qClose isQ1 (run_wht (.inr rfl)))
    · by_cases k4 : k = 4
      · subst k4
        show Run .sp [] false ln (34 :: 98 :: 49 :: 32 :: 99 :: 95 :: 99 :: 34 :: (wht nl ++ r)) ⟨[98, 49, 32, 99, 95, 99], true, _, _, _⟩
        exact .spQuot isQ2 (.qWord isQ2 (isW _ (by decide)) (.qWord isQ2 (isW _ (by decide)) (.qSp isQ2 (.qWord isQ2 (isW _ (by decide)) (.qWord isQ2 (isW _ (by decide)) (.qWord isQ2 (isW _ (by decide)) (.qClose isQ2 (run_wht (.inr rfl)))))))))
      · have e1 : wrd k = [119, 119] := by unfold wrd; rw [if_neg k3, if_neg k4]
        have e2 : wtk k = [119, 119] := by unfold wtk; rw [if_neg k3, if_neg k4]
        have e3 : (It.word u k nl).qd = false := by simp [It.qd, k3, k4]
        rw [e3]
        show Run .sp [] false ln (wrd k ++ wht nl ++ r) ⟨wtk k, false, _, _, _⟩
        rw [e1, e2]
        exact .spWord wW (.aWord wW (run_wht (.inl (by simp))))
theorem run_rem {u : Str} {ln : Nat} {r : List Nat} {o : Out} (R : Run .sp [] false (ln + 1) r o) : Run .sp [] false ln ((It.rem u).ren ++ r) o :=
  .spRem (u := [32, 98, 49]) (by decide) R
/-- the next token of a text -/
theorem run_items : ∀ (r : List It) (ln : Nat), (∀ it ∈ r, it.ok) →
    ((∀ it ∈ r, it.isRem = true) ∧ Run .sp [] false ln (renL r) ⟨[], false, ln + r.length, [], none⟩) ∨
    ∃ rs it r', r = rs ++ it :: r' ∧ (∀ x ∈ rs, x.isRem = true) ∧ it.isRem = false ∧ Run .sp [] false ln (renL r) ⟨it.tk, it.qd, ln + rs.length + it.nlN, renL r', some lxSp⟩
  | [], ln, _ => .inl ⟨fun _ h => (nomatch h), .spEnd⟩
  | it :: r, ln, h => by
    cases hi : it.isRem with
    | false => exact .inr ⟨[], it, r, rfl, (fun _ h => nomatch h), hi, by simpa [renL] using run_it (h it (.head _)) hi ln (renL r)⟩
    | true =>
      obtain ⟨u, rfl⟩ : ∃ u, it = .rem u := by cases it with | rem u => exact ⟨u, rfl⟩ | use => cases hi | word => cases hi
      rcases run_items r (ln + 1) (fun x hx => h x (.tail _ hx)) with ⟨h1, R⟩ | ⟨rs, it, r', e, h1, h2, R⟩
      · refine .inl ⟨fun x hx => ?_, ?_⟩
        · rcases List.mem_cons.mp hx with rfl | hx
          · rfl
          · exact h1 x hx
        · have : ln + (It.rem u :: r).length = ln + 1 + r.length := by simp; omega
          rw [this]
          simpa [renL] using run_rem (u := u) R
      · refine .inr ⟨.rem u :: rs, it, r', by rw [e]; rfl, fun x hx => ?_, h2, ?_⟩
        · rcases List.mem_cons.mp hx with rfl | hx
          · rfl
          · exact h1 x hx
        · have : ln + (It.rem u :: rs).length = ln + 1 + rs.length := by simp; omega
          rw [this]
          simpa [renL] using run_rem (u := u) R
theorem tok_some {it : It} (hok : it.ok) (hr : it.isRem = false) : ¬ (it.tk = [] ∧ it.qd = false) := by
  cases it with
  | rem u => cases hr
  | use u v q nl => exact fun h => nms_ne v hok.2 h.1
  | word u k nl =>
    rintro ⟨h1, h2⟩
    have : k ≠ 3 ∧ k ≠ 4 := by simpa [It.qd] using h2
    simp [It.tk, wtk, this.1, this.2] at h1
/-! ### the tables, plainly -/
noncomputable def tabAt (wh : List (Str × Tab)) (v : Str) : Tab := (look wh v).getD []
noncomputable def rowAt (t : Tab) (v : Str) : Row := (look t v).getD zeroRow
noncomputable def addTab (turn : Int) (rows : Tab) (p : Str × Row) : Tab := put rows p.1 (if turn = 1 then addRow (rowAt rows p.1) p.2 else addRow p.2 (rowAt rows p.1))
noncomputable def useTab (wh : List (Str × Tab)) (u v : Str) (ln : Int) (turn : Int) (rows : Tab) : Tab :=
  put ((tabAt wh v).foldl (addTab turn) rows) v (addRow (rowAt ((tabAt wh v).foldl (addTab turn) rows) v) ⟨0, 0, 0, 0, [(leadS u ln, 1)]⟩)
structure Acc where
  rows : Tab
  own : Int
  size : Int
  turn : Int
  ln : Nat
noncomputable def acc0 : Acc := ⟨[], 0, 0, 1, 1⟩
noncomputable def Acc.step (wh : List (Str × Tab)) (u : Str) (a : Acc) : It → Acc
  | .rem _ => ⟨a.rows, a.own, a.size, a.turn, a.ln + 1⟩
  | .word _ _ nl => ⟨a.rows, a.own + 1, a.size, a.turn, a.ln + NQ.nlN nl⟩
  | .use _ v _ nl => ⟨useTab wh u v ((a.ln + NQ.nlN nl : Nat) : Int) a.turn a.rows, a.own, a.size + (rowAt (tabAt wh v) v).ct, 1 - a.turn, a.ln + NQ.nlN nl⟩
noncomputable def tabOf (wh : List (Str × Tab)) (u : Str) (its : List It) : Tab :=
  let a := its.foldl (Acc.step wh u) acc0
  put a.rows u ⟨(a.ln : Int) - 1, 1, a.own, a.own + a.size, []⟩
noncomputable def rvn : List Str := [s_e2, s_dd, s_c_c, s_b1, s_main]
noncomputable def wholeOf (its : Str → List It) (l : List Str) : List (Str × Tab) := l.foldl (fun wh u => put wh u (tabOf wh u (its u))) []
theorem fold_rems (wh : List (Str × Tab)) (u : Str) : ∀ (rs : List It) (a : Acc), (∀ x ∈ rs, x.isRem = true) → rs.foldl (Acc.step wh u) a = ⟨a.rows, a.own, a.size, a.turn, a.ln + rs.length⟩
  | [], a, _ => rfl
  | x :: rs, a, h => by
    obtain ⟨v, rfl⟩ : ∃ v, x = .rem v := by
      have := h x (.head _)
      cases x with | rem v => exact ⟨v, rfl⟩ | use => cases this | word => cases this
    rw [List.foldl_cons, fold_rems wh u rs _ (fun y hy => h y (.tail _ hy))]
    show (⟨a.rows, a.own, a.size, a.turn, a.ln + 1 + rs.length⟩ : Acc) = _
    rw [List.length_cons, show a.ln + 1 + rs.length = a.ln + (rs.length + 1) from by omega]
theorem ln_step (wh : List (Str × Tab)) (u : Str) (a : Acc) (it : It) : (a.step wh u it).ln = a.ln + it.nlN := by cases it <;> rfl
theorem ln_bound {it : It} : it.nlN ≤ 1 := by
  cases it with
  | use _ _ _ nl => show NQ.nlN nl ≤ 1; cases nl <;> decide
  | word _ _ nl => show NQ.nlN nl ≤ 1; cases nl <;> decide
  | rem => exact Nat.le_refl _
theorem ln_fold (wh : List (Str × Tab)) (u : Str) : ∀ (l : List It) (a : Acc), (l.foldl (Acc.step wh u) a).ln ≤ a.ln + l.length
  | [], a => Nat.le_refl _
  | x :: l, a => by
    have := ln_fold wh u l (a.step wh u x)
    rw [ln_step] at this
    have h1 := @ln_bound x
    simp only [List.foldl_cons, List.length_cons]; omega
/-- the leads that a text's uses tell -/
noncomputable def leadsOf (u : Str) : Nat → List It → List Str
  | _, [] => []
  | ln, it :: l => match it with
    | .use _ _ _ nl => leadS u ((ln + NQ.nlN nl : Nat) : Int) :: leadsOf u (ln + NQ.nlN nl) l
    | it => leadsOf u (ln + it.nlN) l
theorem leadsOf_len (u : Str) : ∀ (l : List It) (ln : Nat), (leadsOf u ln l).length ≤ l.length
  | [], _ => Nat.le_refl _
  | it :: l, ln => by
    cases it with
    | use a b c d => have := leadsOf_len u l (ln + NQ.nlN d); simp only [leadsOf, List.length_cons]; omega
    | word a b c => have := leadsOf_len u l (ln + (It.word a b c).nlN); simp only [leadsOf, List.length_cons]; omega
    | rem a => have := leadsOf_len u l (ln + (It.rem a).nlN); simp only [leadsOf, List.length_cons]; omega
/-- a lead of a use that stands behind the items of a list -/
theorem leadsOf_mem (wh : List (Str × Tab)) (u : Str) {a v : Str} {q nl : Bool} {r : List It} : ∀ (l : List It) (ac : Acc), leadS u (((l.foldl (Acc.step wh u) ac).ln + NQ.nlN nl : Nat) : Int) ∈ leadsOf u ac.ln (l ++ .use a v q nl :: r)
  | [], ac => List.mem_cons_self
  | it :: l, ac => by
    have ih := leadsOf_mem wh u (a := a) (v := v) (q := q) (nl := nl) (r := r) l (ac.step wh u it)
    rw [ln_step] at ih
    cases it with
    | use a b c d => exact List.mem_cons_of_mem _ ih
    | word a b c => exact ih
    | rem a => exact ih
/-- the callers of a table lie in a list -/
noncomputable def Good (ld : List Str) (t : Tab) : Prop := ∀ p ∈ t, p.1 ∈ rvn ∧ ∀ k ∈ p.2.cal, k.1 ∈ ld
theorem nms_rvn {v : Str} (h : v ∈ nms) : v ∈ rvn := by revert v; decide +kernel
theorem rvn_nms {v : Str} (h : v ∈ rvn) : v ∈ nms := by revert v; decide +kernel
theorem put_mem {α : Type} {l : List (Str × α)} {k : Str} {a : α} {p : Str × α} (h : p ∈ put l k a) : p = (k, a) ∨ p ∈ l := by
  unfold put at h
  split at h
  · obtain ⟨x, hx, e⟩ := List.mem_map.mp h
    by_cases q : x.1 = k
    · rw [if_pos q] at e; subst q; exact .inl e.symm
    · rw [if_neg q] at e; exact .inr (e ▸ hx)
  · rcases List.mem_append.mp h with q | q
    · exact .inr q
    · exact .inl (List.mem_singleton.mp q)
theorem putI_keys {ld : List Str} : ∀ (s t : List (Str × Int)) (f : List (Str × Int) → Str × Int → List (Str × Int)), (∀ acc p, ∃ a, f acc p = put acc p.1 a) → (∀ k ∈ s, k.1 ∈ ld) → (∀ k ∈ t, k.1 ∈ ld) → ∀ k ∈ s.foldl f t, k.1 ∈ ld
  | [], t, f, _, _, h, k, hk => h k hk
  | p :: s, t, f, hf, hs, h, k, hk => by
    refine putI_keys s (f t p) f hf (fun x hx => hs x (.tail _ hx)) (fun x hx => ?_) k hk
    obtain ⟨a, e⟩ := hf t p
    rw [e] at hx
    rcases put_mem hx with rfl | hx
    · exact hs p (.head _)
    · exact h x hx
theorem addC_keys {ld : List Str} {t s : List (Str × Int)} (ht : ∀ k ∈ t, k.1 ∈ ld) (hs : ∀ k ∈ s, k.1 ∈ ld) : ∀ k ∈ addC t s, k.1 ∈ ld :=
  putI_keys s _ addI (fun acc p => ⟨_, rfl⟩) hs (putI_keys t [] putI (fun acc p => ⟨_, rfl⟩) ht (fun _ h => nomatch h))
theorem look_mem {α : Type} {l : List (Str × α)} {k : Str} {a : α} (h : look l k = some a) : (k, a) ∈ l := by
  unfold look at h
  cases q : l.find? (fun kv => kv.1 = k) with
  | none => rw [q] at h; cases h
  | some y =>
    rw [q] at h
    have e := List.find?_some q
    have m := List.mem_of_find?_eq_some q
    obtain ⟨y1, y2⟩ := y
    simp only [Option.map_some, Option.some.injEq] at h
    simp only [decide_eq_true_eq] at e
    subst h; subst e; exact m
theorem Good.row {ld : List Str} {t : Tab} (h : Good ld t) (v : Str) : ∀ k ∈ (rowAt t v).cal, k.1 ∈ ld := by
  unfold rowAt
  cases q : look t v with
  | none => exact fun _ h => nomatch h
  | some r => exact (h _ (look_mem q)).2
theorem Good.put {ld : List Str} {t : Tab} {k : Str} {r : Row} (h : Good ld t) (hk : k ∈ rvn) (hr : ∀ k ∈ r.cal, k.1 ∈ ld) : Good ld (put t k r) := fun p hp => by
  rcases put_mem hp with rfl | hp
  · exact ⟨hk, hr⟩
  · exact h p hp
theorem Good.add {ld : List Str} {turn : Int} {t : Tab} {p : Str × Row} (h : Good ld t) (hp : p.1 ∈ rvn ∧ ∀ k ∈ p.2.cal, k.1 ∈ ld) : Good ld (addTab turn t p) := by
  refine h.put hp.1 ?_
  split
  · exact addC_keys (h.row _) hp.2
  · exact addC_keys hp.2 (h.row _)
theorem Good.fold {ld : List Str} {turn : Int} : ∀ {s t : Tab}, Good ld t → Good ld s → Good ld (s.foldl (addTab turn) t)
  | [], _, h, _ => h
  | p :: s, t, h, hs => Good.fold (s := s) (t := addTab turn t p) (h.add (hs p (.head _))) (fun q hq => hs q (.tail _ hq))
noncomputable def GoodW (ld : List Str) (wh : List (Str × Tab)) : Prop := ∀ v, Good ld (tabAt wh v)
theorem Good.use {ld : List Str} {wh : List (Str × Tab)} {u v : Str} {ln turn : Int} {t : Tab} (h : Good ld t) (hw : GoodW ld wh) (hv : v ∈ rvn) (hl : leadS u ln ∈ ld) : Good ld (useTab wh u v ln turn t) := by
  have h1 : Good ld ((tabAt wh v).foldl (addTab turn) t) := h.fold (hw v)
  refine h1.put hv (addC_keys (h1.row v) fun k hk => ?_)
  rw [List.mem_singleton.mp hk]; exact hl
theorem Good.acc {ld : List Str} {wh : List (Str × Tab)} {u : Str} (hw : GoodW ld wh) : ∀ (l : List It) (a : Acc), Good ld a.rows → (∀ it ∈ l, it.ok) → (∀ x ∈ leadsOf u a.ln l, x ∈ ld) → Good ld (l.foldl (Acc.step wh u) a).rows
  | [], a, h, _, _ => h
  | it :: l, a, h, hk, hl => by
    refine Good.acc hw l (a.step wh u it) ?_ (fun x hx => hk x (.tail _ hx)) ?_
    · cases it with
      | use b v q nl => exact h.use hw (nms_rvn (hk _ (.head _)).2) (hl _ List.mem_cons_self)
      | word b c d => exact h
      | rem b => exact h
    · rw [ln_step]
      intro x hx
      refine hl x ?_
      cases it with
      | use b v q nl => exact List.mem_cons_of_mem _ hx
      | word b c d => exact hx
      | rem b => exact hx
theorem Good.tab {ld : List Str} {wh : List (Str × Tab)} {u : Str} (hw : GoodW ld wh) (hu : u ∈ rvn) {l : List It} (hk : ∀ it ∈ l, it.ok) (hl : ∀ x ∈ leadsOf u 1 l, x ∈ ld) : Good ld (tabOf wh u l) :=
  Good.put (Good.acc hw l acc0 (fun _ h => nomatch h) hk hl) hu (fun _ h => nomatch h)
theorem nodup_le : ∀ (l m : List Str), l.Nodup → (∀ x ∈ l, x ∈ m) → l.length ≤ m.length
  | [], _, _, _ => Nat.zero_le _
  | a :: l, m, hn, h => by
    have ha := h a (.head _)
    have hn' := List.nodup_cons.mp hn
    have := nodup_le l (m.erase a) hn'.2 (fun x hx => (List.mem_erase_of_ne (fun e => hn'.1 (by rw [← e]; exact hx))).mpr (h x (.tail _ hx)))
    rw [List.length_erase_of_mem ha] at this
    have : 0 < m.length := List.length_pos_of_mem ha
    simp only [List.length_cons]; omega
theorem Good.len {ld : List Str} {t : Tab} (h : Good ld t) (hn : (t.map (·.1)).Nodup) : t.length ≤ 5 := by
  have := nodup_le _ rvn hn (fun x hx => by obtain ⟨p, hp, rfl⟩ := List.mem_map.mp hx; exact (h p hp).1)
  simpa [rvn] using this
theorem keys_fold {its : Str → List It} : ∀ (l : List Str) (wh : List (Str × Tab)), (wh.map (·.1) ++ l).Nodup → (l.foldl (fun wh u => put wh u (tabOf wh u (its u))) wh).map (·.1) = wh.map (·.1) ++ l
  | [], wh, _ => by simp
  | u :: l, wh, h => by
    have hu : u ∉ wh.map (·.1) := fun q => by
      rw [List.nodup_append] at h
      exact h.2.2 u q u (.head _) rfl
    rw [List.foldl_cons, keys_fold l _ (by rw [put_snoc hu]; simpa using h), put_snoc hu]
    simp
theorem keys_whole (its : Str → List It) {i : Nat} : (wholeOf its (rvn.take i)).map (·.1) = rvn.take i := by
  have hn : (rvn.take i).Nodup := List.Sublist.nodup (List.take_sublist _ _) (by decide +kernel)
  have := keys_fold (its := its) (rvn.take i) [] (by simpa using hn)
  simpa [wholeOf] using this
theorem whole_next {its : Str → List It} {i : Nat} {u : Str} (h : rvn[i]? = some u) : wholeOf its (rvn.take (i + 1)) = put (wholeOf its (rvn.take i)) u (tabOf (wholeOf its (rvn.take i)) u (its u)) := by
  unfold wholeOf
  rw [List.take_add_one, h, List.foldl_append]; rfl
theorem look_none {α : Type} {l : List (Str × α)} {k : Str} (h : k ∉ l.map (·.1)) : look l k = none := by
  unfold look
  rw [List.find?_eq_none.mpr]
  · rfl
  · intro x hx q
    exact h (List.mem_map.mpr ⟨x, hx, by simpa using q⟩)
theorem wtk_nin (k : Nat) : mkS (wtk k) ∉ rvn := by
  unfold wtk
  (repeat' split) <;> decide +kernel
theorem look_foldAdd {turn : Int} {v : Str} : ∀ (s t : Tab), (look t v).isSome = true ∨ v ∈ s.map (·.1) → (look (s.foldl (addTab turn) t) v).isSome = true
  | [], t, h => by rcases h with h | h; exact h; exact nomatch h
  | p :: s, t, h => by
    refine look_foldAdd s _ ?_
    have e : look (addTab turn t p) v = if v = p.1 then _ else look t v := look_put _ _ _ _
    rcases h with h | h
    · left; rw [e]; split
      · rfl
      · exact h
    · rcases List.mem_cons.mp h with h | h
      · left; rw [e, if_pos h]; rfl
      · exact .inr h
theorem tab_self {wh : List (Str × Tab)} {u : Str} {l : List It} : ∃ r, look (tabOf wh u l) u = some r := ⟨_, by unfold tabOf; rw [look_put, if_pos rfl]⟩
theorem whole_good (its : Str → List It) (ld : List Str) (hk : ∀ u, ∀ it ∈ its u, it.ok) (hl : ∀ u ∈ rvn, ∀ x ∈ leadsOf u 1 (its u), x ∈ ld) : ∀ i, GoodW ld (wholeOf its (rvn.take i)) ∧ ∀ v t, look (wholeOf its (rvn.take i)) v = some t → ∃ r, look t v = some r
  | 0 => ⟨fun v p h => (nomatch h), fun v t h => (nomatch h)⟩
  | i + 1 => by
    obtain ⟨h1, h2⟩ := whole_good its ld hk hl i
    cases q : rvn[i]? with
    | none =>
      have : rvn.take (i + 1) = rvn.take i := by rw [List.take_add_one, q]; simp
      rw [this]; exact ⟨h1, h2⟩
    | some u =>
      rw [whole_next q]
      refine ⟨fun v => ?_, fun v t e => ?_⟩
      · unfold tabAt
        rw [look_put]
        split
        · exact Good.tab h1 (List.mem_of_getElem? q) (hk u) (hl u (List.mem_of_getElem? q))
        · exact h1 v
      · rw [look_put] at e
        split at e
        · rename_i z; cases e; rw [z]; exact tab_self
        · exact h2 v t e
section
variable {w : World} {A : Around} {h g : Heap} {P : Value → Heap → Prop} {L : Addr} {m : Str → Option Value} {mu mu' : List (Addr × Obj)} {env : Env} {pos : Pos}
theorem St.perm (S : St g L h m mu) (p : mu.Perm mu') : St g L h m mu' := ⟨S.ns, S.keep, S.gL, fun q hq => S.mus q (p.mem_iff.mpr hq), ((p.map _).nodup_iff).mp S.nd⟩
theorem St.get4 {a : Addr} {o : Obj} {p1 p2 p3 p4 : Addr × Obj} {r : List (Addr × Obj)} (S : St g L h m (p1 :: p2 :: p3 :: p4 :: (a, o) :: r)) : h.get? a = some o := (S.mus _ (.tail _ (.tail _ (.tail _ (.tail _ (.head _)))))).1
theorem St.get5 {a : Addr} {o : Obj} {p1 p2 p3 p4 p5 : Addr × Obj} {r : List (Addr × Obj)} (S : St g L h m (p1 :: p2 :: p3 :: p4 :: p5 :: (a, o) :: r)) : h.get? a = some o := (S.mus _ (.tail _ (.tail _ (.tail _ (.tail _ (.tail _ (.head _))))))).1
theorem St.upd4 {h' : Heap} {a : Addr} {o o' : Obj} {p1 p2 p3 p4 : Addr × Obj} {r : List (Addr × Obj)} (S : St g L h m (p1 :: p2 :: p3 :: p4 :: (a, o) :: r)) (hs : Heap.ExtBut a h h') (e : h'.get? a = some o') : St g L h' m (p1 :: p2 :: p3 :: p4 :: (a, o') :: r) := St.updAt (pre := [p1, p2, p3, p4]) S hs e
/-- two things at the head are turned -/
theorem St.two {h' : Heap} {dx dy : Addr} {ox oy ox' oy' : Obj} {r : List (Addr × Obj)} (S : St g L h m ((dx, ox) :: (dy, oy) :: r)) (e : ExtB [dx, dy] h h') (e1 : h'.get? dx = some ox') (e2 : h'.get? dy = some oy') : St g L h' m ((dx, ox') :: (dy, oy') :: r) := by
  have D := S.mus (dx, ox) (.head _)
  have D' := S.mus (dy, oy) (.tail _ (.head _))
  have nd := S.nd
  simp only [List.map_cons, List.nodup_cons, List.mem_cons, not_or] at nd
  obtain ⟨oL, es, ep, hL, q⟩ := S.ns
  refine ⟨⟨oL, es, ep, e _ _ (fun q => ?_) hL, q⟩, fun b o q => e b o (fun z => ?_) (S.keep b o q), S.gL, fun p hp => ?_, by simpa using S.nd⟩
  · rcases List.mem_cons.mp q with z | q
    · exact D.2.1 z.symm
    · exact D'.2.1 (List.mem_singleton.mp q).symm
  · rcases List.mem_cons.mp z with z | z
    · rw [z, D.2.2] at q; cases q
    · rw [List.mem_singleton.mp z, D'.2.2] at q; cases q
  · rcases List.mem_cons.mp hp with rfl | hp
    · exact ⟨e1, D.2⟩
    · rcases List.mem_cons.mp hp with rfl | hp
      · exact ⟨e2, D'.2⟩
      · have T := S.mus p (.tail _ (.tail _ hp))
        refine ⟨e _ _ (fun z => ?_) T.1, T.2⟩
        rcases List.mem_cons.mp z with z | z
        · exact nd.1.2 (List.mem_map.mpr ⟨p, hp, z⟩)
        · exact nd.2.1 (List.mem_map.mpr ⟨p, hp, List.mem_singleton.mp z⟩)
theorem St.adopt2 {h' : Heap} {dx dy : Addr} {ox oy : Obj} (S : St g L h m mu) (x : Ext h h') (fdx : h.get? dx = none) (fdy : h.get? dy = none) (hdx : h'.get? dx = some ox) (hdy : h'.get? dy = some oy) (hne : dx ≠ dy) :
    ∃ g', Ext g g' ∧ St g' L h' m ((dx, ox) :: (dy, oy) :: mu) ∧ ∀ b o, h.get? b = none → b ∉ [dx, dy] → h'.get? b = some o → g'.get? b = some o := by
  obtain ⟨oL, _, _, hL, _⟩ := id S.ns
  have gN : ∀ a, h.get? a = none → g.get? a = none := fun a ha => by
    cases q : g.get? a with
    | none => rfl
    | some o => rw [S.keep _ _ q] at ha; cases ha
  have nL : ∀ a, h.get? a = none → a ≠ L := fun a ha q => by rw [q, hL] at ha; cases ha
  have nM : ∀ a, h.get? a = none → ∀ p ∈ mu, p.1 ≠ a := fun a ha p hp q => by rw [← q, (S.mus p hp).1] at ha; cases ha
  have S1 := S.ext x
  have S2 : St g L h' m ((dx, ox) :: (dy, oy) :: mu) := by
    refine ⟨S1.ns, S1.keep, S1.gL, fun p hp => ?_, ?_⟩
    · rcases List.mem_cons.mp hp with rfl | hp
      · exact ⟨hdx, nL _ fdx, gN _ fdx⟩
      · rcases List.mem_cons.mp hp with rfl | hp
        · exact ⟨hdy, nL _ fdy, gN _ fdy⟩
        · exact S1.mus p hp
    · simp only [List.map_cons, List.nodup_cons, List.mem_cons, not_or]
      refine ⟨⟨hne, fun q => ?_⟩, fun q => ?_, S.nd⟩
      · obtain ⟨p, hp, e⟩ := List.mem_map.mp q; exact nM _ fdx p hp e
      · obtain ⟨p, hp, e⟩ := List.mem_map.mp q; exact nM _ fdy p hp e
  obtain ⟨g', eg, S3, kp⟩ := S2.rebase
  refine ⟨g', eg, S3, fun b o hb hn q => kp b o q (nL b hb) fun p hp z => ?_⟩
  rcases List.mem_cons.mp hp with rfl | hp
  · exact hn (by simp [← z])
  · rcases List.mem_cons.mp hp with rfl | hp
    · exact hn (by simp [← z])
    · exact nM b hb p hp z
theorem d_getD {α : Type} {R : Value → α → Prop} {o : Obj} {l : List (Str × α)} {d : Addr} {k : Str} {t : Tok} {dflt : Value} {a0 : α} (hd : h.get? d = some o) (D : DR w R o l) (hne : (d == sysModules) = false) (h0 : R dflt a0) (p : ∀ v, R v ((look l k).getD a0) → P v h) :
    W w A (call (.builtin "dict.get") [.ref d, .str k t, dflt]) h P :=
  d_getc hd D hne (fun e => p _ (by rw [e]; exact h0)) (fun a v e r => p _ (by rw [e]; exact r))
theorem W_dict1 {k v : Expr} (H : W w A (eval k env) (h.push emptyDict) fun kv h₁ => W w A (eval v env) h₁ fun vv h₂ => ∃ key t i tv, kv = .str key t ∧ vv = .int i tv ∧ h₂.get? h.objs.size = some emptyDict ∧
      ∀ h' o', h'.get? h.objs.size = some o' → DR w IntR o' [(key, i)] → Heap.SameBut h.objs.size h₂ h' → P (.ref h.objs.size) h') : W w A (eval (.Dict [some k] [v] pos) env) h P := fun s hs => by
  subst hs
  refine wpAny_Dict_walk (knd := PySem.strKind pw w) rfl rfl (by simp) (by simp) (pairTrees_cons_walk (W.run H (s := { s with heap := s.heap.push { cls := .type "dict", data := .dict #[] } }) rfl (s₀ := s) ⟨rfl, rfl, rfl⟩ fun kv s₁ l₁ p₁ => p₁.run rfl l₁ fun vv s₂ l₂ p₂ => pairTrees_nil_walk ?_))
  obtain ⟨key, t, i, tv, rfl, rfl, hg, k⟩ := p₂
  obtain ⟨kvs0, D0, r0⟩ := DR.new (w := w) (R := IntR)
  cases r0
  refine ⟨[(key, .int i tv)], ⟨is_key, rfl, trivial⟩, DR.of hg D0, fun h' hd hs => ?_⟩
  obtain ⟨o', ho', D'⟩ := Heap.dictOf_iff.mp hd
  exact ⟨l₂, k h' o' ho' ⟨_, D', .cons ⟨tv, rfl⟩ .nil⟩ hs⟩
theorem RowAt.len {v : Value} {r : Row} {ld : List Str} (R : RowAt w h v r) (hk : ∀ k ∈ r.cal, k.1 ∈ ld) : r.cal.length ≤ ld.length := by
  obtain ⟨T, d, t1, t2, t3, t4, rfl, hT, o, ho, D, hs⟩ := R
  have := nodup_le _ ld D.nodup (fun x hx => by obtain ⟨k, hk', rfl⟩ := List.mem_map.mp hx; exact hk k hk')
  simpa using this
noncomputable def TabAt (w : World) (h : Heap) (v : Value) (t : Tab) : Prop := ∃ d, v = .ref d ∧ TH w h d t
theorem TabAt.ext {h' : Heap} {v : Value} {t : Tab} (T : TabAt w h v t) (e : Ext h h') : TabAt w h' v t := let ⟨d, a, b⟩ := T; ⟨d, a, TH.ext b e⟩
end
set_option compiler.extract_closed false in
local macro_rules | `(tactic| wtm_at "R761") => `(tactic| repeat (with_reducible first | (show W _ _ (eval (.Name _ _) _) _ _; first | refine ld761_texts ‹_› ?_ | refine ld761_whole ‹_› ?_ | refine ld761_name ‹_› ?_ | refine ld761_lexer ‹_› ?_ | refine ld761_rows ‹_› ?_ | refine ld761_own ‹_› ?_ | refine ld761_size ‹_› ?_ | refine ld761_turn ‹_› ?_ | refine ld761_token ‹_› ?_ | refine ld761_other ‹_› ?_ | refine ld761_mine ‹_› ?_ | refine ld761_below ‹_› ?_ | refine gl761_shlex ‹_› ‹_› ?_ | refine gl761_add_func_stats ‹_› ‹_› ?_) | (show W _ _ (storeName _ _ _) _ _; first | (refine st761_whole ‹_› ?_; intro _ _ _) | (refine st761_name ‹_› ?_; intro _ _ _) | (refine st761_lexer ‹_› ?_; intro _ _ _) | (refine st761_rows ‹_› ?_; intro _ _ _) | (refine st761_own ‹_› ?_; intro _ _ _) | (refine st761_size ‹_› ?_; intro _ _ _) | (refine st761_turn ‹_› ?_; intro _ _ _) | (refine st761_token ‹_› ?_; intro _ _ _) | (refine st761_other ‹_› ?_; intro _ _ _) | (refine st761_mine ‹_› ?_; intro _ _ _) | (refine st761_below ‹_› ?_; intro _ _ _)) | (show W _ _ (loadName _ _) _ _; refine ln761_own ‹_› ?_) | wtm_at "Kn"))
section
variable {w : World} {A : Around} {h g : Heap} {P : Value → Heap → Prop} {dt : Addr} {tx : List (Str × List Nat)} {its : Str → List It} {ld : List Str}
theorem rvn_len {i : Nat} {u : Str} (h : rvn[i]? = some u) : i < 5 := (List.getElem?_eq_some_iff.mp h).1
/-- one token is read -/
theorem gtok {L x dx y dy a1 a2 : Addr} {ox oy : Obj} {m : Str → Option Value} {r : List (Addr × Obj)} {nm : Str} {ln : Nat} {all pre : List Nat} {l : List It} (G : Gr w g) (S : St g L h m ((dx, ox) :: (dy, oy) :: r))
    (hx : g.get? x = some (instObj 722 dx)) (hy : g.get? y = some (instObj 587 dy)) (ha1 : g.get? a1 = some dqO) (ha2 : g.get? a2 = some dqO)
    (hO : LexO ox y nm a1 a2 (some lxSp) ln (mkS [])) (hY : SioO oy (mkS all) pre.length) (hall : all = pre ++ renL l) (hlen : all.length ≤ 1048576) (hok : ∀ it ∈ l, it.ok) (hA : A.depth < 850)
    (k1 : ∀ h' ox' oy', (∀ it ∈ l, it.isRem = true) → St g L h' m ((dx, ox') :: (dy, oy') :: r) → LexO ox' y nm a1 a2 none (ln + l.length) (mkS []) → P .none h')
    (k2 : ∀ t h' ox' oy' pre' rs it l', l = rs ++ it :: l' → (∀ x ∈ rs, x.isRem = true) → it.isRem = false → St g L h' m ((dx, ox') :: (dy, oy') :: r) → LexO ox' y nm a1 a2 (some lxSp) (ln + rs.length + it.nlN) (mkS []) →
      SioO oy' (mkS all) pre'.length → all = pre' ++ renL l' → P (.str (mkS it.tk) t) h') : WC w A (.call (.ref 683) ⟨[.ref x], []⟩) h P := by
  have nd := S.nd
  simp only [List.map_cons, List.nodup_cons, List.mem_cons, not_or] at nd
  rcases run_items l ln hok with ⟨hr, R⟩ | ⟨rs, it, l', e, hr, hi, R⟩
  · refine c683 G S.keep hx hy S.get0 S.get1 (S.mus _ (.head _)).2.2 (S.mus _ (.tail _ (.head _))).2.2 nd.1.1 ha1 ha2 hO hY hall hlen R hA ?_
    intro t h' ox' oy' pre' x' e1 e2 _ hO' hY'
    rw [if_pos ⟨rfl, rfl⟩]
    exact k1 h' ox' oy' hr (S.two x' e1 e2) hO'
  · refine c683 G S.keep hx hy S.get0 S.get1 (S.mus _ (.head _)).2.2 (S.mus _ (.tail _ (.head _))).2.2 nd.1.1 ha1 ha2 hO hY hall hlen R hA ?_
    intro t h' ox' oy' pre' x' e1 e2 hall' hO' hY'
    rw [if_neg (tok_some (hok it (by rw [e]; simp)) hi)]
    exact k2 t h' ox' oy' pre' rs it l' e hr hi (S.two x' e1 e2) hO' hY' hall'
/-- the reading loop's invariant -/
inductive Tk (u : Str) (y a1 a2 : Addr) (l : List It) (ox oy : Obj) (dn : List It) (ln : Nat) : Nat → Value → Prop
  | fin : l = dn → LexO ox y u a1 a2 none ln (mkS []) → Tk u y a1 a2 l ox oy dn ln 0 .none
  | tok {it : It} {r : List It} {pre : List Nat} {t : Tok} : l = dn ++ it :: r → it.isRem = false → LexO ox y u a1 a2 (some lxSp) (ln + it.nlN) (mkS []) → SioO oy (mkS (renL l)) pre.length → renL l = pre ++ renL r →
      Tk u y a1 a2 l ox oy dn ln (r.length + 1) (.str (mkS it.tk) t)
structure TI (w : World) (g0 : Heap) (L dt dw lx dx y dy a1 a2 dr : Addr) (u : Str) (tu : Tok) (p q : Addr × Obj) (ow : Obj) (wh : List (Str × Tab)) (l : List It) (n : Nat) (h : Heap) : Prop where
  ex : ∃ g' ox oy orw dn vt t5 t6 t7 v9 v10 v11, Ext g0 g' ∧ St g' L h (frL ns761 [some (.ref dt), some (.ref dw), some (.str u tu), some (.ref lx), some (.ref dr), some (.int (dn.foldl (Acc.step wh u) acc0).own t5),
      some (.int (dn.foldl (Acc.step wh u) acc0).size t6), some (.int (dn.foldl (Acc.step wh u) acc0).turn t7), some vt, v9, v10, v11]) [(dx, ox), (dy, oy), p, (dr, orw), (dw, ow), q] ∧
      DR w (RowAt w g') orw (dn.foldl (Acc.step wh u) acc0).rows ∧ Tk u y a1 a2 l ox oy dn (dn.foldl (Acc.step wh u) acc0).ln n vt
/-- after a token is read the invariant stands again -/
theorem Tk.after {u : Str} {y a1 a2 : Addr} {l dn rs l' : List It} {it : It} {ox oy : Obj} {wh : List (Str × Tab)} {pre : List Nat} {t : Tok} {r : List It} (e : l = dn ++ r) (e' : r = rs ++ it :: l') (hr : ∀ x ∈ rs, x.isRem = true) (hi : it.isRem = false)
    (hO : LexO ox y u a1 a2 (some lxSp) ((dn.foldl (Acc.step wh u) acc0).ln + rs.length + it.nlN) (mkS [])) (hY : SioO oy (mkS (renL l)) pre.length) (hall : renL l = pre ++ renL l') :
    Tk u y a1 a2 l ox oy (dn ++ rs) ((dn ++ rs).foldl (Acc.step wh u) acc0).ln (l'.length + 1) (.str (mkS it.tk) t) := by
  have := fold_rems wh u rs (dn.foldl (Acc.step wh u) acc0) hr
  rw [List.foldl_append, this]
  exact .tok (by rw [e, e']; simp) hi hO hY hall
theorem fold_rs {wh : List (Str × Tab)} {u : Str} {dn rs : List It} (hr : ∀ x ∈ rs, x.isRem = true) : ((dn ++ rs).foldl (Acc.step wh u) acc0).rows = (dn.foldl (Acc.step wh u) acc0).rows ∧
    ((dn ++ rs).foldl (Acc.step wh u) acc0).own = (dn.foldl (Acc.step wh u) acc0).own ∧ ((dn ++ rs).foldl (Acc.step wh u) acc0).size = (dn.foldl (Acc.step wh u) acc0).size ∧ ((dn ++ rs).foldl (Acc.step wh u) acc0).turn = (dn.foldl (Acc.step wh u) acc0).turn ∧
    ((dn ++ rs).foldl (Acc.step wh u) acc0).ln = (dn.foldl (Acc.step wh u) acc0).ln + rs.length := by
  have := fold_rems wh u rs (dn.foldl (Acc.step wh u) acc0) hr
  rw [List.foldl_append, this]
  exact ⟨rfl, rfl, rfl, rfl, rfl⟩
/-- a token has been read, not yet stored -/
structure TJ (w : World) (g0 : Heap) (L dt dw lx dx y dy a1 a2 dr : Addr) (u : Str) (tu : Tok) (p q : Addr × Obj) (ow : Obj) (wh : List (Str × Tab)) (l : List It) (N : Nat) (vt : Value) (h : Heap) : Prop where
  ex : ∃ n g' ox oy orw dn t5 t6 t7 v8 v9 v10 v11, n ≤ N ∧ Ext g0 g' ∧ St g' L h (frL ns761 [some (.ref dt), some (.ref dw), some (.str u tu), some (.ref lx), some (.ref dr), some (.int (dn.foldl (Acc.step wh u) acc0).own t5),
      some (.int (dn.foldl (Acc.step wh u) acc0).size t6), some (.int (dn.foldl (Acc.step wh u) acc0).turn t7), v8, v9, v10, v11]) [(dx, ox), (dy, oy), p, (dr, orw), (dw, ow), q] ∧
      DR w (RowAt w g') orw (dn.foldl (Acc.step wh u) acc0).rows ∧ Tk u y a1 a2 l ox oy dn (dn.foldl (Acc.step wh u) acc0).ln n vt
theorem gtokJ {g0 : Heap} {L dt dw lx dx y dy a1 a2 dr : Addr} {u : Str} {tu t5 t6 t7 : Tok} {p q : Addr × Obj} {ow ox oy orw : Obj} {wh : List (Str × Tab)} {l dn r : List It} {pre : List Nat} {v8 v9 v10 v11 : Option Value}
    (G : Gr w g) (e0 : Ext g0 g) (hx : g.get? lx = some (instObj 722 dx)) (hy : g.get? y = some (instObj 587 dy)) (ha1 : g.get? a1 = some dqO) (ha2 : g.get? a2 = some dqO)
    (S : St g L h (frL ns761 [some (.ref dt), some (.ref dw), some (.str u tu), some (.ref lx), some (.ref dr), some (.int (dn.foldl (Acc.step wh u) acc0).own t5),
      some (.int (dn.foldl (Acc.step wh u) acc0).size t6), some (.int (dn.foldl (Acc.step wh u) acc0).turn t7), v8, v9, v10, v11]) [(dx, ox), (dy, oy), p, (dr, orw), (dw, ow), q])
    (D : DR w (RowAt w g) orw (dn.foldl (Acc.step wh u) acc0).rows) (hl : l = dn ++ r) (hO : LexO ox y u a1 a2 (some lxSp) (dn.foldl (Acc.step wh u) acc0).ln (mkS [])) (hY : SioO oy (mkS (renL l)) pre.length) (hall : renL l = pre ++ renL r)
    (hlen : (renL l).length ≤ 1048576) (hok : ∀ it ∈ l, it.ok) (hA : A.depth < 850) : WC w A (.call (.ref 683) ⟨[.ref lx], []⟩) h (TJ w g0 L dt dw lx dx y dy a1 a2 dr u tu p q ow wh l r.length) := by
  refine gtok G S hx hy ha1 ha2 hO hY hall hlen (fun it hi => hok it (by rw [hl]; exact List.mem_append_right _ hi)) hA ?_ ?_
  · intro h' ox' oy' hr S' hO'
    obtain ⟨f1, f2, f3, f4, f5⟩ := fold_rs (wh := wh) (u := u) (dn := dn) hr
    exact ⟨0, g, ox', oy', orw, dn ++ r, t5, t6, t7, v8, v9, v10, v11, Nat.zero_le _, e0, by rw [f2, f3, f4]; exact S', by rw [f1]; exact D, .fin hl (by rw [f5]; exact hO')⟩
  · intro t h' ox' oy' pre' rs it l' e hr hi S' hO' hY' hall'
    obtain ⟨f1, f2, f3, f4, f5⟩ := fold_rs (wh := wh) (u := u) (dn := dn) hr
    exact ⟨l'.length + 1, g, ox', oy', orw, dn ++ rs, t5, t6, t7, v8, v9, v10, v11, by rw [e]; simp, e0, by rw [f2, f3, f4]; exact S', by rw [f1]; exact D, Tk.after hl e hr hi hO' hY' hall'⟩
theorem leadsOf_app (u : Str) : ∀ (l r : List It) (ln : Nat), ∀ x ∈ leadsOf u ln l, x ∈ leadsOf u ln (l ++ r)
  | [], r, ln, x, h => nomatch h
  | it :: l, r, ln, x, h => by
    cases it with
    | use a b c d =>
      rcases List.mem_cons.mp h with rfl | h
      · exact List.mem_cons_self
      · exact List.mem_cons_of_mem _ (leadsOf_app u l r _ x h)
    | word a b c => exact leadsOf_app u l r _ x h
    | rem a => exact leadsOf_app u l r _ x h
theorem renL_len : ∀ (l : List It), (∀ it ∈ l, it.ok) → (renL l).length ≤ 10 * l.length
  | [], _ => Nat.le_refl _
  | it :: l, h => by
    have h1 := ren_len (h it (.head _))
    have h2 := renL_len l fun x hx => h x (.tail _ hx)
    have e : renL (it :: l) = it.ren ++ renL l := rfl
    rw [e, List.length_append, List.length_cons]; omega
theorem itl_len {l : List It} (h : ∀ it ∈ l, it.ok) (q : l.length ≤ 1000) : (renL l).length ≤ 1048576 := by have := renL_len _ h; omega
theorem ks_len {γ : Type} {wh : List (Str × γ)} {m : List Str} {i : Nat} (h : wh.map (·.1) = m.take i) (e : m.length = 5) : wh.length ≤ 1000 := by
  have := congrArg List.length h
  rw [List.length_map, List.length_take] at this; omega
set_option maxHeartbeats 4000000 in
theorem c761 {q : Addr × Obj} (G : Gr w g) (e0 : Ext g h) (hq : h.get? q.1 = some q.2) (gq : g.get? q.1 = none) (Dt : DH w StrR g dt tx) (htx : ∀ u ∈ rvn, look tx u = some (renL (its u))) (hok : ∀ u, ∀ it ∈ its u, it.ok) (hlt : ∀ i u, rvn[i]? = some u → ∀ a v qf nl, It.use a v qf nl ∈ its u → v ∈ rvn.take i)
    (hll : ∀ u, (its u).length ≤ 1000) (hld : ∀ u ∈ rvn, ∀ x ∈ leadsOf u 1 (its u), x ∈ ld) (hldl : ld.length ≤ 10000) (hA : A.depth < 700) (hh : A.handled = none)
    (k : ∀ h' g' d, Ext g g' → Ext g' h' → g'.get? q.1 = none → h'.get? q.1 = some q.2 → DH w (TabAt w g') g' d (wholeOf its rvn) → P (.ref d) h') : WC w A (.call (.ref 761) ⟨[.ref dt], []⟩) h P := by
  refine en761 (mu := [q]) G e0 (fun p hp => by cases List.mem_singleton.mp hp; exact ⟨hq, gq⟩) (by simp) (Nat.lt_trans hA (by decide)) ?_
  intro L h₁ hL S x₁
  have hh' : (A.deeper (env761 L)).handled = none := hh
  obtain ⟨ot, hdt, DRt, net⟩ := id Dt
  refine W_asg ?_
  with_reducible refine W_dict0S G S ?_
  intro h₂ dw _ S2 fdw
  clear S x₁
  wtm_at "R761"
  rename St _ _ _ _ _ => S3
  clear S2
  with_reducible refine W_forL (L := L) hh' ?_
  wtm_at "R761"
  refine lstK S3 ?_
  intro h₄ g1 nl x₄ eg1 hnl S4
  have G1 := G.keeps eg1
  obtain ⟨nvs, hnm, hnl⟩ : ∃ nvs, StrsAre nvs rvn ∧ g1.get? nl = some (lstO nvs) := ⟨_, .cons s_e2 _ (.cons s_dd _ (.cons s_c_c _ (.cons s_b1 _ (.cons s_main _ .nil)))), hnl⟩
  clear S3
  refine ⟨nl, 0, _, g1, _, _, fun i g' m mu => ∃ ow v2 v3 v4 v5 v6 v7 v8 v9 v10 v11, m = frL ns761 [some (.ref dt), some (.ref dw), v2, v3, v4, v5, v6, v7, v8, v9, v10, v11] ∧ mu = [(dw, ow), q] ∧
      DR w (TabAt w g') ow (wholeOf its (rvn.take i)), rfl, S4, hnl, .inl ⟨_, _, rfl⟩, ⟨_, _, _, _, _, _, _, _, _, _, _, rfl, rfl, DR.new⟩, ?_, ?_⟩
  · rintro i v h₅ p g2 m mu hv e2 S5 ⟨ow, v2, v3, v4, v5, v6, v7, v8, v9, v10, v11, rfl, rfl, Dw⟩
    obtain ⟨u, tu, hu, rfl⟩ := strs_get hnm hv
    have hum : u ∈ rvn := List.mem_of_getElem? hu
    have i5 := rvn_len hu
    have G2 := G1.keeps e2
    have hdt2 := e2 _ _ (eg1 _ _ hdt)
    clear S4
    with_reducible refine W.hideU fun Q hQ => ?_
    wtm_at "R761"
    rename St _ _ _ _ _ => S6
    clear S5
    with_reducible refine W_cw (by kernel_rfl) ?_
    wtm_at "R761"
    with_reducible refine d_sub (S6.keep _ _ hdt2) DRt (htx u hum) ?_
    rintro vt ⟨tvt, rfl⟩
    wtm_at "R761"
    refine ⟨(G2.keeps S6.keep).k, ?_⟩
    refine (mk722 (G2.keeps S6.keep) (dpl hA (by decide)) ?_).call
    intro h₇ lx dx ox y dy oy a1 a2 x₇ hx hdx hy hdy ha1 ha2 hSi hLx fx fdx fy fdy fa1 fa2 hap hne
    obtain ⟨g3, eg3, S7, kp3⟩ := S6.adopt2 x₇ fdx fdy hdx hdy hne
    have hx3 := kp3 _ _ fx (hap _ (by simp)) hx
    have hy3 := kp3 _ _ fy (hap _ (by simp)) hy
    have ha13 := kp3 _ _ fa1 (hap _ (by simp)) ha1
    have ha23 := kp3 _ _ fa2 (hap _ (by simp)) ha2
    have G3 := G2.keeps eg3
    have Dw3 := Dw.mono fun _ _ r => TabAt.ext r eg3
    clear S6 x₇ fx fdx fy fdy fa1 fa2 kp3 hx hy ha1 ha2 hdx hdy Dw
    wtm_at "R761"
    with_reducible refine W_dict0S G3 S7 ?_
    intro h₈ dr _ S8 fdr
    clear S7
    wtm_at "R761"
    refine tupK S8 ?_
    intro h₉ g4 T9 _ eg4 hT9 S9
    clear S8
    with_reducible refine a_tup5 hh' (S9.keep _ _ hT9) ?_
    intro h₁₀ x₁₀
    replace S9 := S9.ext x₁₀
    have hx4 := eg4 _ _ hx3
    have hy4 := eg4 _ _ hy3
    have ha14 := eg4 _ _ ha13
    have ha24 := eg4 _ _ ha23
    have G4 := G3.keeps eg4
    have Dw4 := Dw3.mono fun _ _ r => TabAt.ext r eg4
    clear hx3 hy3 ha13 ha23 Dw3 G3 hT9
    wtm_at "R761"
    rename St _ _ _ _ _ => S10
    clear S9
    replace S10 : St g4 L _ _ [(dx, ox), (dy, oy), p, (dr, emptyDict), (dw, ow), q] := S10.perm (by
      refine (List.Perm.swap _ _ _).trans (.cons _ ((List.Perm.swap _ _ _).trans (.cons _ ?_)))
      exact List.Perm.swap _ _ _)
    with_reducible refine W_callM ?_
    wtm_at "R761"
    with_reducible refine mx_get_token G4 S10 hx4 hLx ?_
    with_reducible refine W_cw0 (G4.keeps S10.keep).k (by kernel_rfl) ?_
    have wg := (whole_good its ld hok hld i)
    have hkw : (wholeOf its (rvn.take i)).map (·.1) = rvn.take i := keys_whole its
    generalize hwh : wholeOf its (rvn.take i) = wh at *
    have htl : (renL (its u)).length ≤ 1048576 := itl_len (hok u) (hll u)
    have hA' : (A.deeper (env761 L)).depth < 850 := dpl hA (by decide)
    refine W.mono (gtokJ (dn := []) (r := its u) (pre := []) (l := its u) (wh := wh) G4 (Ext.refl g4) hx4 hy4 ha14 ha24 S10 DR.new rfl hLx hSi rfl htl (hok u) hA').call ?_
    rintro vt h₁₁ ⟨n0, g5, ox, oy, orw, dn, t5, t6, t7, v8, v9, v10, v11, hn0, e5, S11, D11, T11⟩
    clear S10 hLx hSi
    wtm_at "R761"
    rename St _ _ _ _ _ => S12
    with_reducible refine W_while (TI w g4 L dt dw lx dx y dy a1 a2 dr u tu p q ow wh (its u)) n0 ⟨g5, ox, oy, orw, dn, vt, t5, t6, t7, v9, v10, v11, e5, S12, D11, T11⟩ ?_
    clear S11 S12 D11 T11 e5 hn0 n0 ox oy orw dn vt g5 t5 t6 t7 v8 v9 v10 v11
    rintro n h₁₂ ⟨g5, ox, oy, orw, dn, vt, t5, t6, t7, v9, v10, v11, e5, S12, D12, T12⟩
    have G5 := G4.keeps e5
    have hx5 := e5 _ _ hx4
    have hy5 := e5 _ _ hy4
    have ha15 := e5 _ _ ha14
    have ha25 := e5 _ _ ha24
    have Dw5 : DR w (TabAt w g5) ow wh := Dw4.mono fun _ _ r => TabAt.ext r e5
    with_reducible refine W.hideB fun Qw hQw => ?_
    cases T12 with
    | fin hl hLx =>
      have gd : Good ld (dn.foldl (Acc.step wh u) acc0).rows := Good.acc wg.1 dn acc0 (fun _ h => nomatch h) (fun it hi => hok u it (by rw [hl]; exact hi)) (fun x hx => hld u hum x (by rw [hl]; exact hx))
      have hrl : (dn.foldl (Acc.step wh u) acc0).rows.length ≤ 100000 := Nat.le_trans (gd.len D12.nodup) (by decide)
      wtm_at "R761"
      with_reducible refine gx_lineno G5 S12 hx5 hLx ?_
      intro _
      wtm_at "R761"
      with_reducible refine W_dict0S G5 S12 ?_
      intro h₁₃ dc _ S13 fdc
      clear S12
      obtain ⟨g6, eg6, hdc, S14⟩ := S13.freeze0
      clear S13
      wtm_at "R761"
      refine tupK S14 ?_
      intro h₁₄ g7 T14 _ eg7 hT14 S15
      clear S14
      wtm_at "R761"
      have D7 : DR w (RowAt w g7) orw _ := D12.mono fun _ _ r => r.ext (eg6.trans eg7)
      have R7 : RowAt w g7 (.ref T14) ⟨((dn.foldl (Acc.step wh u) acc0).ln : Int) - 1, 1, (dn.foldl (Acc.step wh u) acc0).own, (dn.foldl (Acc.step wh u) acc0).own + (dn.foldl (Acc.step wh u) acc0).size, []⟩ :=
        ⟨T14, dc, _, _, _, _, rfl, hT14, _, eg7 _ _ hdc, DR.new, fdc⟩
      with_reducible refine d_set (St.get3 S15) D7 R7 hrl ?_
      intro h₁₅ or₁₅ g₁₅ D₁₅ sb₁₅
      have S16 := S15.upd3 sb₁₅.extBut g₁₅
      clear S15
      wtm_at "R761"
      replace S16 : St g7 L h₁₅ _ [(dr, or₁₅), (dx, ox), (dy, oy), p, (dw, ow), q] := S16.perm (by
        refine (List.Perm.cons _ (.cons _ (.swap _ _ _))).trans ((List.Perm.cons _ (.swap _ _ _)).trans (.swap _ _ _)))
      obtain ⟨g8, eg8, hdr, S17⟩ := S16.freeze0
      have S18 : St g8 L h₁₅ _ [p, (dw, ow), q] := S17.drop0.drop0
      clear S16 S17
      have D8 : DR w (TabAt w g8) ow wh := Dw5.mono fun _ _ r => TabAt.ext r ((eg6.trans eg7).trans eg8)
      have hwl : wh.length ≤ 100000 := Nat.le_trans (ks_len hkw rfl) (by decide)
      have Tn : TabAt w g8 (.ref dr) (tabOf wh u (its u)) := ⟨dr, rfl, or₁₅, hdr, by rw [hl]; exact D₁₅.mono fun _ _ r => r.ext eg8, fdr⟩
      with_reducible refine d_set (St.get1 S18) D8 (a := tabOf wh u (its u)) Tn hwl ?_
      intro h₁₈ ow₁₈ g₁₈ D₁₈ sb₁₈
      have S19 := S18.upd1 sb₁₈.extBut g₁₈
      clear S18
      wtm_at "R761"
      refine hQ _ _ (fe_next ((((((eg3.trans eg4).trans e5).trans eg6).trans eg7).trans eg8)) S19 ⟨ow₁₈, _, _, _, _, _, _, _, _, _, _, rfl, rfl, ?_⟩)
      rw [whole_next hu, hwh]
      exact D₁₈
    | @tok it r pre t hl hi hLx hSi hall =>
      cases it with
      | rem a => cases hi
      | word a kk nl =>
        have hnin : look wh (mkS (wtk kk)) = none := look_none (by rw [hkw]; exact fun q => wtk_nin kk (List.mem_of_mem_take q))
        wtm_at "R761"
        with_reducible refine d_in (St.get4 S12) Dw5 fdw ?_
        wtm_at "R761"
        have hfl : (look wh (mkS (It.word a kk nl).tk)).isSome = false := by show (look wh (mkS (wtk kk))).isSome = false; rw [hnin]; rfl
        with_reducible refine ite_f hfl ?_
        wtm_at "R761"
        rename St _ _ _ _ _ => S13
        clear S12
        have o1 : ((dn ++ [It.word a kk nl]).foldl (Acc.step wh u) acc0).own = (dn.foldl (Acc.step wh u) acc0).own + 1 := by rw [List.foldl_append]; rfl
        have o2 : ((dn ++ [It.word a kk nl]).foldl (Acc.step wh u) acc0).size = (dn.foldl (Acc.step wh u) acc0).size := by rw [List.foldl_append]; rfl
        have o3 : ((dn ++ [It.word a kk nl]).foldl (Acc.step wh u) acc0).turn = (dn.foldl (Acc.step wh u) acc0).turn := by rw [List.foldl_append]; rfl
        have S14 := S13
        rw [← o1, ← o2, ← o3] at S14
        clear S13
        with_reducible refine W_callM ?_
        wtm_at "R761"
        with_reducible refine mx_get_token G5 S14 hx5 hLx ?_
        with_reducible refine W_cw0 (G5.keeps S14.keep).k (by kernel_rfl) ?_
        refine W.mono (gtokJ (dn := dn ++ [It.word a kk nl]) (r := r) (pre := pre) (l := its u) (wh := wh) G5 e5 hx5 hy5 ha15 ha25 S14 (by rw [List.foldl_append]; exact D12) (by rw [hl]; simp) (by rw [List.foldl_append]; exact hLx) hSi hall htl (hok u) hA').call ?_
        rintro vt h₁₄ ⟨n0, g6, ox, oy, orw, dn', t5, t6, t7, v8, v9, v10, v11, hn0, e6, S15, D15, T15⟩
        clear S14
        wtm_at "R761"
        rename St _ _ _ _ _ => S16
        exact hQw _ _ (lp_next (Nat.lt_succ_of_le hn0) ⟨g6, ox, oy, orw, dn', vt, t5, t6, t7, v9, v10, v11, e6, S16, D15, T15⟩)
      | use a v qf nl =>
        have hvt : v ∈ rvn.take i := hlt i u hu a v qf nl (by rw [hl]; simp)
        have hvr : v ∈ rvn := List.mem_of_mem_take hvt
        obtain ⟨tb, htb⟩ := look_some (l := wh) (k := v) (by rw [hkw]; exact hvt)
        have etb : tabAt wh v = tb := getD_some htb
        obtain ⟨rv, hrv⟩ := wg.2 v tb htb
        have gtb : Good ld tb := etb ▸ wg.1 v
        have gd : Good ld (dn.foldl (Acc.step wh u) acc0).rows := Good.acc wg.1 dn acc0 (fun _ h => nomatch h) (fun it hi => hok u it (by rw [hl]; exact List.mem_append_left _ hi)) (fun x hx => hld u hum x (by
          rw [hl]; exact leadsOf_app u _ _ _ x hx))
        have hld1 : leadS u (((dn.foldl (Acc.step wh u) acc0).ln + nlN nl : Nat) : Int) ∈ ld := hld u hum _ (by rw [hl]; exact leadsOf_mem wh u dn acc0)
        have hfl : (look wh (mkS (It.use a v qf nl).tk)).isSome = true := by show (look wh (mkS (sgn v))).isSome = true; rw [mkS_sgn, htb]; rfl
        have htb' : look wh (mkS (It.use a v qf nl).tk) = some tb := by show look wh (mkS (sgn v)) = some tb; rw [mkS_sgn, htb]
        have ev : mkS (It.use a v qf nl).tk = v := mkS_sgn v
        rw [ev] at hfl htb' S12
        wtm_at "R761"
        with_reducible refine d_in (St.get4 S12) Dw5 fdw ?_
        wtm_at "R761"
        with_reducible refine ite_t hfl ?_
        have ev' : It.use a v qf nl = It.use a v qf nl := rfl
        with_reducible refine W_forK (L := L) (R := RowAt w g5) (l := tb) hh' ?_
        wtm_at "R761"
        with_reducible refine d_sub (St.get4 S12) Dw5 htb' ?_
        rintro vtb ⟨dtb, rfl, otb, hdtb, DRtb, netb⟩
        generalize hacc : dn.foldl (Acc.step wh u) acc0 = ac at *
        refine ⟨dtb, otb, g5, _, _, fun j g' m mu => ∃ orw v9 v10 v11, m = frL ns761 [some (.ref dt), some (.ref dw), some (.str u tu), some (.ref lx), some (.ref dr), some (.int ac.own t5),
            some (.int ac.size t6), some (.int ac.turn t7), some (.str v t), v9, v10, v11] ∧ mu = [(dx, ox), (dy, oy), p, (dr, orw), (dw, ow), q] ∧
            DR w (RowAt w g') orw ((tb.take j).foldl (addTab ac.turn) ac.rows), rfl, netb, S12, hdtb, DRtb, ⟨orw, v9, v10, v11, rfl, rfl, D12⟩, ?_, ?_⟩
        · rintro j key rr tk h₁₃ p' g6 m mu hj e6 S13 ⟨orw', v9', v10', v11', rfl, rfl, D13⟩
          have hjm := List.mem_of_getElem? hj
          have hkl : look tb key = some rr := look_of_get DRtb.nodup hj
          have G6 := G5.keeps e6
          have Dw6 : DR w (TabAt w g6) ow wh := Dw5.mono fun _ _ r => TabAt.ext r e6
          have gj : Good ld ((tb.take j).foldl (addTab ac.turn) ac.rows) := gd.fold fun q hq => gtb q (List.mem_of_mem_take hq)
          have hjn : ((tb.take (j + 1)).foldl (addTab ac.turn) ac.rows) = addTab ac.turn ((tb.take j).foldl (addTab ac.turn) ac.rows) (key, rr) := by rw [List.take_add_one, hj, List.foldl_append]; rfl
          generalize (tb.take j).foldl (addTab ac.turn) ac.rows = rws at *
          have hrl : rws.length ≤ 100000 := Nat.le_trans (gj.len D13.nodup) (by decide)
          clear S12
          with_reducible refine W.hideU fun Qi hQi => ?_
          wtm_at "R761"
          rename St _ _ _ _ _ => S14
          clear S13
          with_reducible refine W_sw2 hh' ?_
          wtm_at "R761"
          with_reducible refine W_callM ?_
          wtm_at "R761"
          with_reducible refine d_getm (St.get4 S14) D13 ?_
          wtm_at "R761"
          with_reducible refine W_dict0S G6 S14 ?_
          intro h₁₅ dz _ S15 fdz
          clear S14
          obtain ⟨g7, eg7, hdz, S16⟩ := S15.freeze0
          clear S15
          wtm_at "R761"
          refine tupK S16 ?_
          intro h₁₇ g8 T17 _ eg8 hT17 S17
          clear S16
          wtm_at "R761"
          have Rz : RowAt w g8 (.ref T17) zeroRow := ⟨T17, dz, _, _, _, _, rfl, hT17, _, eg8 _ _ hdz, DR.new, fdz⟩
          have D8 : DR w (RowAt w g8) orw' rws := D13.mono fun _ _ r => r.ext (eg7.trans eg8)
          have Dw8 : DR w (TabAt w g8) ow wh := Dw6.mono fun _ _ r => TabAt.ext r (eg7.trans eg8)
          with_reducible refine d_getD (St.get4 S17) D8 fdr Rz ?_
          intro vm Rm
          wtm_at "R761"
          with_reducible refine d_sub (St.get5 S17) Dw8 htb' ?_
          rintro vtb ⟨dtb8, rfl, otb8, hdtb8, DRtb8, _⟩
          wtm_at "R761"
          with_reducible refine d_sub (S17.keep _ _ hdtb8) DRtb8 hkl ?_
          intro vb Rb
          wtm_at "R761"
          refine tupK S17 ?_
          intro h₁₈ g9 T18 _ eg9 hT18 S18
          refine ⟨T18, _, _, rfl, S18.keep _ _ hT18, fun h₁₉ x₁₉ => ?_⟩
          have S19 := S18.ext x₁₉
          clear S17 S18 hT18
          wtm_at "R761"
          rename St _ _ _ _ _ => S20
          clear S19
          have Rm9 := Rm.ext (eg9.trans S20.keep)
          have Rb9 := Rb.ext (eg9.trans S20.keep)
          have G9 := ((G6.keeps eg7).keeps eg8).keeps eg9
          have hm9 : (rowAt rws key).cal.length ≤ 10000 := Nat.le_trans (RowAt.len Rm (gj.row key)) hldl
          have hb9 : rr.cal.length ≤ 10000 := Nat.le_trans (RowAt.len Rb (gtb _ hjm).2) hldl
          rename_i hcur _ _
          have hA2 : (A.deeper (env761 L)).depth < 790 := dpl hA (by decide)
          refine ite_s (fun q => ?_) fun q => ?_
          · wtm_at "R761"
            with_reducible refine W_cw (by kernel_rfl) ?_
            wtm_at "R761"
            refine ⟨(G9.keeps S20.keep).k, ?_⟩
            refine (c733 (G9.keeps S20.keep) Rm9 Rb9 hm9 hb9 hA2 hh' ?_).call
            intro h₂₁ vn x₂₁ Rn
            have Rn' : RowNew w hcur h₂₁ vn (if ac.turn = 1 then addRow (rowAt rws key) rr else addRow rr (rowAt rws key)) := by rw [if_pos (eq_of_beq q)]; exact Rn
            clear Rn
            obtain ⟨g10, eg10, S21, kp10⟩ := S20.freeze x₂₁
            have Rn10 := Rn'.at kp10
            clear S20 Rn'
            have D10 : DR w (RowAt w g10) orw' rws := D8.mono fun _ _ r => r.ext (eg9.trans eg10)
            wtm_at "R761"
            with_reducible refine d_set (St.get4 S21) D10 Rn10 hrl ?_
            intro h₂₂ or₂₂ g₂₂ D₂₂ sb₂₂
            have S22 := S21.upd4 sb₂₂.extBut g₂₂
            clear S21
            wtm_at "R761"
            refine hQi _ _ (fe_next (((eg7.trans eg8).trans eg9).trans eg10) S22 ⟨or₂₂, _, _, _, rfl, rfl, ?_⟩)
            rw [hjn]; exact D₂₂
          · wtm_at "R761"
            with_reducible refine W_cw (by kernel_rfl) ?_
            wtm_at "R761"
            refine ⟨(G9.keeps S20.keep).k, ?_⟩
            refine (c733 (G9.keeps S20.keep) Rb9 Rm9 hb9 hm9 hA2 hh' ?_).call
            intro h₂₁ vn x₂₁ Rn
            have Rn' : RowNew w hcur h₂₁ vn (if ac.turn = 1 then addRow (rowAt rws key) rr else addRow rr (rowAt rws key)) := by rw [if_neg (by simpa using q)]; exact Rn
            clear Rn
            obtain ⟨g10, eg10, S21, kp10⟩ := S20.freeze x₂₁
            have Rn10 := Rn'.at kp10
            clear S20 Rn'
            have D10 : DR w (RowAt w g10) orw' rws := D8.mono fun _ _ r => r.ext (eg9.trans eg10)
            wtm_at "R761"
            with_reducible refine d_set (St.get4 S21) D10 Rn10 hrl ?_
            intro h₂₂ or₂₂ g₂₂ D₂₂ sb₂₂
            have S22 := S21.upd4 sb₂₂.extBut g₂₂
            clear S21
            wtm_at "R761"
            refine hQi _ _ (fe_next (((eg7.trans eg8).trans eg9).trans eg10) S22 ⟨or₂₂, _, _, _, rfl, rfl, ?_⟩)
            rw [hjn]; exact D₂₂
        · rintro h₁₃ g6 m mu e6 S13 ⟨orw', v9', v10', v11', rfl, rfl, D13⟩
          rw [List.take_length] at D13
          clear S12
          have G6 := G5.keeps e6
          have Dw6 : DR w (TabAt w g6) ow wh := Dw5.mono fun _ _ r => TabAt.ext r e6
          have gj : Good ld (tb.foldl (addTab ac.turn) ac.rows) := gd.fold gtb
          have hsm : (look (tb.foldl (addTab ac.turn) ac.rows) v).isSome = true := look_foldAdd tb ac.rows (.inr (List.mem_map.mpr ⟨_, look_mem hrv, rfl⟩))
          obtain ⟨rz, hrz⟩ := Option.isSome_iff_exists.mp hsm
          have erz : rowAt (tb.foldl (addTab ac.turn) ac.rows) v = rz := getD_some hrz
          have hut : useTab wh u v ((ac.ln + nlN nl : Nat) : Int) ac.turn ac.rows = put (tb.foldl (addTab ac.turn) ac.rows) v (addRow rz ⟨0, 0, 0, 0, [(leadS u ((ac.ln + nlN nl : Nat) : Int), 1)]⟩) := by
            unfold useTab; rw [etb, erz]
          generalize tb.foldl (addTab ac.turn) ac.rows = rws at *
          have hrl : rws.length ≤ 100000 := Nat.le_trans (gj.len D13.nodup) (by decide)
          have hunm : u.length ≤ 100000 := Nat.le_trans (nms_len u (rvn_nms hum)) (by decide)
          have hlnb : ac.ln + nlN nl < 10 ^ 9 := by
            have h1 := ln_fold wh u dn acc0
            have h2 := hll u
            have h3 : nlN nl ≤ 1 := by cases nl <;> decide
            have h4 : acc0.ln = 1 := rfl
            rw [hacc] at h1
            rw [hl] at h2
            simp at h2
            omega
          have hx6 := e6 _ _ hx5
          wtm_at "R761"
          with_reducible refine W_cw (by kernel_rfl) ?_
          wtm_at "R761"
          with_reducible refine d_sub (St.get3 S13) D13 hrz ?_
          intro v1 R1
          wtm_at "R761"
          have hLx' : LexO ox y u a1 a2 (some lxSp) (ac.ln + nlN nl) (mkS []) := hLx
          have fnd : (h₁₃.objs.size == sysModules) = false := fresh_ne (G6.keeps S13.keep).k (Nat.le_refl _)
          with_reducible refine W_dict1 ?_
          have S14 := (S13.push emptyDict).swap
          clear S13
          with_reducible refine W_callM ?_
          wtm_at "R761"
          with_reducible refine mx_error_leader G6 S14 hx6 hLx' ?_
          with_reducible refine W_cw0 (G6.keeps S14.keep).k (by kernel_rfl) ?_
          refine (c705 G6 S14.keep hx6 S14.get0 (S14.mus _ (.head _)).2.2 hLx' hlnb hunm (dpl hA (by decide)) ?_).call
          intro t₁₅ h₁₅ x₁₅
          have S15 := (S14.ext x₁₅).swap
          clear S14
          wtm_at "R761"
          refine ⟨_, _, _, _, rfl, rfl, S15.get0, ?_⟩
          intro h₁₆ o₁₆ g₁₆ D₁₆ sb₁₆
          have S16 := S15.upd0 sb₁₆.extBut g₁₆
          clear S15
          obtain ⟨g7, eg7, hdc, S17⟩ := S16.freeze0
          clear S16
          wtm_at "R761"
          refine tupK S17 ?_
          intro h₁₈ g8 T18 _ eg8 hT18 S18
          clear S17
          wtm_at "R761"
          have R2 : RowAt w g8 (.ref T18) ⟨0, 0, 0, 0, [(leadS u ((ac.ln + nlN nl : Nat) : Int), 1)]⟩ := ⟨T18, _, _, _, _, _, rfl, hT18, _, eg8 _ _ hdc, D₁₆, fnd⟩
          have G8 := (G6.keeps eg7).keeps eg8
          have hm9 : rz.cal.length ≤ 10000 := Nat.le_trans (RowAt.len R1 (gj _ (look_mem hrz)).2) hldl
          refine ⟨(G8.keeps S18.keep).k, ?_⟩
          refine (c733 (G8.keeps S18.keep) (R1.ext ((eg7.trans eg8).trans S18.keep)) (R2.ext S18.keep) hm9 (show (1 : Nat) ≤ 10000 by decide) (dpl hA (by decide)) hh' ?_).call
          intro h₁₉ vn x₁₉ Rn
          obtain ⟨g9, eg9, S19, kp9⟩ := S18.freeze x₁₉
          have Rn9 := Rn.at kp9
          clear S18 Rn
          have D9 : DR w (RowAt w g9) orw' rws := D13.mono fun _ _ r => r.ext ((eg7.trans eg8).trans eg9)
          wtm_at "R761"
          with_reducible refine d_set (St.get3 S19) D9 Rn9 hrl ?_
          intro h₂₀ or₂₀ g₂₀ D₂₀ sb₂₀
          rw [← hut] at D₂₀
          have S20 := S19.upd3 sb₂₀.extBut g₂₀
          clear S19
          wtm_at "R761"
          have Dw9 : DR w (TabAt w g9) ow wh := Dw6.mono fun _ _ r => TabAt.ext r ((eg7.trans eg8).trans eg9)
          with_reducible refine W_sw2 hh' ?_
          wtm_at "R761"
          with_reducible refine d_sub (St.get4 S20) Dw9 htb' ?_
          rintro vtb ⟨dtb9, rfl, otb9, hdtb9, DRtb9, _⟩
          wtm_at "R761"
          with_reducible refine d_sub (S20.keep _ _ hdtb9) DRtb9 hrv ?_
          rintro vr ⟨Tr, dr9, t1, t2, t3, t4, rfl, hTr, _⟩
          wtm_at "R761"
          refine o_subTup (S20.keep _ _ hTr) (by decide) (by decide) rfl ?_
          wtm_at "R761"
          refine tupK S20 ?_
          intro h₂₁ g10 T21 _ eg10 hT21 S21
          refine ⟨T21, _, _, rfl, S21.keep _ _ hT21, fun h₂₂ x₂₂ => ?_⟩
          have S22 := S21.ext x₂₂
          clear S20 S21 hT21
          wtm_at "R761"
          rename St _ _ _ _ _ => S23
          clear S22
          have hst : (dn ++ [It.use a v qf nl]).foldl (Acc.step wh u) acc0 = ⟨useTab wh u v ((ac.ln + nlN nl : Nat) : Int) ac.turn ac.rows, ac.own, ac.size + rv.ct, 1 - ac.turn, ac.ln + nlN nl⟩ := by
            rw [List.foldl_append, hacc]
            show Acc.mk _ _ (ac.size + (rowAt (tabAt wh v) v).ct) _ _ = _
            rw [etb, show rowAt tb v = rv from getD_some hrv]
          have o1 : ((dn ++ [It.use a v qf nl]).foldl (Acc.step wh u) acc0).own = ac.own := by rw [hst]
          have o2 : ((dn ++ [It.use a v qf nl]).foldl (Acc.step wh u) acc0).size = ac.size + rv.ct := by rw [hst]
          have o3 : ((dn ++ [It.use a v qf nl]).foldl (Acc.step wh u) acc0).turn = 1 - ac.turn := by rw [hst]
          have S24 := S23
          rw [← o1, ← o2, ← o3] at S24
          clear S23
          have e10 : Ext g5 g10 := ((((e6.trans eg7).trans eg8).trans eg9).trans eg10)
          have G10 := G5.keeps e10
          with_reducible refine W_callM ?_
          wtm_at "R761"
          with_reducible refine mx_get_token G10 S24 (e10 _ _ hx5) hLx' ?_
          with_reducible refine W_cw0 (G10.keeps S24.keep).k (by kernel_rfl) ?_
          refine W.mono (gtokJ (dn := dn ++ [It.use a v qf nl]) (r := r) (pre := pre) (l := its u) (wh := wh) G10 (e5.trans e10) (e10 _ _ hx5) (e10 _ _ hy5) (e10 _ _ ha15) (e10 _ _ ha25) S24 (by rw [hst]; exact D₂₀.mono fun _ _ r => r.ext eg10) (by rw [hl]; simp) (by rw [hst]; exact hLx') hSi hall htl (hok u) hA').call ?_
          rintro vt h₂₅ ⟨n0, g11, ox, oy, orw, dn', t5, t6, t7, v8, v9, v10, v11, hn0, e11, S25, D25, T25⟩
          clear S24
          wtm_at "R761"
          rename St _ _ _ _ _ => S26
          exact hQw _ _ (lp_next (Nat.lt_succ_of_le hn0) ⟨g11, ox, oy, orw, dn', vt, t5, t6, t7, v9, v10, v11, e11, S26, D25, T25⟩)
  · rintro h₅ g2 m mu e2 S5 ⟨ow, v2, v3, v4, v5, v6, v7, v8, v9, v10, v11, rfl, rfl, Dw⟩
    clear S4
    rw [strs_len hnm, List.take_length] at Dw
    wtm_at "R761"
    obtain ⟨g3, eg3, hdw3, S6⟩ := S5.freeze0
    have D0 := S6.mus _ (.head _)
    exact k _ g3 dw ((eg1.trans e2).trans eg3) S6.keep D0.2.2 D0.1 ⟨ow, hdw3, Dw.mono fun _ _ r => TabAt.ext r eg3, fdw⟩
end
section
variable {w : World} {A : Around} {h g : Heap} {P : Value → Heap → Prop} {L : Addr} {m : Str → Option Value} {mu : List (Addr × Obj)} {env : Env} {pos : Pos}
/-- a list comprehension over a list of tuples, with one test; all that there is stays -/
theorem W_lc {elt iter cond : Expr} {es : List Expr} {ek : Nat} {tp : Pos} {scope : Scope} {cl : List (Str × Addr)} (K : (Str → Option Value) → Prop) (k0 : K fun _ => none) (hh : A.handled = none)
    (hclos : closureFor scope env = pure cl) (hcell : ∀ y ∈ scope.names, y.2 ≠ .cell) (hkind : scope.kind = .function) (hnames : ∀ y ∈ scope.names, y.2 = .local → scope.names.lookup y.1 = some .local)
    (H : W w A (eval iter env) h fun x h₁ => ∃ (l : Addr) (ln : Nat) (vs : List Value) (J : Nat → List Value → Prop), x = .ref l ∧ h₁.get? l = some (lstN ln vs) ∧ (∀ v ∈ vs, ∃ T, v = .ref T) ∧ vs.length ≤ 100000 ∧ J 0 [] ∧
      (∀ i v C h₂ acc p q m, vs[i]? = some v → J i acc → K m → St h₁ C h₂ m [p, q] →
        W w A (assign (.Tuple es ek tp) (compEnvC scope cl C env) v) h₂ fun _ h₃ => W w A (isTrue cond (compEnvC scope cl C env) (eval cond (compEnvC scope cl C env))) h₃ fun b h₄ =>
          if b = true then W w A (eval elt (compEnvC scope cl C env)) h₄ fun y h₅ => (∃ m', K m' ∧ St h₁ C h₅ m' [p, q]) ∧ J (i + 1) (acc ++ [y])
          else (∃ m', K m' ∧ St h₁ C h₄ m' [p, q]) ∧ J (i + 1) acc) ∧
      (∀ h' D n acc, Ext h₁ h' → h₁.get? D = none → h'.get? D = some (lstN n acc) → J vs.length acc → P (.ref D) h'))
    (hs : ∀ x, foldedSetIterable iter env x = pure x := by intro _; with_unfolding_all rfl) : W w A (eval (.ListComp elt [⟨.Tuple es ek tp, iter, [cond], 0⟩] scope pos) env) h P := fun s hs₀ => by
  rw [eval_ListComp]
  refine wpAny_comprehension_free (use := none) (cl := cl) rfl hs hclos hkind hnames (H.run hs₀ .rfl' fun x s₁ l₁ p₁ => ?_)
  obtain ⟨l, ln, vs, J, rfl, hl, hT, hz, j0, turn, fin⟩ := p₁
  refine wpAny_pyIter_list (items := vs.toArray) ⟨_, hl, rfl, ln, rfl⟩ ?_
  refine wpAny_newObj_type (wpAny_newFunctionEnv hcell (by intro y hy; simp at hy) (fun h₂ hns hsb => ?_) hkind)
  dsimp only at hns hsb ⊢
  generalize hH1 : s₁.heap.push { cls := .type "list_iterator", data := .fields #[.ref l, .int 0 0] } = H1 at hns hsb ⊢
  generalize hH2 : H1.push { cls := .type "list", dict := none, data := .seq ([] : List Value).toArray } = H2 at hns hsb ⊢
  have z1 : H1.objs.size = s₁.heap.objs.size + 1 := by rw [← hH1, Heap.size_push]
  have z2 : H2.objs.size = s₁.heap.objs.size + 2 := by rw [← hH2, Heap.size_push, z1]
  have e1 : Ext s₁.heap H1 := hH1 ▸ Ext.push _ _
  have e2 : Ext H1 H2 := hH2 ▸ Ext.push _ _
  have e3 : Ext H2 h₂ := fun b o q => hsb.extBut b o (Nat.ne_of_lt (Heap.lt_size q)) (Heap.get?_push_of_some _ q)
  have hI : H1.get? s₁.heap.objs.size = some { cls := .type "list_iterator", data := .fields #[.ref l, .int 0 0] } := hH1 ▸ Heap.get?_push_size _ rfl
  have hD : H2.get? H1.objs.size = some (lstO []) := hH2 ▸ Heap.get?_push_size _ rfl
  have S : St s₁.heap H2.objs.size h₂ (fun _ => none) [(s₁.heap.objs.size, { cls := .type "list_iterator", data := .fields #[.ref l, .int 0 0] }), (H1.objs.size, lstO [])] := by
    refine ⟨hns, (e1.trans e2).trans e3, get_above (by omega), fun p hp => ?_, by simp [z1]⟩
    rcases List.mem_cons.mp hp with rfl | hp
    · exact ⟨e3 _ _ (e2 _ _ hI), by show s₁.heap.objs.size ≠ _; omega, get_size _⟩
    · cases List.mem_singleton.mp hp
      exact ⟨e3 _ _ hD, by show H1.objs.size ≠ _; omega, get_above (by show _ ≤ H1.objs.size; omega)⟩
  have hfD : s₁.heap.get? H1.objs.size = none := get_above (by omega)
  generalize s₁.heap.objs.size = I at *
  generalize H1.objs.size = D at *
  generalize H2.objs.size = C at *
  have loop : ∀ s₄ : Shared, s₄ = { s₁ with heap := h₂, toks := s₁.toks + ([] : List (Str × Value)).length } → codeAny (model pw w) A (.compLoop (.ListComp elt [⟨.Tuple es ek tp, iter, [cond], 0⟩] scope pos) 0 (.ref I) (.ref D) (compEnvC scope cl C env))
      (compPost (model pw w) A (fun _ _ => False) none (fun v s' => Like s s' ∧ P v s'.heap) (.ref D) C) s₄ := by
    rintro s₄ rfl
    refine kct_loop (fun n s' => Like s s' ∧ ∃ i acc an oi m, n + i = vs.length ∧ acc.length ≤ i ∧ J i acc ∧ K m ∧ liO l i oi ∧ St s₁.heap C s'.heap m [(I, oi), (D, lstN an acc)]) (fun n s' x => ?_) vs.length
      ⟨⟨l₁.1, l₁.2.1, l₁.2.2⟩, 0, [], 0, _, _, rfl, Nat.le_refl _, j0, k0, ⟨rfl, rfl⟩, S⟩
    obtain ⟨lk, i, acc, an, oi, m, hn, hal, ji, km, ho, S'⟩ := x
    cases n with
    | zero =>
      refine wpAny_pyNext_list_end (l := l) (items := vs.toArray) (i := i) hh ⟨oi, S'.get0, ho.1, ho.2⟩ ⟨_, S'.keep _ _ hl, rfl, ln, rfl⟩ (by simp; omega) fun h' hs' => ?_
      have S'' := drop_it S' hs'
      refine ⟨m, S''.ns, fun h'' hs'' => ⟨⟨lk.1, lk.2.1, lk.2.2⟩, ?_⟩⟩
      have hk : i = vs.length := by omega
      subst hk
      refine fin h'' D an acc (fun b o q => hs''.extBut b o (fun z => ?_) (S''.keep b o q)) hfD (hs''.extBut _ _ (S''.mus _ (.head _)).2.1 S''.get0) ji
      rw [z, S''.gL] at q; cases q
    | succ n =>
      have hi : i < vs.length := by omega
      have hx : vs[i]? = some vs[i] := List.getElem?_eq_getElem hi
      obtain ⟨T, eT⟩ := hT _ (List.getElem_mem hi)
      refine wpAny_pyNext_list_item (l := l) (items := vs.toArray) (i := i) (x := vs[i]) ⟨oi, S'.get0, ho.1, ho.2⟩ ⟨_, S'.keep _ _ hl, rfl, ln, rfl⟩ (by simp) fun h' hit hs' => ?_
      obtain ⟨o', ho', oc, od⟩ := id hit
      have S₂ := S'.upd0 hs'.extBut ho'
      rw [eT] at hx ⊢
      refine wpAny_letOwnedTupleGo_listiter (l := l) (i := i + 1) ⟨o', ho', oc, od⟩ ?_
      refine W.run (turn i _ C h' acc (I, o') (D, lstN an acc) m hx ji km S₂) rfl (s₀ := s) ⟨lk.1, lk.2.1, lk.2.2⟩ fun _ s₅ l₅ p₅ => p₅.run rfl l₅ fun b s₆ l₆ p₆ => ?_
      cases b with
      | false =>
        obtain ⟨⟨m', km', S₃⟩, j'⟩ := p₆
        exact ⟨n, Nat.lt_succ_self _, l₆, i + 1, acc, an, o', m', by omega, by omega, j', km', ⟨oc, od⟩, S₃⟩
      | true =>
        refine W.run (P := fun y h₅ => (∃ m', K m' ∧ St s₁.heap C h₅ m' [(I, o'), (D, lstN an acc)]) ∧ J (i + 1) (acc ++ [y])) p₆ rfl l₆ fun y s₇ l₇ p₇ => ?_
        obtain ⟨⟨m', km', S₃⟩, j'⟩ := p₇
        refine W.run (c_append (w := w) (A := A) (v := y) (P := fun _ h' => ∃ n', h'.get? D = some (lstN n' (acc ++ [y])) ∧ Heap.SameBut D s₇.heap h') S₃.get1 (by omega) fun h' n' e sb => ⟨n', e, sb⟩) rfl l₇ fun _ s₈ l₈ p₈ => ?_
        obtain ⟨n', e', sb⟩ := p₈
        exact ⟨n, Nat.lt_succ_self _, l₈, i + 1, acc ++ [y], n', o', m', by omega, by simp; omega, j', km', ⟨oc, od⟩, S₃.upd1 sb.extBut e'⟩
  exact codeAny_compStart_list (loop _ rfl) (wpAny_pyIter_listiter (l := l) (i := 0) ⟨_, S.get0, rfl, rfl⟩ (loop _ rfl))
/-! ### cells -/
theorem W_ldCell {x : Str} {c : Addr} {o : Obj} {v : Value} (hk : env.scope.kind = .function) (hl : env.kindOf x = some .cell) (hc : env.cells.lookup x = some c) (hd : (x == ("__debug__" : Str)) = false) (ho : h.get? c = some o) (hv : o.data = .cell (some v)) (p : P v h) :
    W w A (eval (.Name x pos) env) h P := fun s hs => wpAny_Name (wpAny_loadName_cell hk hl hc ⟨o, hs ▸ ho, hv⟩ ⟨.rfl', hs ▸ p⟩) hd
theorem W_stCell {x : Str} {c : Addr} {o : Obj} {v₀ : Option Value} {v : Value} {U : Unit → Heap → Prop} (hk : env.scope.kind = .function) (hl : env.kindOf x = some .cell) (hc : env.cells.lookup x = some c) (ho : h.get? c = some o) (hv : o.data = .cell v₀)
    (p : ∀ h' o', h'.get? c = some o' → o'.data = .cell (some v) → Heap.SameBut c h h' → U () h') : W w A (storeName env x v) h U := fun s hs => by
  subst hs
  exact wpAny_storeName_cell hk hl hc ⟨o, ho, hv⟩ fun h' hc' sb => let ⟨o', e, d⟩ := hc'; ⟨⟨rfl, rfl, rfl⟩, p h' o' e d sb⟩
theorem c_sum {l : Addr} {n : Nat} {vs : List Value} {ns : List Int} (hh : A.handled = none) (hl : h.get? l = some (lstN n vs)) (hi : IntsAre vs ns) (p : ∀ h' t, Ext h h' → P (.int ns.sum t) h') : W w A (call (.builtin "sum") [.ref l]) h P := fun s hs => by
  subst hs
  have hL : s.heap.IsList l vs.toArray := ⟨_, hl, rfl, n, rfl⟩
  have e0 : numsOf vs = ns := hi.numsOf
  obtain ⟨xs, hx⟩ := (hi.allInts : AllInts vs.toArray).items
  have e1 : vs = (intItems xs).toList := by rw [← hx]
  rw [e1, nums_intItems] at e0
  rw [hx] at hL
  refine sum_intListG hh hL fun h' tk t' hk => ⟨⟨rfl, rfl, rfl⟩, ?_⟩
  rw [preSum_eq, List.take_of_length_le (by simp), e0]
  exact p h' t' hk
end
noncomputable abbrev s_due : Str := ⟨⟨[nat_lit 100, nat_lit 117, nat_lit 101]⟩⟩
noncomputable abbrev s_user : Str := ⟨⟨[nat_lit 117, nat_lit 115, nat_lit 101, nat_lit 114]⟩⟩
noncomputable abbrev s_line : Str := ⟨⟨[nat_lit 108, nat_lit 105, nat_lit 110, nat_lit 101]⟩⟩
noncomputable abbrev s_number : Str := ⟨⟨[nat_lit 110, nat_lit 117, nat_lit 109, nat_lit 98, nat_lit 101, nat_lit 114]⟩⟩
noncomputable abbrev s_leader : Str := ⟨⟨[nat_lit 108, nat_lit 101, nat_lit 97, nat_lit 100, nat_lit 101, nat_lit 114]⟩⟩
noncomputable abbrev s_ends : Str := ⟨⟨[nat_lit 101, nat_lit 110, nat_lit 100, nat_lit 115]⟩⟩
noncomputable abbrev s_ways : Str := ⟨⟨[nat_lit 119, nat_lit 97, nat_lit 121, nat_lit 115]⟩⟩
noncomputable abbrev s_sizes : Str := ⟨⟨[nat_lit 115, nat_lit 105, nat_lit 122, nat_lit 101, nat_lit 115]⟩⟩
section names
variable {w : World} {A : Around} {h g : Heap} {P : Value → Heap → Prop} {U : Unit → Heap → Prop} {L : Addr} {m : Str → Option Value} {mu : List (Addr × Obj)} {v : Value} {pos : Pos}
noncomputable abbrev env766 (L : Addr) : Env := callEnvC fd766 L 766
noncomputable abbrev ns766 : List Str := [s_start, s_texts, s_words, s_uses, s_due, s_user, s_used, s_line, s_callers, s_number, s_leader, s_ends]
theorem ld766_start {v1 v2 v3 v4 v5 v6 v7 v8 v9 v10 v11 : Option Value} (S : St g L h (frL ns766 [some v, v1, v2, v3, v4, v5, v6, v7, v8, v9, v10, v11]) mu) (p : P v h) : W w A (eval (.Name s_start pos) (env766 L)) h P := W_nameL S rfl (by kernel_rfl) (by kernel_rfl) (by kernel_rfl) (by kernel_rfl) p
theorem ld766_texts {v0 v2 v3 v4 v5 v6 v7 v8 v9 v10 v11 : Option Value} (S : St g L h (frL ns766 [v0, some v, v2, v3, v4, v5, v6, v7, v8, v9, v10, v11]) mu) (p : P v h) : W w A (eval (.Name s_texts pos) (env766 L)) h P := W_nameL S rfl (by kernel_rfl) (by kernel_rfl) (by kernel_rfl) (by kernel_rfl) p
theorem ld766_words {v0 v1 v3 v4 v5 v6 v7 v8 v9 v10 v11 : Option Value} (S : St g L h (frL ns766 [v0, v1, some v, v3, v4, v5, v6, v7, v8, v9, v10, v11]) mu) (p : P v h) : W w A (eval (.Name s_words pos) (env766 L)) h P := W_nameL S rfl (by kernel_rfl) (by kernel_rfl) (by kernel_rfl) (by kernel_rfl) p
theorem ld766_uses {v0 v1 v2 v4 v5 v6 v7 v8 v9 v10 v11 : Option Value} (S : St g L h (frL ns766 [v0, v1, v2, some v, v4, v5, v6, v7, v8, v9, v10, v11]) mu) (p : P v h) : W w A (eval (.Name s_uses pos) (env766 L)) h P := W_nameL S rfl (by kernel_rfl) (by kernel_rfl) (by kernel_rfl) (by kernel_rfl) p
theorem ld766_due {v0 v1 v2 v3 v5 v6 v7 v8 v9 v10 v11 : Option Value} (S : St g L h (frL ns766 [v0, v1, v2, v3, some v, v5, v6, v7, v8, v9, v10, v11]) mu) (p : P v h) : W w A (eval (.Name s_due pos) (env766 L)) h P := W_nameL S rfl (by kernel_rfl) (by kernel_rfl) (by kernel_rfl) (by kernel_rfl) p
theorem st766_due {v0 v1 v2 v3 v4 v5 v6 v7 v8 v9 v10 v11 : Option Value} (S : St g L h (frL ns766 [v0, v1, v2, v3, v4, v5, v6, v7, v8, v9, v10, v11]) mu) (p : ∀ h', h'.objs.size = h.objs.size → St g L h' (frL ns766 [v0, v1, v2, v3, some v, v5, v6, v7, v8, v9, v10, v11]) mu → U () h') : W w A (storeName (env766 L) s_due v) h U := W_st S rfl (by kernel_rfl) (by kernel_rfl) fun h' e S' => p h' e (S'.as (frL_set 4 rfl (by simp) (by decide +kernel)))
theorem ld766_user {v0 v1 v2 v3 v4 v6 v7 v8 v9 v10 v11 : Option Value} (S : St g L h (frL ns766 [v0, v1, v2, v3, v4, some v, v6, v7, v8, v9, v10, v11]) mu) (p : P v h) : W w A (eval (.Name s_user pos) (env766 L)) h P := W_nameL S rfl (by kernel_rfl) (by kernel_rfl) (by kernel_rfl) (by kernel_rfl) p
theorem st766_user {v0 v1 v2 v3 v4 v5 v6 v7 v8 v9 v10 v11 : Option Value} (S : St g L h (frL ns766 [v0, v1, v2, v3, v4, v5, v6, v7, v8, v9, v10, v11]) mu) (p : ∀ h', h'.objs.size = h.objs.size → St g L h' (frL ns766 [v0, v1, v2, v3, v4, some v, v6, v7, v8, v9, v10, v11]) mu → U () h') : W w A (storeName (env766 L) s_user v) h U := W_st S rfl (by kernel_rfl) (by kernel_rfl) fun h' e S' => p h' e (S'.as (frL_set 5 rfl (by simp) (by decide +kernel)))
theorem ld766_used {v0 v1 v2 v3 v4 v5 v7 v8 v9 v10 v11 : Option Value} (S : St g L h (frL ns766 [v0, v1, v2, v3, v4, v5, some v, v7, v8, v9, v10, v11]) mu) (p : P v h) : W w A (eval (.Name s_used pos) (env766 L)) h P := W_nameL S rfl (by kernel_rfl) (by kernel_rfl) (by kernel_rfl) (by kernel_rfl) p
theorem st766_used {v0 v1 v2 v3 v4 v5 v6 v7 v8 v9 v10 v11 : Option Value} (S : St g L h (frL ns766 [v0, v1, v2, v3, v4, v5, v6, v7, v8, v9, v10, v11]) mu) (p : ∀ h', h'.objs.size = h.objs.size → St g L h' (frL ns766 [v0, v1, v2, v3, v4, v5, some v, v7, v8, v9, v10, v11]) mu → U () h') : W w A (storeName (env766 L) s_used v) h U := W_st S rfl (by kernel_rfl) (by kernel_rfl) fun h' e S' => p h' e (S'.as (frL_set 6 rfl (by simp) (by decide +kernel)))
theorem ld766_line {v0 v1 v2 v3 v4 v5 v6 v8 v9 v10 v11 : Option Value} (S : St g L h (frL ns766 [v0, v1, v2, v3, v4, v5, v6, some v, v8, v9, v10, v11]) mu) (p : P v h) : W w A (eval (.Name s_line pos) (env766 L)) h P := W_nameL S rfl (by kernel_rfl) (by kernel_rfl) (by kernel_rfl) (by kernel_rfl) p
theorem st766_line {v0 v1 v2 v3 v4 v5 v6 v7 v8 v9 v10 v11 : Option Value} (S : St g L h (frL ns766 [v0, v1, v2, v3, v4, v5, v6, v7, v8, v9, v10, v11]) mu) (p : ∀ h', h'.objs.size = h.objs.size → St g L h' (frL ns766 [v0, v1, v2, v3, v4, v5, v6, some v, v8, v9, v10, v11]) mu → U () h') : W w A (storeName (env766 L) s_line v) h U := W_st S rfl (by kernel_rfl) (by kernel_rfl) fun h' e S' => p h' e (S'.as (frL_set 7 rfl (by simp) (by decide +kernel)))
theorem ld766_callers {v0 v1 v2 v3 v4 v5 v6 v7 v9 v10 v11 : Option Value} (S : St g L h (frL ns766 [v0, v1, v2, v3, v4, v5, v6, v7, some v, v9, v10, v11]) mu) (p : P v h) : W w A (eval (.Name s_callers pos) (env766 L)) h P := W_nameL S rfl (by kernel_rfl) (by kernel_rfl) (by kernel_rfl) (by kernel_rfl) p
theorem st766_callers {v0 v1 v2 v3 v4 v5 v6 v7 v8 v9 v10 v11 : Option Value} (S : St g L h (frL ns766 [v0, v1, v2, v3, v4, v5, v6, v7, v8, v9, v10, v11]) mu) (p : ∀ h', h'.objs.size = h.objs.size → St g L h' (frL ns766 [v0, v1, v2, v3, v4, v5, v6, v7, some v, v9, v10, v11]) mu → U () h') : W w A (storeName (env766 L) s_callers v) h U := W_st S rfl (by kernel_rfl) (by kernel_rfl) fun h' e S' => p h' e (S'.as (frL_set 8 rfl (by simp) (by decide +kernel)))
theorem ld766_number {v0 v1 v2 v3 v4 v5 v6 v7 v8 v10 v11 : Option Value} (S : St g L h (frL ns766 [v0, v1, v2, v3, v4, v5, v6, v7, v8, some v, v10, v11]) mu) (p : P v h) : W w A (eval (.Name s_number pos) (env766 L)) h P := W_nameL S rfl (by kernel_rfl) (by kernel_rfl) (by kernel_rfl) (by kernel_rfl) p
theorem st766_number {v0 v1 v2 v3 v4 v5 v6 v7 v8 v9 v10 v11 : Option Value} (S : St g L h (frL ns766 [v0, v1, v2, v3, v4, v5, v6, v7, v8, v9, v10, v11]) mu) (p : ∀ h', h'.objs.size = h.objs.size → St g L h' (frL ns766 [v0, v1, v2, v3, v4, v5, v6, v7, v8, some v, v10, v11]) mu → U () h') : W w A (storeName (env766 L) s_number v) h U := W_st S rfl (by kernel_rfl) (by kernel_rfl) fun h' e S' => p h' e (S'.as (frL_set 9 rfl (by simp) (by decide +kernel)))
theorem ld766_leader {v0 v1 v2 v3 v4 v5 v6 v7 v8 v9 v11 : Option Value} (S : St g L h (frL ns766 [v0, v1, v2, v3, v4, v5, v6, v7, v8, v9, some v, v11]) mu) (p : P v h) : W w A (eval (.Name s_leader pos) (env766 L)) h P := W_nameL S rfl (by kernel_rfl) (by kernel_rfl) (by kernel_rfl) (by kernel_rfl) p
theorem st766_leader {v0 v1 v2 v3 v4 v5 v6 v7 v8 v9 v10 v11 : Option Value} (S : St g L h (frL ns766 [v0, v1, v2, v3, v4, v5, v6, v7, v8, v9, v10, v11]) mu) (p : ∀ h', h'.objs.size = h.objs.size → St g L h' (frL ns766 [v0, v1, v2, v3, v4, v5, v6, v7, v8, v9, some v, v11]) mu → U () h') : W w A (storeName (env766 L) s_leader v) h U := W_st S rfl (by kernel_rfl) (by kernel_rfl) fun h' e S' => p h' e (S'.as (frL_set 10 rfl (by simp) (by decide +kernel)))
theorem ld766_ends {v0 v1 v2 v3 v4 v5 v6 v7 v8 v9 v10 : Option Value} (S : St g L h (frL ns766 [v0, v1, v2, v3, v4, v5, v6, v7, v8, v9, v10, some v]) mu) (p : P v h) : W w A (eval (.Name s_ends pos) (env766 L)) h P := W_nameL S rfl (by kernel_rfl) (by kernel_rfl) (by kernel_rfl) (by kernel_rfl) p
theorem st766_ends {v0 v1 v2 v3 v4 v5 v6 v7 v8 v9 v10 v11 : Option Value} (S : St g L h (frL ns766 [v0, v1, v2, v3, v4, v5, v6, v7, v8, v9, v10, v11]) mu) (p : ∀ h', h'.objs.size = h.objs.size → St g L h' (frL ns766 [v0, v1, v2, v3, v4, v5, v6, v7, v8, v9, v10, some v]) mu → U () h') : W w A (storeName (env766 L) s_ends v) h U := W_st S rfl (by kernel_rfl) (by kernel_rfl) fun h' e S' => p h' e (S'.as (frL_set 11 rfl (by simp) (by decide +kernel)))
theorem gl766_sum (G : Gr w g) (S : St g L h m mu) (p : P (.builtin "sum") h) : W w A (eval (.Name s_sum pos) (env766 L)) h P := W_nameB G S.keep rfl rfl (by kernel_rfl) (by kernel_rfl) (by kernel_rfl) (by kernel_rfl) nn_sum bb_sum p
theorem gl766_str (G : Gr w g) (S : St g L h m mu) (p : P (.type "str") h) : W w A (eval (.Name s_str pos) (env766 L)) h P := W_nameB G S.keep rfl rfl (by kernel_rfl) (by kernel_rfl) (by kernel_rfl) (by kernel_rfl) nn_str bb_str p
theorem ld766_ways {oc : Obj} (S : St g L h m mu) (hc : g.get? (L + 1) = some oc) (hd : oc.data = .cell (some v)) (p : P v h) : W w A (eval (.Name s_ways pos) (env766 L)) h P := W_ldCell (by kernel_rfl) (by kernel_rfl) (show _ = some (L + 1) from by kernel_rfl) (by kernel_rfl) (S.keep _ _ hc) hd p
theorem ld766_sizes {oc : Obj} (S : St g L h m mu) (hc : g.get? (L + 2) = some oc) (hd : oc.data = .cell (some v)) (p : P v h) : W w A (eval (.Name s_sizes pos) (env766 L)) h P := W_ldCell (by kernel_rfl) (by kernel_rfl) (show _ = some (L + 2) from by kernel_rfl) (by kernel_rfl) (S.keep _ _ hc) hd p
theorem ld766_name1 {oc : Obj} {p1 : Addr × Obj} {r : List (Addr × Obj)} (S : St g L h m (p1 :: (L + 3, oc) :: r)) (hd : oc.data = .cell (some v)) (p : P v h) : W w A (eval (.Name s_name pos) (env766 L)) h P := W_ldCell (by kernel_rfl) (by kernel_rfl) (show _ = some (L + 3) from by kernel_rfl) (by kernel_rfl) S.get1 hd p
theorem st766_name1 {oc : Obj} {p1 : Addr × Obj} {r : List (Addr × Obj)} {v₀ : Option Value} (S : St g L h m (p1 :: (L + 3, oc) :: r)) (hd : oc.data = .cell v₀) (k : ∀ h' oc', oc'.data = .cell (some v) → St g L h' m (p1 :: (L + 3, oc') :: r) → U () h') : W w A (storeName (env766 L) s_name v) h U := W_stCell (by kernel_rfl) (by kernel_rfl) (show _ = some (L + 3) from by kernel_rfl) S.get1 hd fun h' oc' e d sb => k h' oc' d (S.upd1 sb.extBut e)
theorem ld766_name2 {oc : Obj} {p1 : Addr × Obj} {p2 : Addr × Obj} {r : List (Addr × Obj)} (S : St g L h m (p1 :: p2 :: (L + 3, oc) :: r)) (hd : oc.data = .cell (some v)) (p : P v h) : W w A (eval (.Name s_name pos) (env766 L)) h P := W_ldCell (by kernel_rfl) (by kernel_rfl) (show _ = some (L + 3) from by kernel_rfl) (by kernel_rfl) S.get2 hd p
theorem sc766_ways0 {oc : Obj} {r : List (Addr × Obj)} {v₀ : Option Value} (S : St g L h m ((L + 1, oc) :: r)) (hd : oc.data = .cell v₀) (k : ∀ h' oc', oc'.data = .cell (some v) → St g L h' m ((L + 1, oc') :: r) → U () h') : W w A (storeName (env766 L) s_ways v) h U := W_stCell (by kernel_rfl) (by kernel_rfl) (show _ = some (L + 1) from by kernel_rfl) S.get0 hd fun h' oc' e d sb => k h' oc' d (S.upd0 sb.extBut e)
theorem sc766_sizes1 {oc : Obj} {p1 : Addr × Obj} {r : List (Addr × Obj)} {v₀ : Option Value} (S : St g L h m (p1 :: (L + 2, oc) :: r)) (hd : oc.data = .cell v₀) (k : ∀ h' oc', oc'.data = .cell (some v) → St g L h' m (p1 :: (L + 2, oc') :: r) → U () h') : W w A (storeName (env766 L) s_sizes v) h U := W_stCell (by kernel_rfl) (by kernel_rfl) (show _ = some (L + 2) from by kernel_rfl) S.get1 hd fun h' oc' e d sb => k h' oc' d (S.upd1 sb.extBut e)
theorem bind766 {u0 u1 u2 u3 : Value} : bindL (env766 L).kindOf ([s_start, s_texts, s_words, s_uses].zip [u0, u1, u2, u3]) (fun _ => none) = frL ns766 [some u0, some u1, some u2, some u3, none, none, none, none, none, none, none, none] := by
  have k0 : (env766 L).kindOf s_start = some .local := by kernel_rfl
  have k1 : (env766 L).kindOf s_texts = some .local := by kernel_rfl
  have k2 : (env766 L).kindOf s_words = some .local := by kernel_rfl
  have k3 : (env766 L).kindOf s_uses = some .local := by kernel_rfl
  show bindL (env766 L).kindOf [(s_start, u0), (s_texts, u1), (s_words, u2), (s_uses, u3)] (fun _ => none) = _
  simp only [bindL, k0, k1, k2, k3, if_true]
  have e0 : (fun _ => none : Str → Option Value) = frL ns766 [none, none, none, none, none, none, none, none, none, none, none, none] := by
    funext y
    simp only [frL, ite_self]
  funext y
  have t3 : frL ns766 [some u0, some u1, some u2, some u3, none, none, none, none, none, none, none, none] y = if y = s_uses then some u3 else frL ns766 [some u0, some u1, some u2, none, none, none, none, none, none, none, none, none] y := (congrFun (frL_set (ns := ns766) (vs := [some u0, some u1, some u2, none, none, none, none, none, none, none, none, none]) 3 rfl (by simp) (by decide +kernel)) y).symm
  have t2 : frL ns766 [some u0, some u1, some u2, none, none, none, none, none, none, none, none, none] y = if y = s_words then some u2 else frL ns766 [some u0, some u1, none, none, none, none, none, none, none, none, none, none] y := (congrFun (frL_set (ns := ns766) (vs := [some u0, some u1, none, none, none, none, none, none, none, none, none, none]) 2 rfl (by simp) (by decide +kernel)) y).symm
  have t1 : frL ns766 [some u0, some u1, none, none, none, none, none, none, none, none, none, none] y = if y = s_texts then some u1 else frL ns766 [some u0, none, none, none, none, none, none, none, none, none, none, none] y := (congrFun (frL_set (ns := ns766) (vs := [some u0, none, none, none, none, none, none, none, none, none, none, none]) 1 rfl (by simp) (by decide +kernel)) y).symm
  have t0 : frL ns766 [some u0, none, none, none, none, none, none, none, none, none, none, none] y = if y = s_start then some u0 else frL ns766 [none, none, none, none, none, none, none, none, none, none, none, none] y := (congrFun (frL_set (ns := ns766) (vs := [none, none, none, none, none, none, none, none, none, none, none, none]) 0 rfl (by simp) (by decide +kernel)) y).symm
  rw [t3, t2, t1, t0, ← congrFun e0 y]
theorem en766 {u0 u1 u2 u3 : Value} (G : Gr w g) (x : Ext g h) (hA : A.depth < 900)
    (H : ∀ L h₁ o1 o2 o3, o1.data = .cell none → o2.data = .cell none → o3.data = .cell none → St g L h₁ (frL ns766 [some u0, some u1, some u2, some u3, none, none, none, none, none, none, none, none]) [(L + 1, o1), (L + 2, o2), (L + 3, o3)] → Ext h h₁ →
      W w (A.deeper (env766 L)) (execs (fnBod (stAt 27)) (env766 L)) h₁ fun fl h' => P (retOf fl) h') : WC w A (.call (.ref 766) ⟨[u0, u1, u2, u3], []⟩) h P := fun s hs => by
  have X := G.k.keeps x
  subst hs
  refine codeAny_call_cells (fd := fd766) (binds := [s_start, s_texts, s_words, s_uses].zip [u0, u1, u2, u3]) (Nat.lt_trans hA (by decide)) (X 766 (o766 w.params) (by kernel_rfl)) rfl (G.lim.keeps x) (codeRec_of X (by kernel_rfl)) (body := fnBod (stAt 27)) rfl (by kernel_rfl) rfl
    (fun y hy => .inl ?_) (fun s₁ I => ?_) (by kernel_rfl) (by kernel_rfl) (by kernel_rfl)
  · have h4 : ([s_start, s_texts, s_words, s_uses].all fun z => fd766.scope.names.lookup z == some .local) = true := by kernel_rfl
    have := List.all_eq_true.mp h4 y.1 (List.of_mem_zip hy).1
    simpa using this
  · obtain ⟨⟨⟨h₁, tk, rfl⟩, ns, kp, fr⟩, cell, ap, ab⟩ := I
    have c1 := cell s_ways (s.heap.objs.size + 1) (by kernel_rfl)
    have c2 := cell s_sizes (s.heap.objs.size + 2) (by kernel_rfl)
    have c3 := cell s_name (s.heap.objs.size + 3) (by kernel_rfl)
    have bC : bindC (callEnvC fd766 s.heap.objs.size 766).kindOf ([s_start, s_texts, s_words, s_uses].zip [u0, u1, u2, u3]) (fun _ => none) = fun _ => none := by
      have k0 : (env766 s.heap.objs.size).kindOf s_start = some .local := by kernel_rfl
      have k1 : (env766 s.heap.objs.size).kindOf s_texts = some .local := by kernel_rfl
      have k2 : (env766 s.heap.objs.size).kindOf s_words = some .local := by kernel_rfl
      have k3 : (env766 s.heap.objs.size).kindOf s_uses = some .local := by kernel_rfl
      show bindC (env766 s.heap.objs.size).kindOf [(s_start, u0), (s_texts, u1), (s_words, u2), (s_uses, u3)] (fun _ => none) = _
      simp only [bindC, k0, k1, k2, k3, if_true]
    rw [bC] at c1 c2 c3
    obtain ⟨o1, g1, d1⟩ := c1
    obtain ⟨o2, g2, d2⟩ := c2
    obtain ⟨o3, g3, d3⟩ := c3
    have n : ∀ a, s.heap.objs.size ≤ a → g.get? a = none := fun a ha => by
      cases q : g.get? a with
      | none => rfl
      | some o => exact absurd (Heap.lt_size (x _ _ q)) (Nat.not_lt.mpr ha)
    have S : St g s.heap.objs.size h₁ (frL ns766 [some u0, some u1, some u2, some u3, none, none, none, none, none, none, none, none]) [(s.heap.objs.size + 1, o1), (s.heap.objs.size + 2, o2), (s.heap.objs.size + 3, o3)] := by
      refine ⟨by rw [← bind766 (L := s.heap.objs.size)]; exact ns, x.trans kp, n _ (Nat.le_refl _), fun p hp => ?_, by simp⟩
      rcases List.mem_cons.mp hp with rfl | hp
      · exact ⟨g1, by show s.heap.objs.size + 1 ≠ _; omega, n _ (by show _ ≤ s.heap.objs.size + 1; omega)⟩
      · rcases List.mem_cons.mp hp with rfl | hp
        · exact ⟨g2, by show s.heap.objs.size + 2 ≠ _; omega, n _ (by show _ ≤ s.heap.objs.size + 2; omega)⟩
        · cases List.mem_singleton.mp hp
          exact ⟨g3, by show s.heap.objs.size + 3 ≠ _; omega, n _ (by show _ ≤ s.heap.objs.size + 3; omega)⟩
    refine W.run (H _ h₁ o1 o2 o3 d1 d2 d3 S kp) (s := { s with heap := h₁, toks := tk }) rfl (s₀ := s) ⟨rfl, rfl, rfl⟩ fun fl s' l p => ?_
    exact ⟨l, by cases fl <;> exact p⟩
end names
noncomputable abbrev nsE : List Str := [s_user, s_used, s_line]
/-- a comprehension's names -/
structure EC (ce : Env) (C : Addr) (dn : Str) (cd cn : Addr) : Prop where
  eL : ce.locals = C
  eK : ce.scope.kind = .function
  eu : ce.kindOf s_user = some .local
  ed : ce.kindOf s_used = some .local
  el : ce.kindOf s_line = some .local
  en : ce.kindOf s_name = some .cell
  ew : ce.kindOf dn = some .cell
  cn : ce.cells.lookup s_name = some cn
  cw : ce.cells.lookup dn = some cd
  dd : (dn == ("__debug__" : Str)) = false
section
variable {w : World} {A : Around} {h g : Heap} {P : Value → Heap → Prop} {env : Env}

theorem lcW {scope : Scope} {cl : List (Str × Addr)} {iter : Expr} {q0 q1 q2 q3 q4 q5 q6 q7 q8 pos tp : Pos} {ek : Nat} {dn : Str} {cd cn dd lu : Addr} {ocd ocn od : Obj} {ls : List (Str × Int)} {ln : Nat} {uvs : List Value} {us : List (Str × Str × Int)} {name : Str} {tn : Tok}
    (hh : A.handled = none) (hclos : closureFor scope env = pure cl) (hcell : ∀ y ∈ scope.names, y.2 ≠ .cell) (hkind : scope.kind = .function) (hnames : ∀ y ∈ scope.names, y.2 = .local → scope.names.lookup y.1 = some .local)
    (hE : ∀ C, EC (compEnvC scope cl C env) C dn cd cn)
    (hcd : h.get? cd = some ocd) (vcd : ocd.data = .cell (some (.ref dd))) (hcn : h.get? cn = some ocn) (vcn : ocn.data = .cell (some (.str name tn))) (hd : h.get? dd = some od) (D : DR w IntR od ls)
    (hu : h.get? lu = some (lstN ln uvs)) (Us : UsesAre h uvs us) (hz : us.length ≤ 100000) (hk : ∀ p ∈ us, p.2.1 = name → ∃ a, look ls (p.1) = some a)
    (Hit : ∀ P : Value → Heap → Prop, P (.ref lu) h → W w A (eval iter env) h P)
    (p : ∀ h' N n vs, Ext h h' → h.get? N = none → h'.get? N = some (lstN n vs) → IntsAre vs ((us.filter (fun p => p.2.1 == name)).map fun p => (look ls (p.1)).getD 0) → P (.ref N) h')
    (hs : ∀ x, foldedSetIterable iter env x = pure x := by intro _; with_unfolding_all rfl) :
    W w A (eval (.ListComp (.Subscript (.Name dn q0) (.Name s_user q1) q2) [⟨.Tuple [.Name s_user q3, .Name s_used q4, .Name s_line q5] ek tp, iter, [.Compare (.Name s_used q6) [.Eq] [.Name s_name q7] q8], 0⟩] scope pos) env) h P := by
  refine W_lc (fun m => ∃ a b c, m = frL nsE [a, b, c]) ⟨none, none, none, by funext y; simp only [frL, ite_self]⟩ hh hclos hcell hkind hnames ?_ hs
  refine Hit _ ⟨lu, ln, uvs, fun i acc => IntsAre acc (((us.take i).filter (fun p => p.2.1 == name)).map fun p => (look ls (p.1)).getD 0), rfl, hu, ?_, by rw [Us.len]; exact hz, .nil, ?_, ?_⟩
  · intro v hv
    obtain ⟨i, hi⟩ := List.mem_iff_getElem?.mp hv
    obtain ⟨p, _, T, _, _, _, e, _⟩ := Us.get hi
    exact ⟨T, e⟩
  · rintro i v C h₂ acc p' q' m hv hj ⟨a, b, c, rfl⟩ S
    obtain ⟨pu, hpu, T, t1, t2, t3, rfl, hT⟩ := Us.get hv
    have hmem := List.mem_of_getElem? hpu
    have htk : us.take (i + 1) = us.take i ++ [pu] := by rw [List.take_add_one, hpu]; rfl
    obtain ⟨eL, eK, eu, ed, el, en, ew, cn', cw', ddn⟩ := hE C
    generalize compEnvC scope cl C env = ce at *
    refine a_tup3 hh (S.keep _ _ hT) ?_
    intro h₃ x₃
    have S3 := S.ext x₃
    refine a_name (W_st S3 eL eK eu fun h₄ _ S4 => a_name (W_st (S4.as (frL_set 0 rfl (by simp) (by decide +kernel))) eL eK ed fun h₅ _ S5 => a_name (W_st (S5.as (frL_set 1 rfl (by simp) (by decide +kernel))) eL eK el fun h₆ _ S6' => ?_)))
    have S6 : St h C h₆ (frL nsE [some (.str pu.1 t1), some (.str pu.2.1 t2), some (.int pu.2.2 t3)]) [p', q'] := S6'.as (frL_set 2 rfl (by simp) (by decide +kernel))
    clear S3 S4 S5 S6'
    refine T_cmp (W_nameL S6 eL eK ed (by decide +kernel) (show _ = some (.str (pu.2.1) t2) from by kernel_rfl) ?_)
    refine W_ldCell eK en cn' (by decide +kernel) (S6.keep _ _ hcn) vcn ?_
    refine o_eqs (t_bool ?_)
    by_cases z : pu.2.1 = name
    · refine ite_t (by simpa using z) ?_
      obtain ⟨av, ha⟩ := hk pu hmem z
      refine W_sub (W_ldCell eK ew cw' ddn (S6.keep _ _ hcd) vcd ?_)
      refine W_nameL S6 eL eK eu (by decide +kernel) (show _ = some (.str (pu.1) t1) from by kernel_rfl) ?_
      refine d_sub (S6.keep _ _ hd) D ha ?_
      rintro v ⟨tv, rfl⟩
      refine ⟨⟨_, ⟨_, _, _, rfl⟩, S6⟩, ?_⟩
      dsimp only
      rw [htk, List.filter_append, List.map_append]
      refine hj.append ?_
      rw [show [pu].filter (fun p => p.2.1 == name) = [pu] from by simp [z]]
      show IntsAre _ [(look ls (pu.1)).getD 0]
      rw [ha]
      exact .cons _ _ .nil
    · refine ite_f (by simpa using z) ⟨⟨_, ⟨_, _, _, rfl⟩, S6⟩, ?_⟩
      dsimp only
      rw [htk, List.filter_append, List.map_append]
      rw [show [pu].filter (fun p => p.2.1 == name) = [] from by simp [z]]
      simpa using hj
  · intro h' N n acc x' hN hg hj
    refine p h' N n acc x' hN hg ?_
    rwa [Us.len, List.take_length] at hj


theorem lcS {scope : Scope} {cl : List (Str × Addr)} {iter : Expr} {q0 q1 q2 q3 q4 q5 q6 q7 q8 pos tp : Pos} {ek : Nat} {dn : Str} {cd cn dd lu : Addr} {ocd ocn od : Obj} {ls : List (Str × Int)} {ln : Nat} {uvs : List Value} {us : List (Str × Str × Int)} {name : Str} {tn : Tok}
    (hh : A.handled = none) (hclos : closureFor scope env = pure cl) (hcell : ∀ y ∈ scope.names, y.2 ≠ .cell) (hkind : scope.kind = .function) (hnames : ∀ y ∈ scope.names, y.2 = .local → scope.names.lookup y.1 = some .local)
    (hE : ∀ C, EC (compEnvC scope cl C env) C dn cd cn)
    (hcd : h.get? cd = some ocd) (vcd : ocd.data = .cell (some (.ref dd))) (hcn : h.get? cn = some ocn) (vcn : ocn.data = .cell (some (.str name tn))) (hd : h.get? dd = some od) (D : DR w IntR od ls)
    (hu : h.get? lu = some (lstN ln uvs)) (Us : UsesAre h uvs us) (hz : us.length ≤ 100000) (hk : ∀ p ∈ us, p.1 = name → ∃ a, look ls (p.2.1) = some a)
    (Hit : ∀ P : Value → Heap → Prop, P (.ref lu) h → W w A (eval iter env) h P)
    (p : ∀ h' N n vs, Ext h h' → h.get? N = none → h'.get? N = some (lstN n vs) → IntsAre vs ((us.filter (fun p => p.1 == name)).map fun p => (look ls (p.2.1)).getD 0) → P (.ref N) h')
    (hs : ∀ x, foldedSetIterable iter env x = pure x := by intro _; with_unfolding_all rfl) :
    W w A (eval (.ListComp (.Subscript (.Name dn q0) (.Name s_used q1) q2) [⟨.Tuple [.Name s_user q3, .Name s_used q4, .Name s_line q5] ek tp, iter, [.Compare (.Name s_user q6) [.Eq] [.Name s_name q7] q8], 0⟩] scope pos) env) h P := by
  refine W_lc (fun m => ∃ a b c, m = frL nsE [a, b, c]) ⟨none, none, none, by funext y; simp only [frL, ite_self]⟩ hh hclos hcell hkind hnames ?_ hs
  refine Hit _ ⟨lu, ln, uvs, fun i acc => IntsAre acc (((us.take i).filter (fun p => p.1 == name)).map fun p => (look ls (p.2.1)).getD 0), rfl, hu, ?_, by rw [Us.len]; exact hz, .nil, ?_, ?_⟩
  · intro v hv
    obtain ⟨i, hi⟩ := List.mem_iff_getElem?.mp hv
    obtain ⟨p, _, T, _, _, _, e, _⟩ := Us.get hi
    exact ⟨T, e⟩
  · rintro i v C h₂ acc p' q' m hv hj ⟨a, b, c, rfl⟩ S
    obtain ⟨pu, hpu, T, t1, t2, t3, rfl, hT⟩ := Us.get hv
    have hmem := List.mem_of_getElem? hpu
    have htk : us.take (i + 1) = us.take i ++ [pu] := by rw [List.take_add_one, hpu]; rfl
    obtain ⟨eL, eK, eu, ed, el, en, ew, cn', cw', ddn⟩ := hE C
    generalize compEnvC scope cl C env = ce at *
    refine a_tup3 hh (S.keep _ _ hT) ?_
    intro h₃ x₃
    have S3 := S.ext x₃
    refine a_name (W_st S3 eL eK eu fun h₄ _ S4 => a_name (W_st (S4.as (frL_set 0 rfl (by simp) (by decide +kernel))) eL eK ed fun h₅ _ S5 => a_name (W_st (S5.as (frL_set 1 rfl (by simp) (by decide +kernel))) eL eK el fun h₆ _ S6' => ?_)))
    have S6 : St h C h₆ (frL nsE [some (.str pu.1 t1), some (.str pu.2.1 t2), some (.int pu.2.2 t3)]) [p', q'] := S6'.as (frL_set 2 rfl (by simp) (by decide +kernel))
    clear S3 S4 S5 S6'
    refine T_cmp (W_nameL S6 eL eK eu (by decide +kernel) (show _ = some (.str (pu.1) t1) from by kernel_rfl) ?_)
    refine W_ldCell eK en cn' (by decide +kernel) (S6.keep _ _ hcn) vcn ?_
    refine o_eqs (t_bool ?_)
    by_cases z : pu.1 = name
    · refine ite_t (by simpa using z) ?_
      obtain ⟨av, ha⟩ := hk pu hmem z
      refine W_sub (W_ldCell eK ew cw' ddn (S6.keep _ _ hcd) vcd ?_)
      refine W_nameL S6 eL eK ed (by decide +kernel) (show _ = some (.str (pu.2.1) t2) from by kernel_rfl) ?_
      refine d_sub (S6.keep _ _ hd) D ha ?_
      rintro v ⟨tv, rfl⟩
      refine ⟨⟨_, ⟨_, _, _, rfl⟩, S6⟩, ?_⟩
      dsimp only
      rw [htk, List.filter_append, List.map_append]
      refine hj.append ?_
      rw [show [pu].filter (fun p => p.1 == name) = [pu] from by simp [z]]
      show IntsAre _ [(look ls (pu.2.1)).getD 0]
      rw [ha]
      exact .cons _ _ .nil
    · refine ite_f (by simpa using z) ⟨⟨_, ⟨_, _, _, rfl⟩, S6⟩, ?_⟩
      dsimp only
      rw [htk, List.filter_append, List.map_append]
      rw [show [pu].filter (fun p => p.1 == name) = [] from by simp [z]]
      simpa using hj
  · intro h' N n acc x' hN hg hj
    refine p h' N n acc x' hN hg ?_
    rwa [Us.len, List.take_length] at hj

end
/-! ### what is due, plainly -/
noncomputable abbrev Us := List (Str × Str × Int)
noncomputable def vAt (l : List (Str × Int)) (u : Str) : Int := (look l u).getD 0
noncomputable def wayStep (start : Str) (us : Us) (ws : List (Str × Int)) (u : Str) : List (Str × Int) :=
  if u = start then put (put ws u ((us.filter (fun p => p.2.1 == u)).map fun p => (look ws p.1).getD 0).sum) u 1 else put ws u ((us.filter (fun p => p.2.1 == u)).map fun p => (look ws p.1).getD 0).sum
noncomputable def waysOf (start : Str) (us : Us) (l : List Str) : List (Str × Int) := l.foldl (wayStep start us) []
noncomputable def sizeStep (wd : List (Str × Int)) (us : Us) (sz : List (Str × Int)) (u : Str) : List (Str × Int) := put sz u (vAt wd u + ((us.filter (fun p => p.1 == u)).map fun p => (look sz p.2.1).getD 0).sum)
noncomputable def sizesOf (wd : List (Str × Int)) (us : Us) (l : List Str) : List (Str × Int) := l.foldl (sizeStep wd us) []
noncomputable def calStep (ws : List (Str × Int)) (u : Str) (cal : List (Str × Int)) (p : Str × Str × Int) : List (Str × Int) :=
  if p.2.1 = u ∧ 0 < vAt ws p.1 then put cal (leadS p.1 p.2.2) (vAt cal (leadS p.1 p.2.2) + vAt ws p.1) else cal
noncomputable def calOf (ws : List (Str × Int)) (us : Us) (u : Str) : List (Str × Int) := us.foldl (calStep ws u) []
noncomputable def dueStep (tx : List (Str × List Nat)) (wd sz ws : List (Str × Int)) (us : Us) (due : Tab) (p : Str × Int) : Tab :=
  if 0 < p.2 then put due p.1 ⟨p.2 * ((((look tx p.1).getD []).count 10 : Nat) : Int), p.2, p.2 * vAt wd p.1, p.2 * vAt sz p.1, calOf ws us p.1⟩ else due
noncomputable def dueOf (start : Str) (tx : List (Str × List Nat)) (wd : List (Str × Int)) (us : Us) : Tab := (waysOf start us nms).foldl (dueStep tx wd (sizesOf wd us rvn) (waysOf start us nms) us) []
theorem put_put {α : Type} {l : List (Str × α)} {k : Str} {a b : α} : (put l k a).map (·.1) = (put (put l k a) k b).map (·.1) := by
  have h : k ∈ (put l k a).map (·.1) := by
    have := look_put l k a k
    rw [if_pos rfl] at this
    exact List.mem_map.mpr ⟨_, look_mem this, rfl⟩
  exact (put_keys h).symm
theorem keys_ways {start : Str} {us : Us} : ∀ (l : List Str) (ws : List (Str × Int)), (ws.map (·.1) ++ l).Nodup → (l.foldl (wayStep start us) ws).map (·.1) = ws.map (·.1) ++ l
  | [], ws, _ => by simp
  | u :: l, ws, h => by
    have hu : u ∉ ws.map (·.1) := fun q => by
      rw [List.nodup_append] at h
      exact h.2.2 u q u (.head _) rfl
    have e : (wayStep start us ws u).map (·.1) = ws.map (·.1) ++ [u] := by
      unfold wayStep
      split
      · rw [← put_put, put_snoc hu]; simp
      · rw [put_snoc hu]; simp
    rw [List.foldl_cons, keys_ways l _ (by rw [e]; simpa using h), e]
    simp
theorem keys_sizes {wd : List (Str × Int)} {us : Us} : ∀ (l : List Str) (ws : List (Str × Int)), (ws.map (·.1) ++ l).Nodup → (l.foldl (sizeStep wd us) ws).map (·.1) = ws.map (·.1) ++ l
  | [], ws, _ => by simp
  | u :: l, ws, h => by
    have hu : u ∉ ws.map (·.1) := fun q => by
      rw [List.nodup_append] at h
      exact h.2.2 u q u (.head _) rfl
    have e : (sizeStep wd us ws u).map (·.1) = ws.map (·.1) ++ [u] := by
      unfold sizeStep
      rw [put_snoc hu]; simp
    rw [List.foldl_cons, keys_sizes l _ (by rw [e]; simpa using h), e]
    simp
theorem nms_nodup : nms.Nodup := by decide +kernel
theorem rvn_nodup : rvn.Nodup := by decide +kernel
theorem keys_waysT (start : Str) (us : Us) (i : Nat) : (waysOf start us (nms.take i)).map (·.1) = nms.take i := by
  have := keys_ways (start := start) (us := us) (nms.take i) [] (by simpa using List.Sublist.nodup (List.take_sublist _ _) nms_nodup)
  simpa [waysOf] using this
theorem keys_sizesT (wd : List (Str × Int)) (us : Us) (i : Nat) : (sizesOf wd us (rvn.take i)).map (·.1) = rvn.take i := by
  have := keys_sizes (wd := wd) (us := us) (rvn.take i) [] (by simpa using List.Sublist.nodup (List.take_sublist _ _) rvn_nodup)
  simpa [sizesOf] using this
theorem ways_next {start : Str} {us : Us} {i : Nat} {u : Str} (h : nms[i]? = some u) : waysOf start us (nms.take (i + 1)) = wayStep start us (waysOf start us (nms.take i)) u := by
  unfold waysOf; rw [List.take_add_one, h, List.foldl_append]; rfl
theorem sizes_next {wd : List (Str × Int)} {us : Us} {i : Nat} {u : Str} (h : rvn[i]? = some u) : sizesOf wd us (rvn.take (i + 1)) = sizeStep wd us (sizesOf wd us (rvn.take i)) u := by
  unfold sizesOf; rw [List.take_add_one, h, List.foldl_append]; rfl
theorem calStep_len (ws : List (Str × Int)) (u : Str) (cal : List (Str × Int)) (p : Str × Str × Int) : (calStep ws u cal p).length ≤ cal.length + 1 := by
  unfold calStep; split
  · exact put_len _ _ _
  · exact Nat.le_succ _
theorem due_len (tx : List (Str × List Nat)) (wd sz ws : List (Str × Int)) (us : Us) : ∀ (l : List (Str × Int)) (d : Tab), (l.foldl (dueStep tx wd sz ws us) d).length ≤ d.length + l.length
  | [], d => Nat.le_refl _
  | p :: l, d => by
    have h1 := due_len tx wd sz ws us l (dueStep tx wd sz ws us d p)
    have h2 : (dueStep tx wd sz ws us d p).length ≤ d.length + 1 := by
      unfold dueStep; split
      · exact put_len _ _ _
      · exact Nat.le_succ _
    simp only [List.foldl_cons, List.length_cons]; omega
theorem bits_small {a : Int} (h0 : 0 ≤ a) (h1 : a < 2 ^ 60) : Builtin.Int.intBits a ≤ 64 := intBits_le_64 (by omega) (by omega)
noncomputable abbrev scpW : Scope := { kind := .function, names := [(⟨⟨[46, 48]⟩⟩, .local), (s_user, .local), (s_used, .local), (s_line, .local), (s_name, .free), (s_ways, .free)], isGenerator := false, isCoroutine := false, more := [] }
noncomputable abbrev scpS : Scope := { kind := .function, names := [(⟨⟨[46, 48]⟩⟩, .local), (s_user, .local), (s_used, .local), (s_line, .local), (s_name, .free), (s_sizes, .free)], isGenerator := false, isCoroutine := false, more := [] }
theorem clW (L : Addr) : closureFor scpW (env766 L) = pure [(s_ways, L + 1), (s_name, L + 3)] := by kernel_rfl
theorem clS (L : Addr) : closureFor scpS (env766 L) = pure [(s_sizes, L + 2), (s_name, L + 3)] := by kernel_rfl
theorem ecW (L C : Addr) : EC (compEnvC scpW [(s_ways, L + 1), (s_name, L + 3)] C (env766 L)) C s_ways (L + 1) (L + 3) :=
  ⟨rfl, by kernel_rfl, by kernel_rfl, by kernel_rfl, by kernel_rfl, by kernel_rfl, by kernel_rfl, by kernel_rfl, by kernel_rfl, by kernel_rfl⟩
theorem ecS (L C : Addr) : EC (compEnvC scpS [(s_sizes, L + 2), (s_name, L + 3)] C (env766 L)) C s_sizes (L + 2) (L + 3) :=
  ⟨rfl, by kernel_rfl, by kernel_rfl, by kernel_rfl, by kernel_rfl, by kernel_rfl, by kernel_rfl, by kernel_rfl, by kernel_rfl, by kernel_rfl⟩
theorem scW1 : ∀ y ∈ scpW.names, y.2 ≠ .cell := by decide +kernel
theorem scS1 : ∀ y ∈ scpS.names, y.2 ≠ .cell := by decide +kernel
theorem scW2 : ∀ y ∈ scpW.names, y.2 = .local → scpW.names.lookup y.1 = some .local := by decide +kernel
theorem scS2 : ∀ y ∈ scpS.names, y.2 = .local → scpS.names.lookup y.1 = some .local := by decide +kernel
section
variable {w : World} {A : Around} {h g : Heap} {P : Value → Heap → Prop} {dt dw lu : Addr} {tx : List (Str × List Nat)} {wd : List (Str × Int)} {us : Us} {uvs : List Value} {un : Nat} {start : Str} {ts : Tok}
theorem szA {x y : Str} {a b : Nat} (h1 : x.length ≤ a) (h2 : y.length ≤ b) (e : a + b ≤ 1000) : x.length + y.length ≤ sizeLine := by rw [sizeLine_eq]; omega
theorem szB {x y : Str} {a b : Nat} (h1 : x.length ≤ a) (h2 : y.length ≤ b) : (x ++ y).length ≤ a + b := by rw [Str.length_append]; exact Nat.add_le_add h1 h2
theorem put_small {α : Type} {l : List (Str × α)} {k : Str} {v : α} (h : l.length ≤ 1000) : (put l k v).length ≤ 100000 := by have := put_len l k v; omega
theorem due_small {sz ws : List (Str × Int)} {i : Nat} (h : ws.length = 5) : ((ws.take i).foldl (dueStep tx wd sz ws us) []).length ≤ 100000 := by
  have h1 := due_len tx wd sz ws us (ws.take i) []
  have h2 : (ws.take i).length ≤ 5 := by rw [List.length_take, h]; omega
  have h3 : ([] : Tab).length = 0 := rfl
  omega
theorem cal_small {ws : List (Str × Int)} {u : Str} {j : Nat} (h : us.length ≤ 1000) : ((us.take j).foldl (calStep ws u) []).length ≤ 100000 := by
  have h1 := foldl_len (calStep ws u) (calStep_len ws u) (us.take j) []
  have h2 : (us.take j).length ≤ us.length := by rw [List.length_take]; omega
  have h3 : ([] : List (Str × Int)).length = 0 := rfl
  omega
set_option maxHeartbeats 4000000 in
theorem c766 (G : Gr w h) (Dt : DH w StrR h dt tx) (Dw : DH w IntR h dw wd) (hu : h.get? lu = some (lstN un uvs)) (Usr : UsesAre h uvs us) (ktx : ∀ u ∈ nms, ∃ t, look tx u = some t) (kwd : ∀ u ∈ nms, ∃ t, look wd u = some t)
    (hus1 : ∀ i u, nms[i]? = some u → ∀ p ∈ us, p.2.1 = u → p.1 ∈ nms.take i) (hus2 : ∀ i u, rvn[i]? = some u → ∀ p ∈ us, p.1 = u → p.2.1 ∈ rvn.take i) (husn : ∀ p ∈ us, p.1 ∈ nms ∧ 0 ≤ p.2.2 ∧ p.2.2 < 10 ^ 9) (hul : us.length ≤ 1000)
    (hwb : ∀ p ∈ waysOf start us nms, 0 ≤ p.2 ∧ p.2 < 2 ^ 60) (hA : A.depth < 700) (hh : A.handled = none)
    (k : ∀ h' d, Ext h h' → TH w h' d (dueOf start tx wd us) → P (.ref d) h') : WC w A (.call (.ref 766) ⟨[.str start ts, .ref dt, .ref dw, .ref lu], []⟩) h P := by
  refine en766 G (Ext.refl h) (Nat.lt_trans hA (by decide)) ?_
  intro L h₁ o1 o2 o3 d1 d2 d3 S x₁
  have hh' : (A.deeper (env766 L)).handled = none := hh
  obtain ⟨ot, hdt, DRt, net⟩ := id Dt
  obtain ⟨owd, hdw, DRw, new⟩ := id Dw
  refine W_asgT ?_
  repeat (with_reducible first | (show W _ _ (eval (.Name _ _) _) _ _; first | refine ld766_start ‹_› ?_ | refine ld766_texts ‹_› ?_ | refine ld766_words ‹_› ?_ | refine ld766_uses ‹_› ?_ | refine ld766_due ‹_› ?_ | refine ld766_user ‹_› ?_ | refine ld766_used ‹_› ?_ | refine ld766_line ‹_› ?_ | refine ld766_callers ‹_› ?_ | refine ld766_number ‹_› ?_ | refine ld766_leader ‹_› ?_ | refine ld766_ends ‹_› ?_ | refine gl766_sum ‹_› ‹_› ?_ | refine gl766_str ‹_› ‹_› ?_ | refine ld766_ways ‹_› ‹_› ‹_› ?_ | refine ld766_sizes ‹_› ‹_› ‹_› ?_ | refine ld766_name1 ‹_› ‹_› ?_ | refine ld766_name2 ‹_› ‹_› ?_) | (show W _ _ (eval _ _) _ _; first | (refine W_int ?_; intro _) | (refine W_str ?_; intro _) | refine W_callN ?_ | refine W_BinOp ?_ | refine W_sub ?_ | refine W_tupleN ?_ | refine W_listN ?_) | (show W _ _ (assign _ _ _) _ _; refine a_name ?_) | (show W _ _ (execs _ _) _ _; first | refine W_asg ?_ | refine W_if ?_ | refine W_ret ?_ | refine W_nil ?_ | refine W_asgSub ?_ | refine W_asgT ?_) | (show W _ _ (storeName _ _ _) _ _; first | (refine st766_due ‹_› ?_; intro _ _ _) | (refine st766_user ‹_› ?_; intro _ _ _) | (refine st766_used ‹_› ?_; intro _ _ _) | (refine st766_line ‹_› ?_; intro _ _ _) | (refine st766_callers ‹_› ?_; intro _ _ _) | (refine st766_number ‹_› ?_; intro _ _ _) | (refine st766_leader ‹_› ?_; intro _ _ _) | (refine st766_ends ‹_› ?_; intro _ _ _)) | (show W _ _ (isTrue _ _ _) _ _; first | refine T_cmp ?_ | refine T_bool ?_) | (show W _ _ (allTrue _ _ _) _ _; first | refine T_and ?_ | refine T_andNil ?_) | (show W _ _ (truthy _) _ _; refine t_bool ?_) | (show W _ _ (spliced _) _ _; first | refine W_sp ?_ | refine W_sp0 ?_) | (show W _ _ (compareOp _ _ _) _ _; first | refine o_eqs ?_ | refine o_gt ?_) | (show W _ _ (callWith _ _ _ _ _) _ _; first | refine W_cwT ?_ | refine W_cwB ?_ | refine W_cwB1 ?_) | (show W _ _ (binaryOp _ _ _) _ _; (refine o_add ?_; intro _)) | (show if _ = true then _ else _; first | refine ite_f (by with_unfolding_all rfl) ?_ | refine ite_t (by with_unfolding_all rfl) ?_) | (show Sq _ _ _ _ _ _ _; refine sq_next ?_))
  with_reducible refine W_dict0S G S ?_
  intro h₂ ea _ S2 fea
  repeat (with_reducible first | (show W _ _ (eval (.Name _ _) _) _ _; first | refine ld766_start ‹_› ?_ | refine ld766_texts ‹_› ?_ | refine ld766_words ‹_› ?_ | refine ld766_uses ‹_› ?_ | refine ld766_due ‹_› ?_ | refine ld766_user ‹_› ?_ | refine ld766_used ‹_› ?_ | refine ld766_line ‹_› ?_ | refine ld766_callers ‹_› ?_ | refine ld766_number ‹_› ?_ | refine ld766_leader ‹_› ?_ | refine ld766_ends ‹_› ?_ | refine gl766_sum ‹_› ‹_› ?_ | refine gl766_str ‹_› ‹_› ?_ | refine ld766_ways ‹_› ‹_› ‹_› ?_ | refine ld766_sizes ‹_› ‹_› ‹_› ?_ | refine ld766_name1 ‹_› ‹_› ?_ | refine ld766_name2 ‹_› ‹_› ?_) | (show W _ _ (eval _ _) _ _; first | (refine W_int ?_; intro _) | (refine W_str ?_; intro _) | refine W_callN ?_ | refine W_BinOp ?_ | refine W_sub ?_ | refine W_tupleN ?_ | refine W_listN ?_) | (show W _ _ (assign _ _ _) _ _; refine a_name ?_) | (show W _ _ (execs _ _) _ _; first | refine W_asg ?_ | refine W_if ?_ | refine W_ret ?_ | refine W_nil ?_ | refine W_asgSub ?_ | refine W_asgT ?_) | (show W _ _ (storeName _ _ _) _ _; first | (refine st766_due ‹_› ?_; intro _ _ _) | (refine st766_user ‹_› ?_; intro _ _ _) | (refine st766_used ‹_› ?_; intro _ _ _) | (refine st766_line ‹_› ?_; intro _ _ _) | (refine st766_callers ‹_› ?_; intro _ _ _) | (refine st766_number ‹_› ?_; intro _ _ _) | (refine st766_leader ‹_› ?_; intro _ _ _) | (refine st766_ends ‹_› ?_; intro _ _ _)) | (show W _ _ (isTrue _ _ _) _ _; first | refine T_cmp ?_ | refine T_bool ?_) | (show W _ _ (allTrue _ _ _) _ _; first | refine T_and ?_ | refine T_andNil ?_) | (show W _ _ (truthy _) _ _; refine t_bool ?_) | (show W _ _ (spliced _) _ _; first | refine W_sp ?_ | refine W_sp0 ?_) | (show W _ _ (compareOp _ _ _) _ _; first | refine o_eqs ?_ | refine o_gt ?_) | (show W _ _ (callWith _ _ _ _ _) _ _; first | refine W_cwT ?_ | refine W_cwB ?_ | refine W_cwB1 ?_) | (show W _ _ (binaryOp _ _ _) _ _; (refine o_add ?_; intro _)) | (show if _ = true then _ else _; first | refine ite_f (by with_unfolding_all rfl) ?_ | refine ite_t (by with_unfolding_all rfl) ?_) | (show Sq _ _ _ _ _ _ _; refine sq_next ?_))
  with_reducible refine W_dict0S G S2 ?_
  intro h₃ eb _ S3 feb
  repeat (with_reducible first | (show W _ _ (eval (.Name _ _) _) _ _; first | refine ld766_start ‹_› ?_ | refine ld766_texts ‹_› ?_ | refine ld766_words ‹_› ?_ | refine ld766_uses ‹_› ?_ | refine ld766_due ‹_› ?_ | refine ld766_user ‹_› ?_ | refine ld766_used ‹_› ?_ | refine ld766_line ‹_› ?_ | refine ld766_callers ‹_› ?_ | refine ld766_number ‹_› ?_ | refine ld766_leader ‹_› ?_ | refine ld766_ends ‹_› ?_ | refine gl766_sum ‹_› ‹_› ?_ | refine gl766_str ‹_› ‹_› ?_ | refine ld766_ways ‹_› ‹_› ‹_› ?_ | refine ld766_sizes ‹_› ‹_› ‹_› ?_ | refine ld766_name1 ‹_› ‹_› ?_ | refine ld766_name2 ‹_› ‹_› ?_) | (show W _ _ (eval _ _) _ _; first | (refine W_int ?_; intro _) | (refine W_str ?_; intro _) | refine W_callN ?_ | refine W_BinOp ?_ | refine W_sub ?_ | refine W_tupleN ?_ | refine W_listN ?_) | (show W _ _ (assign _ _ _) _ _; refine a_name ?_) | (show W _ _ (execs _ _) _ _; first | refine W_asg ?_ | refine W_if ?_ | refine W_ret ?_ | refine W_nil ?_ | refine W_asgSub ?_ | refine W_asgT ?_) | (show W _ _ (storeName _ _ _) _ _; first | (refine st766_due ‹_› ?_; intro _ _ _) | (refine st766_user ‹_› ?_; intro _ _ _) | (refine st766_used ‹_› ?_; intro _ _ _) | (refine st766_line ‹_› ?_; intro _ _ _) | (refine st766_callers ‹_› ?_; intro _ _ _) | (refine st766_number ‹_› ?_; intro _ _ _) | (refine st766_leader ‹_› ?_; intro _ _ _) | (refine st766_ends ‹_› ?_; intro _ _ _)) | (show W _ _ (isTrue _ _ _) _ _; first | refine T_cmp ?_ | refine T_bool ?_) | (show W _ _ (allTrue _ _ _) _ _; first | refine T_and ?_ | refine T_andNil ?_) | (show W _ _ (truthy _) _ _; refine t_bool ?_) | (show W _ _ (spliced _) _ _; first | refine W_sp ?_ | refine W_sp0 ?_) | (show W _ _ (compareOp _ _ _) _ _; first | refine o_eqs ?_ | refine o_gt ?_) | (show W _ _ (callWith _ _ _ _ _) _ _; first | refine W_cwT ?_ | refine W_cwB ?_ | refine W_cwB1 ?_) | (show W _ _ (binaryOp _ _ _) _ _; (refine o_add ?_; intro _)) | (show if _ = true then _ else _; first | refine ite_f (by with_unfolding_all rfl) ?_ | refine ite_t (by with_unfolding_all rfl) ?_) | (show Sq _ _ _ _ _ _ _; refine sq_next ?_))
  with_reducible refine W_dict0S G S3 ?_
  intro h₄ ec _ S4 fec
  repeat (with_reducible first | (show W _ _ (eval (.Name _ _) _) _ _; first | refine ld766_start ‹_› ?_ | refine ld766_texts ‹_› ?_ | refine ld766_words ‹_› ?_ | refine ld766_uses ‹_› ?_ | refine ld766_due ‹_› ?_ | refine ld766_user ‹_› ?_ | refine ld766_used ‹_› ?_ | refine ld766_line ‹_› ?_ | refine ld766_callers ‹_› ?_ | refine ld766_number ‹_› ?_ | refine ld766_leader ‹_› ?_ | refine ld766_ends ‹_› ?_ | refine gl766_sum ‹_› ‹_› ?_ | refine gl766_str ‹_› ‹_› ?_ | refine ld766_ways ‹_› ‹_› ‹_› ?_ | refine ld766_sizes ‹_› ‹_› ‹_› ?_ | refine ld766_name1 ‹_› ‹_› ?_ | refine ld766_name2 ‹_› ‹_› ?_) | (show W _ _ (eval _ _) _ _; first | (refine W_int ?_; intro _) | (refine W_str ?_; intro _) | refine W_callN ?_ | refine W_BinOp ?_ | refine W_sub ?_ | refine W_tupleN ?_ | refine W_listN ?_) | (show W _ _ (assign _ _ _) _ _; refine a_name ?_) | (show W _ _ (execs _ _) _ _; first | refine W_asg ?_ | refine W_if ?_ | refine W_ret ?_ | refine W_nil ?_ | refine W_asgSub ?_ | refine W_asgT ?_) | (show W _ _ (storeName _ _ _) _ _; first | (refine st766_due ‹_› ?_; intro _ _ _) | (refine st766_user ‹_› ?_; intro _ _ _) | (refine st766_used ‹_› ?_; intro _ _ _) | (refine st766_line ‹_› ?_; intro _ _ _) | (refine st766_callers ‹_› ?_; intro _ _ _) | (refine st766_number ‹_› ?_; intro _ _ _) | (refine st766_leader ‹_› ?_; intro _ _ _) | (refine st766_ends ‹_› ?_; intro _ _ _)) | (show W _ _ (isTrue _ _ _) _ _; first | refine T_cmp ?_ | refine T_bool ?_) | (show W _ _ (allTrue _ _ _) _ _; first | refine T_and ?_ | refine T_andNil ?_) | (show W _ _ (truthy _) _ _; refine t_bool ?_) | (show W _ _ (spliced _) _ _; first | refine W_sp ?_ | refine W_sp0 ?_) | (show W _ _ (compareOp _ _ _) _ _; first | refine o_eqs ?_ | refine o_gt ?_) | (show W _ _ (callWith _ _ _ _ _) _ _; first | refine W_cwT ?_ | refine W_cwB ?_ | refine W_cwB1 ?_) | (show W _ _ (binaryOp _ _ _) _ _; (refine o_add ?_; intro _)) | (show if _ = true then _ else _; first | refine ite_f (by with_unfolding_all rfl) ?_ | refine ite_t (by with_unfolding_all rfl) ?_) | (show Sq _ _ _ _ _ _ _; refine sq_next ?_))
  refine tupK S4 ?_
  intro h₅ g1 T5 _ eg1 hT5 S5
  clear S S2 S3 S4 x₁
  with_reducible refine a_tup3 hh' (S5.keep _ _ hT5) ?_
  intro h₆ x₆
  have S6 : St g1 L h₆ _ [(L + 1, o1), (L + 2, o2), (L + 3, o3), (ea, emptyDict), (eb, emptyDict), (ec, emptyDict)] := (S5.ext x₆).perm (by
    refine (List.perm_append_comm (l₁ := [(ec, emptyDict), (eb, emptyDict), (ea, emptyDict)]) (l₂ := [(L + 1, o1), (L + 2, o2), (L + 3, o3)])).trans (.cons _ (.cons _ (.cons _ ?_)))
    exact ((List.Perm.swap _ _ _).trans (.cons _ (.swap _ _ _))).trans (.swap _ _ _))
  clear S5 hT5
  repeat (with_reducible first | (show W _ _ (eval (.Name _ _) _) _ _; first | refine ld766_start ‹_› ?_ | refine ld766_texts ‹_› ?_ | refine ld766_words ‹_› ?_ | refine ld766_uses ‹_› ?_ | refine ld766_due ‹_› ?_ | refine ld766_user ‹_› ?_ | refine ld766_used ‹_› ?_ | refine ld766_line ‹_› ?_ | refine ld766_callers ‹_› ?_ | refine ld766_number ‹_› ?_ | refine ld766_leader ‹_› ?_ | refine ld766_ends ‹_› ?_ | refine gl766_sum ‹_› ‹_› ?_ | refine gl766_str ‹_› ‹_› ?_ | refine ld766_ways ‹_› ‹_› ‹_› ?_ | refine ld766_sizes ‹_› ‹_› ‹_› ?_ | refine ld766_name1 ‹_› ‹_› ?_ | refine ld766_name2 ‹_› ‹_› ?_) | (show W _ _ (eval _ _) _ _; first | (refine W_int ?_; intro _) | (refine W_str ?_; intro _) | refine W_callN ?_ | refine W_BinOp ?_ | refine W_sub ?_ | refine W_tupleN ?_ | refine W_listN ?_) | (show W _ _ (assign _ _ _) _ _; refine a_name ?_) | (show W _ _ (execs _ _) _ _; first | refine W_asg ?_ | refine W_if ?_ | refine W_ret ?_ | refine W_nil ?_ | refine W_asgSub ?_ | refine W_asgT ?_) | (show W _ _ (storeName _ _ _) _ _; first | (refine st766_due ‹_› ?_; intro _ _ _) | (refine st766_user ‹_› ?_; intro _ _ _) | (refine st766_used ‹_› ?_; intro _ _ _) | (refine st766_line ‹_› ?_; intro _ _ _) | (refine st766_callers ‹_› ?_; intro _ _ _) | (refine st766_number ‹_› ?_; intro _ _ _) | (refine st766_leader ‹_› ?_; intro _ _ _) | (refine st766_ends ‹_› ?_; intro _ _ _)) | (show W _ _ (isTrue _ _ _) _ _; first | refine T_cmp ?_ | refine T_bool ?_) | (show W _ _ (allTrue _ _ _) _ _; first | refine T_and ?_ | refine T_andNil ?_) | (show W _ _ (truthy _) _ _; refine t_bool ?_) | (show W _ _ (spliced _) _ _; first | refine W_sp ?_ | refine W_sp0 ?_) | (show W _ _ (compareOp _ _ _) _ _; first | refine o_eqs ?_ | refine o_gt ?_) | (show W _ _ (callWith _ _ _ _ _) _ _; first | refine W_cwT ?_ | refine W_cwB ?_ | refine W_cwB1 ?_) | (show W _ _ (binaryOp _ _ _) _ _; (refine o_add ?_; intro _)) | (show if _ = true then _ else _; first | refine ite_f (by with_unfolding_all rfl) ?_ | refine ite_t (by with_unfolding_all rfl) ?_) | (show Sq _ _ _ _ _ _ _; refine sq_next ?_))
  with_reducible refine sc766_ways0 S6 d1 ?_
  intro h₇ o1' d1' S7
  clear S6
  repeat (with_reducible first | (show W _ _ (eval (.Name _ _) _) _ _; first | refine ld766_start ‹_› ?_ | refine ld766_texts ‹_› ?_ | refine ld766_words ‹_› ?_ | refine ld766_uses ‹_› ?_ | refine ld766_due ‹_› ?_ | refine ld766_user ‹_› ?_ | refine ld766_used ‹_› ?_ | refine ld766_line ‹_› ?_ | refine ld766_callers ‹_› ?_ | refine ld766_number ‹_› ?_ | refine ld766_leader ‹_› ?_ | refine ld766_ends ‹_› ?_ | refine gl766_sum ‹_› ‹_› ?_ | refine gl766_str ‹_› ‹_› ?_ | refine ld766_ways ‹_› ‹_› ‹_› ?_ | refine ld766_sizes ‹_› ‹_› ‹_› ?_ | refine ld766_name1 ‹_› ‹_› ?_ | refine ld766_name2 ‹_› ‹_› ?_) | (show W _ _ (eval _ _) _ _; first | (refine W_int ?_; intro _) | (refine W_str ?_; intro _) | refine W_callN ?_ | refine W_BinOp ?_ | refine W_sub ?_ | refine W_tupleN ?_ | refine W_listN ?_) | (show W _ _ (assign _ _ _) _ _; refine a_name ?_) | (show W _ _ (execs _ _) _ _; first | refine W_asg ?_ | refine W_if ?_ | refine W_ret ?_ | refine W_nil ?_ | refine W_asgSub ?_ | refine W_asgT ?_) | (show W _ _ (storeName _ _ _) _ _; first | (refine st766_due ‹_› ?_; intro _ _ _) | (refine st766_user ‹_› ?_; intro _ _ _) | (refine st766_used ‹_› ?_; intro _ _ _) | (refine st766_line ‹_› ?_; intro _ _ _) | (refine st766_callers ‹_› ?_; intro _ _ _) | (refine st766_number ‹_› ?_; intro _ _ _) | (refine st766_leader ‹_› ?_; intro _ _ _) | (refine st766_ends ‹_› ?_; intro _ _ _)) | (show W _ _ (isTrue _ _ _) _ _; first | refine T_cmp ?_ | refine T_bool ?_) | (show W _ _ (allTrue _ _ _) _ _; first | refine T_and ?_ | refine T_andNil ?_) | (show W _ _ (truthy _) _ _; refine t_bool ?_) | (show W _ _ (spliced _) _ _; first | refine W_sp ?_ | refine W_sp0 ?_) | (show W _ _ (compareOp _ _ _) _ _; first | refine o_eqs ?_ | refine o_gt ?_) | (show W _ _ (callWith _ _ _ _ _) _ _; first | refine W_cwT ?_ | refine W_cwB ?_ | refine W_cwB1 ?_) | (show W _ _ (binaryOp _ _ _) _ _; (refine o_add ?_; intro _)) | (show if _ = true then _ else _; first | refine ite_f (by with_unfolding_all rfl) ?_ | refine ite_t (by with_unfolding_all rfl) ?_) | (show Sq _ _ _ _ _ _ _; refine sq_next ?_))
  with_reducible refine sc766_sizes1 S7 d2 ?_
  intro h₈ o2' d2' S8
  clear S7
  obtain ⟨g2, eg2, hcw, S9⟩ := S8.freeze0
  obtain ⟨g3, eg3, hcs, S10⟩ := S9.freeze0
  replace hcw := eg3 _ _ hcw
  have G3 := ((G.keeps eg1).keeps eg2).keeps eg3
  have e3 : Ext h g3 := (eg1.trans eg2).trans eg3
  clear S8 S9
  repeat (with_reducible first | (show W _ _ (eval (.Name _ _) _) _ _; first | refine ld766_start ‹_› ?_ | refine ld766_texts ‹_› ?_ | refine ld766_words ‹_› ?_ | refine ld766_uses ‹_› ?_ | refine ld766_due ‹_› ?_ | refine ld766_user ‹_› ?_ | refine ld766_used ‹_› ?_ | refine ld766_line ‹_› ?_ | refine ld766_callers ‹_› ?_ | refine ld766_number ‹_› ?_ | refine ld766_leader ‹_› ?_ | refine ld766_ends ‹_› ?_ | refine gl766_sum ‹_› ‹_› ?_ | refine gl766_str ‹_› ‹_› ?_ | refine ld766_ways ‹_› ‹_› ‹_› ?_ | refine ld766_sizes ‹_› ‹_› ‹_› ?_ | refine ld766_name1 ‹_› ‹_› ?_ | refine ld766_name2 ‹_› ‹_› ?_) | (show W _ _ (eval _ _) _ _; first | (refine W_int ?_; intro _) | (refine W_str ?_; intro _) | refine W_callN ?_ | refine W_BinOp ?_ | refine W_sub ?_ | refine W_tupleN ?_ | refine W_listN ?_) | (show W _ _ (assign _ _ _) _ _; refine a_name ?_) | (show W _ _ (execs _ _) _ _; first | refine W_asg ?_ | refine W_if ?_ | refine W_ret ?_ | refine W_nil ?_ | refine W_asgSub ?_ | refine W_asgT ?_) | (show W _ _ (storeName _ _ _) _ _; first | (refine st766_due ‹_› ?_; intro _ _ _) | (refine st766_user ‹_› ?_; intro _ _ _) | (refine st766_used ‹_› ?_; intro _ _ _) | (refine st766_line ‹_› ?_; intro _ _ _) | (refine st766_callers ‹_› ?_; intro _ _ _) | (refine st766_number ‹_› ?_; intro _ _ _) | (refine st766_leader ‹_› ?_; intro _ _ _) | (refine st766_ends ‹_› ?_; intro _ _ _)) | (show W _ _ (isTrue _ _ _) _ _; first | refine T_cmp ?_ | refine T_bool ?_) | (show W _ _ (allTrue _ _ _) _ _; first | refine T_and ?_ | refine T_andNil ?_) | (show W _ _ (truthy _) _ _; refine t_bool ?_) | (show W _ _ (spliced _) _ _; first | refine W_sp ?_ | refine W_sp0 ?_) | (show W _ _ (compareOp _ _ _) _ _; first | refine o_eqs ?_ | refine o_gt ?_) | (show W _ _ (callWith _ _ _ _ _) _ _; first | refine W_cwT ?_ | refine W_cwB ?_ | refine W_cwB1 ?_) | (show W _ _ (binaryOp _ _ _) _ _; (refine o_add ?_; intro _)) | (show if _ = true then _ else _; first | refine ite_f (by with_unfolding_all rfl) ?_ | refine ite_t (by with_unfolding_all rfl) ?_) | (show Sq _ _ _ _ _ _ _; refine sq_next ?_))
  rename St _ _ _ _ _ => S11
  clear S10
  with_reducible refine W_forL (L := L) hh' ?_
  repeat (with_reducible first | (show W _ _ (eval (.Name _ _) _) _ _; first | refine ld766_start ‹_› ?_ | refine ld766_texts ‹_› ?_ | refine ld766_words ‹_› ?_ | refine ld766_uses ‹_› ?_ | refine ld766_due ‹_› ?_ | refine ld766_user ‹_› ?_ | refine ld766_used ‹_› ?_ | refine ld766_line ‹_› ?_ | refine ld766_callers ‹_› ?_ | refine ld766_number ‹_› ?_ | refine ld766_leader ‹_› ?_ | refine ld766_ends ‹_› ?_ | refine gl766_sum ‹_› ‹_› ?_ | refine gl766_str ‹_› ‹_› ?_ | refine ld766_ways ‹_› ‹_› ‹_› ?_ | refine ld766_sizes ‹_› ‹_› ‹_› ?_ | refine ld766_name1 ‹_› ‹_› ?_ | refine ld766_name2 ‹_› ‹_› ?_) | (show W _ _ (eval _ _) _ _; first | (refine W_int ?_; intro _) | (refine W_str ?_; intro _) | refine W_callN ?_ | refine W_BinOp ?_ | refine W_sub ?_ | refine W_tupleN ?_ | refine W_listN ?_) | (show W _ _ (assign _ _ _) _ _; refine a_name ?_) | (show W _ _ (execs _ _) _ _; first | refine W_asg ?_ | refine W_if ?_ | refine W_ret ?_ | refine W_nil ?_ | refine W_asgSub ?_ | refine W_asgT ?_) | (show W _ _ (storeName _ _ _) _ _; first | (refine st766_due ‹_› ?_; intro _ _ _) | (refine st766_user ‹_› ?_; intro _ _ _) | (refine st766_used ‹_› ?_; intro _ _ _) | (refine st766_line ‹_› ?_; intro _ _ _) | (refine st766_callers ‹_› ?_; intro _ _ _) | (refine st766_number ‹_› ?_; intro _ _ _) | (refine st766_leader ‹_› ?_; intro _ _ _) | (refine st766_ends ‹_› ?_; intro _ _ _)) | (show W _ _ (isTrue _ _ _) _ _; first | refine T_cmp ?_ | refine T_bool ?_) | (show W _ _ (allTrue _ _ _) _ _; first | refine T_and ?_ | refine T_andNil ?_) | (show W _ _ (truthy _) _ _; refine t_bool ?_) | (show W _ _ (spliced _) _ _; first | refine W_sp ?_ | refine W_sp0 ?_) | (show W _ _ (compareOp _ _ _) _ _; first | refine o_eqs ?_ | refine o_gt ?_) | (show W _ _ (callWith _ _ _ _ _) _ _; first | refine W_cwT ?_ | refine W_cwB ?_ | refine W_cwB1 ?_) | (show W _ _ (binaryOp _ _ _) _ _; (refine o_add ?_; intro _)) | (show if _ = true then _ else _; first | refine ite_f (by with_unfolding_all rfl) ?_ | refine ite_t (by with_unfolding_all rfl) ?_) | (show Sq _ _ _ _ _ _ _; refine sq_next ?_))
  refine lstK S11 ?_
  intro h₁₂ g4 nl _ eg4 hnl S12
  obtain ⟨nvs, hnm, hnl⟩ : ∃ nvs, StrsAre nvs nms ∧ g4.get? nl = some (lstO nvs) := ⟨_, .cons s_main _ (.cons s_b1 _ (.cons s_c_c _ (.cons s_dd _ (.cons s_e2 _ .nil)))), hnl⟩
  clear S11
  have G4 := G3.keeps eg4
  have e4 := e3.trans eg4
  replace hcw := eg4 _ _ hcw
  replace hcs := eg4 _ _ hcs
  refine ⟨nl, 0, _, g4, _, _, fun i g' m mu => ∃ on vn ow, m = frL ns766 [some (.str start ts), some (.ref dt), some (.ref dw), some (.ref lu), some (.ref ec), none, none, none, none, none, none, none] ∧ mu = [(L + 3, on), (ea, ow), (eb, emptyDict), (ec, emptyDict)] ∧
      on.data = .cell vn ∧ DR w IntR ow (waysOf start us (nms.take i)), rfl, S12, hnl, .inl ⟨_, _, rfl⟩, ⟨_, _, _, rfl, rfl, d3, DR.new⟩, ?_, ?_⟩
  · rintro i v h₁₃ p g5 m mu hv e5 S13 ⟨on, vn, ow, rfl, rfl, don, Dwy⟩
    obtain ⟨u, tu, huu, rfl⟩ := strs_get hnm hv
    have hum : u ∈ nms := List.mem_of_getElem? huu
    have G5 := G4.keeps e5
    have e5' := e4.trans e5
    replace hcw := e5 _ _ hcw
    replace hcs := e5 _ _ hcs
    clear S12
    with_reducible refine W.hideU fun Q hQ => ?_
    repeat (with_reducible first | (show W _ _ (eval (.Name _ _) _) _ _; first | refine ld766_start ‹_› ?_ | refine ld766_texts ‹_› ?_ | refine ld766_words ‹_› ?_ | refine ld766_uses ‹_› ?_ | refine ld766_due ‹_› ?_ | refine ld766_user ‹_› ?_ | refine ld766_used ‹_› ?_ | refine ld766_line ‹_› ?_ | refine ld766_callers ‹_› ?_ | refine ld766_number ‹_› ?_ | refine ld766_leader ‹_› ?_ | refine ld766_ends ‹_› ?_ | refine gl766_sum ‹_› ‹_› ?_ | refine gl766_str ‹_› ‹_› ?_ | refine ld766_ways ‹_› ‹_› ‹_› ?_ | refine ld766_sizes ‹_› ‹_› ‹_› ?_ | refine ld766_name1 ‹_› ‹_› ?_ | refine ld766_name2 ‹_› ‹_› ?_) | (show W _ _ (eval _ _) _ _; first | (refine W_int ?_; intro _) | (refine W_str ?_; intro _) | refine W_callN ?_ | refine W_BinOp ?_ | refine W_sub ?_ | refine W_tupleN ?_ | refine W_listN ?_) | (show W _ _ (assign _ _ _) _ _; refine a_name ?_) | (show W _ _ (execs _ _) _ _; first | refine W_asg ?_ | refine W_if ?_ | refine W_ret ?_ | refine W_nil ?_ | refine W_asgSub ?_ | refine W_asgT ?_) | (show W _ _ (storeName _ _ _) _ _; first | (refine st766_due ‹_› ?_; intro _ _ _) | (refine st766_user ‹_› ?_; intro _ _ _) | (refine st766_used ‹_› ?_; intro _ _ _) | (refine st766_line ‹_› ?_; intro _ _ _) | (refine st766_callers ‹_› ?_; intro _ _ _) | (refine st766_number ‹_› ?_; intro _ _ _) | (refine st766_leader ‹_› ?_; intro _ _ _) | (refine st766_ends ‹_› ?_; intro _ _ _)) | (show W _ _ (isTrue _ _ _) _ _; first | refine T_cmp ?_ | refine T_bool ?_) | (show W _ _ (allTrue _ _ _) _ _; first | refine T_and ?_ | refine T_andNil ?_) | (show W _ _ (truthy _) _ _; refine t_bool ?_) | (show W _ _ (spliced _) _ _; first | refine W_sp ?_ | refine W_sp0 ?_) | (show W _ _ (compareOp _ _ _) _ _; first | refine o_eqs ?_ | refine o_gt ?_) | (show W _ _ (callWith _ _ _ _ _) _ _; first | refine W_cwT ?_ | refine W_cwB ?_ | refine W_cwB1 ?_) | (show W _ _ (binaryOp _ _ _) _ _; (refine o_add ?_; intro _)) | (show if _ = true then _ else _; first | refine ite_f (by with_unfolding_all rfl) ?_ | refine ite_t (by with_unfolding_all rfl) ?_) | (show Sq _ _ _ _ _ _ _; refine sq_next ?_))
    with_reducible refine st766_name1 S13 don ?_
    intro h₁₄ on' don' S14
    clear S13
    repeat (with_reducible first | (show W _ _ (eval (.Name _ _) _) _ _; first | refine ld766_start ‹_› ?_ | refine ld766_texts ‹_› ?_ | refine ld766_words ‹_› ?_ | refine ld766_uses ‹_› ?_ | refine ld766_due ‹_› ?_ | refine ld766_user ‹_› ?_ | refine ld766_used ‹_› ?_ | refine ld766_line ‹_› ?_ | refine ld766_callers ‹_› ?_ | refine ld766_number ‹_› ?_ | refine ld766_leader ‹_› ?_ | refine ld766_ends ‹_› ?_ | refine gl766_sum ‹_› ‹_› ?_ | refine gl766_str ‹_› ‹_› ?_ | refine ld766_ways ‹_› ‹_› ‹_› ?_ | refine ld766_sizes ‹_› ‹_› ‹_› ?_ | refine ld766_name1 ‹_› ‹_› ?_ | refine ld766_name2 ‹_› ‹_› ?_) | (show W _ _ (eval _ _) _ _; first | (refine W_int ?_; intro _) | (refine W_str ?_; intro _) | refine W_callN ?_ | refine W_BinOp ?_ | refine W_sub ?_ | refine W_tupleN ?_ | refine W_listN ?_) | (show W _ _ (assign _ _ _) _ _; refine a_name ?_) | (show W _ _ (execs _ _) _ _; first | refine W_asg ?_ | refine W_if ?_ | refine W_ret ?_ | refine W_nil ?_ | refine W_asgSub ?_ | refine W_asgT ?_) | (show W _ _ (storeName _ _ _) _ _; first | (refine st766_due ‹_› ?_; intro _ _ _) | (refine st766_user ‹_› ?_; intro _ _ _) | (refine st766_used ‹_› ?_; intro _ _ _) | (refine st766_line ‹_› ?_; intro _ _ _) | (refine st766_callers ‹_› ?_; intro _ _ _) | (refine st766_number ‹_› ?_; intro _ _ _) | (refine st766_leader ‹_› ?_; intro _ _ _) | (refine st766_ends ‹_› ?_; intro _ _ _)) | (show W _ _ (isTrue _ _ _) _ _; first | refine T_cmp ?_ | refine T_bool ?_) | (show W _ _ (allTrue _ _ _) _ _; first | refine T_and ?_ | refine T_andNil ?_) | (show W _ _ (truthy _) _ _; refine t_bool ?_) | (show W _ _ (spliced _) _ _; first | refine W_sp ?_ | refine W_sp0 ?_) | (show W _ _ (compareOp _ _ _) _ _; first | refine o_eqs ?_ | refine o_gt ?_) | (show W _ _ (callWith _ _ _ _ _) _ _; first | refine W_cwT ?_ | refine W_cwB ?_ | refine W_cwB1 ?_) | (show W _ _ (binaryOp _ _ _) _ _; (refine o_add ?_; intro _)) | (show if _ = true then _ else _; first | refine ite_f (by with_unfolding_all rfl) ?_ | refine ite_t (by with_unfolding_all rfl) ?_) | (show Sq _ _ _ _ _ _ _; refine sq_next ?_))
    have kws := keys_waysT start us i
    have hwn := ways_next (start := start) (us := us) huu
    have hwl : (waysOf start us (nms.take i)).length ≤ 1000 := ks_len kws rfl
    generalize waysOf start us (nms.take i) = ws at *
    with_reducible refine lcW (cl := [(s_ways, L + 1), (s_name, L + 3)]) (cd := L + 1) (cn := L + 3) hh' (clW L) scW1 rfl scW2 (ecW L) (S14.keep _ _ hcw) d1' S14.get1 don' S14.get2 Dwy (S14.keep _ _ (e5' _ _ hu)) (Usr.ext (e5'.trans S14.keep)) (Nat.le_trans hul (by decide)) ?_ ?_ ?_
    · intro p hp hpe
      exact look_some (by rw [kws]; exact hus1 i u huu p hp hpe)
    · intro P' hP'
      exact ld766_uses S14 hP'
    intro h₁₅ N n15 vs15 x₁₅ fN hN hints
    have S15 := S14.ext x₁₅
    clear S14
    repeat (with_reducible first | (show W _ _ (eval (.Name _ _) _) _ _; first | refine ld766_start ‹_› ?_ | refine ld766_texts ‹_› ?_ | refine ld766_words ‹_› ?_ | refine ld766_uses ‹_› ?_ | refine ld766_due ‹_› ?_ | refine ld766_user ‹_› ?_ | refine ld766_used ‹_› ?_ | refine ld766_line ‹_› ?_ | refine ld766_callers ‹_› ?_ | refine ld766_number ‹_› ?_ | refine ld766_leader ‹_› ?_ | refine ld766_ends ‹_› ?_ | refine gl766_sum ‹_› ‹_› ?_ | refine gl766_str ‹_› ‹_› ?_ | refine ld766_ways ‹_› ‹_› ‹_› ?_ | refine ld766_sizes ‹_› ‹_› ‹_› ?_ | refine ld766_name1 ‹_› ‹_› ?_ | refine ld766_name2 ‹_› ‹_› ?_) | (show W _ _ (eval _ _) _ _; first | (refine W_int ?_; intro _) | (refine W_str ?_; intro _) | refine W_callN ?_ | refine W_BinOp ?_ | refine W_sub ?_ | refine W_tupleN ?_ | refine W_listN ?_) | (show W _ _ (assign _ _ _) _ _; refine a_name ?_) | (show W _ _ (execs _ _) _ _; first | refine W_asg ?_ | refine W_if ?_ | refine W_ret ?_ | refine W_nil ?_ | refine W_asgSub ?_ | refine W_asgT ?_) | (show W _ _ (storeName _ _ _) _ _; first | (refine st766_due ‹_› ?_; intro _ _ _) | (refine st766_user ‹_› ?_; intro _ _ _) | (refine st766_used ‹_› ?_; intro _ _ _) | (refine st766_line ‹_› ?_; intro _ _ _) | (refine st766_callers ‹_› ?_; intro _ _ _) | (refine st766_number ‹_› ?_; intro _ _ _) | (refine st766_leader ‹_› ?_; intro _ _ _) | (refine st766_ends ‹_› ?_; intro _ _ _)) | (show W _ _ (isTrue _ _ _) _ _; first | refine T_cmp ?_ | refine T_bool ?_) | (show W _ _ (allTrue _ _ _) _ _; first | refine T_and ?_ | refine T_andNil ?_) | (show W _ _ (truthy _) _ _; refine t_bool ?_) | (show W _ _ (spliced _) _ _; first | refine W_sp ?_ | refine W_sp0 ?_) | (show W _ _ (compareOp _ _ _) _ _; first | refine o_eqs ?_ | refine o_gt ?_) | (show W _ _ (callWith _ _ _ _ _) _ _; first | refine W_cwT ?_ | refine W_cwB ?_ | refine W_cwB1 ?_) | (show W _ _ (binaryOp _ _ _) _ _; (refine o_add ?_; intro _)) | (show if _ = true then _ else _; first | refine ite_f (by with_unfolding_all rfl) ?_ | refine ite_t (by with_unfolding_all rfl) ?_) | (show Sq _ _ _ _ _ _ _; refine sq_next ?_))
    with_reducible refine c_sum hh' hN hints ?_
    intro h₁₆ t₁₆ x₁₆
    have S16 := S15.ext x₁₆
    clear S15
    repeat (with_reducible first | (show W _ _ (eval (.Name _ _) _) _ _; first | refine ld766_start ‹_› ?_ | refine ld766_texts ‹_› ?_ | refine ld766_words ‹_› ?_ | refine ld766_uses ‹_› ?_ | refine ld766_due ‹_› ?_ | refine ld766_user ‹_› ?_ | refine ld766_used ‹_› ?_ | refine ld766_line ‹_› ?_ | refine ld766_callers ‹_› ?_ | refine ld766_number ‹_› ?_ | refine ld766_leader ‹_› ?_ | refine ld766_ends ‹_› ?_ | refine gl766_sum ‹_› ‹_› ?_ | refine gl766_str ‹_› ‹_› ?_ | refine ld766_ways ‹_› ‹_› ‹_› ?_ | refine ld766_sizes ‹_› ‹_› ‹_› ?_ | refine ld766_name1 ‹_› ‹_› ?_ | refine ld766_name2 ‹_› ‹_› ?_) | (show W _ _ (eval _ _) _ _; first | (refine W_int ?_; intro _) | (refine W_str ?_; intro _) | refine W_callN ?_ | refine W_BinOp ?_ | refine W_sub ?_ | refine W_tupleN ?_ | refine W_listN ?_) | (show W _ _ (assign _ _ _) _ _; refine a_name ?_) | (show W _ _ (execs _ _) _ _; first | refine W_asg ?_ | refine W_if ?_ | refine W_ret ?_ | refine W_nil ?_ | refine W_asgSub ?_ | refine W_asgT ?_) | (show W _ _ (storeName _ _ _) _ _; first | (refine st766_due ‹_› ?_; intro _ _ _) | (refine st766_user ‹_› ?_; intro _ _ _) | (refine st766_used ‹_› ?_; intro _ _ _) | (refine st766_line ‹_› ?_; intro _ _ _) | (refine st766_callers ‹_› ?_; intro _ _ _) | (refine st766_number ‹_› ?_; intro _ _ _) | (refine st766_leader ‹_› ?_; intro _ _ _) | (refine st766_ends ‹_› ?_; intro _ _ _)) | (show W _ _ (isTrue _ _ _) _ _; first | refine T_cmp ?_ | refine T_bool ?_) | (show W _ _ (allTrue _ _ _) _ _; first | refine T_and ?_ | refine T_andNil ?_) | (show W _ _ (truthy _) _ _; refine t_bool ?_) | (show W _ _ (spliced _) _ _; first | refine W_sp ?_ | refine W_sp0 ?_) | (show W _ _ (compareOp _ _ _) _ _; first | refine o_eqs ?_ | refine o_gt ?_) | (show W _ _ (callWith _ _ _ _ _) _ _; first | refine W_cwT ?_ | refine W_cwB ?_ | refine W_cwB1 ?_) | (show W _ _ (binaryOp _ _ _) _ _; (refine o_add ?_; intro _)) | (show if _ = true then _ else _; first | refine ite_f (by with_unfolding_all rfl) ?_ | refine ite_t (by with_unfolding_all rfl) ?_) | (show Sq _ _ _ _ _ _ _; refine sq_next ?_))
    have Dz := Dwy
    with_reducible refine d_set (St.get2 S16) Dwy (intR _ _) (Nat.le_trans hwl (by decide)) ?_
    intro h₁₇ ow₁₇ g₁₇ D₁₇ sb₁₇
    have S17 := S16.upd2 sb₁₇.extBut g₁₇
    clear S16
    repeat (with_reducible first | (show W _ _ (eval (.Name _ _) _) _ _; first | refine ld766_start ‹_› ?_ | refine ld766_texts ‹_› ?_ | refine ld766_words ‹_› ?_ | refine ld766_uses ‹_› ?_ | refine ld766_due ‹_› ?_ | refine ld766_user ‹_› ?_ | refine ld766_used ‹_› ?_ | refine ld766_line ‹_› ?_ | refine ld766_callers ‹_› ?_ | refine ld766_number ‹_› ?_ | refine ld766_leader ‹_› ?_ | refine ld766_ends ‹_› ?_ | refine gl766_sum ‹_› ‹_› ?_ | refine gl766_str ‹_› ‹_› ?_ | refine ld766_ways ‹_› ‹_› ‹_› ?_ | refine ld766_sizes ‹_› ‹_› ‹_› ?_ | refine ld766_name1 ‹_› ‹_› ?_ | refine ld766_name2 ‹_› ‹_› ?_) | (show W _ _ (eval _ _) _ _; first | (refine W_int ?_; intro _) | (refine W_str ?_; intro _) | refine W_callN ?_ | refine W_BinOp ?_ | refine W_sub ?_ | refine W_tupleN ?_ | refine W_listN ?_) | (show W _ _ (assign _ _ _) _ _; refine a_name ?_) | (show W _ _ (execs _ _) _ _; first | refine W_asg ?_ | refine W_if ?_ | refine W_ret ?_ | refine W_nil ?_ | refine W_asgSub ?_ | refine W_asgT ?_) | (show W _ _ (storeName _ _ _) _ _; first | (refine st766_due ‹_› ?_; intro _ _ _) | (refine st766_user ‹_› ?_; intro _ _ _) | (refine st766_used ‹_› ?_; intro _ _ _) | (refine st766_line ‹_› ?_; intro _ _ _) | (refine st766_callers ‹_› ?_; intro _ _ _) | (refine st766_number ‹_› ?_; intro _ _ _) | (refine st766_leader ‹_› ?_; intro _ _ _) | (refine st766_ends ‹_› ?_; intro _ _ _)) | (show W _ _ (isTrue _ _ _) _ _; first | refine T_cmp ?_ | refine T_bool ?_) | (show W _ _ (allTrue _ _ _) _ _; first | refine T_and ?_ | refine T_andNil ?_) | (show W _ _ (truthy _) _ _; refine t_bool ?_) | (show W _ _ (spliced _) _ _; first | refine W_sp ?_ | refine W_sp0 ?_) | (show W _ _ (compareOp _ _ _) _ _; first | refine o_eqs ?_ | refine o_gt ?_) | (show W _ _ (callWith _ _ _ _ _) _ _; first | refine W_cwT ?_ | refine W_cwB ?_ | refine W_cwB1 ?_) | (show W _ _ (binaryOp _ _ _) _ _; (refine o_add ?_; intro _)) | (show if _ = true then _ else _; first | refine ite_f (by with_unfolding_all rfl) ?_ | refine ite_t (by with_unfolding_all rfl) ?_) | (show Sq _ _ _ _ _ _ _; refine sq_next ?_))
    refine ite_s (fun q => ?_) fun q => ?_
    · have qe : u = start := by simpa using q
      repeat (with_reducible first | (show W _ _ (eval (.Name _ _) _) _ _; first | refine ld766_start ‹_› ?_ | refine ld766_texts ‹_› ?_ | refine ld766_words ‹_› ?_ | refine ld766_uses ‹_› ?_ | refine ld766_due ‹_› ?_ | refine ld766_user ‹_› ?_ | refine ld766_used ‹_› ?_ | refine ld766_line ‹_› ?_ | refine ld766_callers ‹_› ?_ | refine ld766_number ‹_› ?_ | refine ld766_leader ‹_› ?_ | refine ld766_ends ‹_› ?_ | refine gl766_sum ‹_› ‹_› ?_ | refine gl766_str ‹_› ‹_› ?_ | refine ld766_ways ‹_› ‹_› ‹_› ?_ | refine ld766_sizes ‹_› ‹_› ‹_› ?_ | refine ld766_name1 ‹_› ‹_› ?_ | refine ld766_name2 ‹_› ‹_› ?_) | (show W _ _ (eval _ _) _ _; first | (refine W_int ?_; intro _) | (refine W_str ?_; intro _) | refine W_callN ?_ | refine W_BinOp ?_ | refine W_sub ?_ | refine W_tupleN ?_ | refine W_listN ?_) | (show W _ _ (assign _ _ _) _ _; refine a_name ?_) | (show W _ _ (execs _ _) _ _; first | refine W_asg ?_ | refine W_if ?_ | refine W_ret ?_ | refine W_nil ?_ | refine W_asgSub ?_ | refine W_asgT ?_) | (show W _ _ (storeName _ _ _) _ _; first | (refine st766_due ‹_› ?_; intro _ _ _) | (refine st766_user ‹_› ?_; intro _ _ _) | (refine st766_used ‹_› ?_; intro _ _ _) | (refine st766_line ‹_› ?_; intro _ _ _) | (refine st766_callers ‹_› ?_; intro _ _ _) | (refine st766_number ‹_› ?_; intro _ _ _) | (refine st766_leader ‹_› ?_; intro _ _ _) | (refine st766_ends ‹_› ?_; intro _ _ _)) | (show W _ _ (isTrue _ _ _) _ _; first | refine T_cmp ?_ | refine T_bool ?_) | (show W _ _ (allTrue _ _ _) _ _; first | refine T_and ?_ | refine T_andNil ?_) | (show W _ _ (truthy _) _ _; refine t_bool ?_) | (show W _ _ (spliced _) _ _; first | refine W_sp ?_ | refine W_sp0 ?_) | (show W _ _ (compareOp _ _ _) _ _; first | refine o_eqs ?_ | refine o_gt ?_) | (show W _ _ (callWith _ _ _ _ _) _ _; first | refine W_cwT ?_ | refine W_cwB ?_ | refine W_cwB1 ?_) | (show W _ _ (binaryOp _ _ _) _ _; (refine o_add ?_; intro _)) | (show if _ = true then _ else _; first | refine ite_f (by with_unfolding_all rfl) ?_ | refine ite_t (by with_unfolding_all rfl) ?_) | (show Sq _ _ _ _ _ _ _; refine sq_next ?_))
      with_reducible refine d_set (St.get2 S17) D₁₇ (intR _ _) (put_small hwl) ?_
      intro h₁₈ ow₁₈ g₁₈ D₁₈ sb₁₈
      have S18 := S17.upd2 sb₁₈.extBut g₁₈
      clear S17
      repeat (with_reducible first | (show W _ _ (eval (.Name _ _) _) _ _; first | refine ld766_start ‹_› ?_ | refine ld766_texts ‹_› ?_ | refine ld766_words ‹_› ?_ | refine ld766_uses ‹_› ?_ | refine ld766_due ‹_› ?_ | refine ld766_user ‹_› ?_ | refine ld766_used ‹_› ?_ | refine ld766_line ‹_› ?_ | refine ld766_callers ‹_› ?_ | refine ld766_number ‹_› ?_ | refine ld766_leader ‹_› ?_ | refine ld766_ends ‹_› ?_ | refine gl766_sum ‹_› ‹_› ?_ | refine gl766_str ‹_› ‹_› ?_ | refine ld766_ways ‹_› ‹_› ‹_› ?_ | refine ld766_sizes ‹_› ‹_› ‹_› ?_ | refine ld766_name1 ‹_› ‹_› ?_ | refine ld766_name2 ‹_› ‹_› ?_) | (show W _ _ (eval _ _) _ _; first | (refine W_int ?_; intro _) | (refine W_str ?_; intro _) | refine W_callN ?_ | refine W_BinOp ?_ | refine W_sub ?_ | refine W_tupleN ?_ | refine W_listN ?_) | (show W _ _ (assign _ _ _) _ _; refine a_name ?_) | (show W _ _ (execs _ _) _ _; first | refine W_asg ?_ | refine W_if ?_ | refine W_ret ?_ | refine W_nil ?_ | refine W_asgSub ?_ | refine W_asgT ?_) | (show W _ _ (storeName _ _ _) _ _; first | (refine st766_due ‹_› ?_; intro _ _ _) | (refine st766_user ‹_› ?_; intro _ _ _) | (refine st766_used ‹_› ?_; intro _ _ _) | (refine st766_line ‹_› ?_; intro _ _ _) | (refine st766_callers ‹_› ?_; intro _ _ _) | (refine st766_number ‹_› ?_; intro _ _ _) | (refine st766_leader ‹_› ?_; intro _ _ _) | (refine st766_ends ‹_› ?_; intro _ _ _)) | (show W _ _ (isTrue _ _ _) _ _; first | refine T_cmp ?_ | refine T_bool ?_) | (show W _ _ (allTrue _ _ _) _ _; first | refine T_and ?_ | refine T_andNil ?_) | (show W _ _ (truthy _) _ _; refine t_bool ?_) | (show W _ _ (spliced _) _ _; first | refine W_sp ?_ | refine W_sp0 ?_) | (show W _ _ (compareOp _ _ _) _ _; first | refine o_eqs ?_ | refine o_gt ?_) | (show W _ _ (callWith _ _ _ _ _) _ _; first | refine W_cwT ?_ | refine W_cwB ?_ | refine W_cwB1 ?_) | (show W _ _ (binaryOp _ _ _) _ _; (refine o_add ?_; intro _)) | (show if _ = true then _ else _; first | refine ite_f (by with_unfolding_all rfl) ?_ | refine ite_t (by with_unfolding_all rfl) ?_) | (show Sq _ _ _ _ _ _ _; refine sq_next ?_))
      refine hQ _ _ (fe_next (Ext.refl _) S18 ⟨on', _, ow₁₈, rfl, rfl, don', ?_⟩)
      rw [hwn, wayStep, if_pos qe]; exact D₁₈
    · have qe : ¬ u = start := by simpa using q
      repeat (with_reducible first | (show W _ _ (eval (.Name _ _) _) _ _; first | refine ld766_start ‹_› ?_ | refine ld766_texts ‹_› ?_ | refine ld766_words ‹_› ?_ | refine ld766_uses ‹_› ?_ | refine ld766_due ‹_› ?_ | refine ld766_user ‹_› ?_ | refine ld766_used ‹_› ?_ | refine ld766_line ‹_› ?_ | refine ld766_callers ‹_› ?_ | refine ld766_number ‹_› ?_ | refine ld766_leader ‹_› ?_ | refine ld766_ends ‹_› ?_ | refine gl766_sum ‹_› ‹_› ?_ | refine gl766_str ‹_› ‹_› ?_ | refine ld766_ways ‹_› ‹_› ‹_› ?_ | refine ld766_sizes ‹_› ‹_› ‹_› ?_ | refine ld766_name1 ‹_› ‹_› ?_ | refine ld766_name2 ‹_› ‹_› ?_) | (show W _ _ (eval _ _) _ _; first | (refine W_int ?_; intro _) | (refine W_str ?_; intro _) | refine W_callN ?_ | refine W_BinOp ?_ | refine W_sub ?_ | refine W_tupleN ?_ | refine W_listN ?_) | (show W _ _ (assign _ _ _) _ _; refine a_name ?_) | (show W _ _ (execs _ _) _ _; first | refine W_asg ?_ | refine W_if ?_ | refine W_ret ?_ | refine W_nil ?_ | refine W_asgSub ?_ | refine W_asgT ?_) | (show W _ _ (storeName _ _ _) _ _; first | (refine st766_due ‹_› ?_; intro _ _ _) | (refine st766_user ‹_› ?_; intro _ _ _) | (refine st766_used ‹_› ?_; intro _ _ _) | (refine st766_line ‹_› ?_; intro _ _ _) | (refine st766_callers ‹_› ?_; intro _ _ _) | (refine st766_number ‹_› ?_; intro _ _ _) | (refine st766_leader ‹_› ?_; intro _ _ _) | (refine st766_ends ‹_› ?_; intro _ _ _)) | (show W _ _ (isTrue _ _ _) _ _; first | refine T_cmp ?_ | refine T_bool ?_) | (show W _ _ (allTrue _ _ _) _ _; first | refine T_and ?_ | refine T_andNil ?_) | (show W _ _ (truthy _) _ _; refine t_bool ?_) | (show W _ _ (spliced _) _ _; first | refine W_sp ?_ | refine W_sp0 ?_) | (show W _ _ (compareOp _ _ _) _ _; first | refine o_eqs ?_ | refine o_gt ?_) | (show W _ _ (callWith _ _ _ _ _) _ _; first | refine W_cwT ?_ | refine W_cwB ?_ | refine W_cwB1 ?_) | (show W _ _ (binaryOp _ _ _) _ _; (refine o_add ?_; intro _)) | (show if _ = true then _ else _; first | refine ite_f (by with_unfolding_all rfl) ?_ | refine ite_t (by with_unfolding_all rfl) ?_) | (show Sq _ _ _ _ _ _ _; refine sq_next ?_))
      refine hQ _ _ (fe_next (Ext.refl _) S17 ⟨on', _, ow₁₇, rfl, rfl, don', ?_⟩)
      rw [hwn, wayStep, if_neg qe]; exact D₁₇
  · rintro h₁₃ g5 m mu e5 S13 ⟨on, vn, ow, rfl, rfl, don, Dwy⟩
    rw [strs_len hnm, List.take_length] at Dwy
    clear S12
    have G5 := G4.keeps e5
    have e5' := e4.trans e5
    replace hcw := e5 _ _ hcw
    replace hcs := e5 _ _ hcs
    replace S13 : St g5 L h₁₃ _ [(ea, ow), (L + 3, on), (eb, emptyDict), (ec, emptyDict)] := S13.swap
    obtain ⟨g6, eg6, hea, S14⟩ := S13.freeze0
    have G6 := G5.keeps eg6
    have e6 := e5'.trans eg6
    replace hcw := eg6 _ _ hcw
    replace hcs := eg6 _ _ hcs
    clear S13 G4 e4 e5 e5' G5 hnl G3 e3
    repeat (with_reducible first | (show W _ _ (eval (.Name _ _) _) _ _; first | refine ld766_start ‹_› ?_ | refine ld766_texts ‹_› ?_ | refine ld766_words ‹_› ?_ | refine ld766_uses ‹_› ?_ | refine ld766_due ‹_› ?_ | refine ld766_user ‹_› ?_ | refine ld766_used ‹_› ?_ | refine ld766_line ‹_› ?_ | refine ld766_callers ‹_› ?_ | refine ld766_number ‹_› ?_ | refine ld766_leader ‹_› ?_ | refine ld766_ends ‹_› ?_ | refine gl766_sum ‹_› ‹_› ?_ | refine gl766_str ‹_› ‹_› ?_ | refine ld766_ways ‹_› ‹_› ‹_› ?_ | refine ld766_sizes ‹_› ‹_› ‹_› ?_ | refine ld766_name1 ‹_› ‹_› ?_ | refine ld766_name2 ‹_› ‹_› ?_) | (show W _ _ (eval _ _) _ _; first | (refine W_int ?_; intro _) | (refine W_str ?_; intro _) | refine W_callN ?_ | refine W_BinOp ?_ | refine W_sub ?_ | refine W_tupleN ?_ | refine W_listN ?_) | (show W _ _ (assign _ _ _) _ _; refine a_name ?_) | (show W _ _ (execs _ _) _ _; first | refine W_asg ?_ | refine W_if ?_ | refine W_ret ?_ | refine W_nil ?_ | refine W_asgSub ?_ | refine W_asgT ?_) | (show W _ _ (storeName _ _ _) _ _; first | (refine st766_due ‹_› ?_; intro _ _ _) | (refine st766_user ‹_› ?_; intro _ _ _) | (refine st766_used ‹_› ?_; intro _ _ _) | (refine st766_line ‹_› ?_; intro _ _ _) | (refine st766_callers ‹_› ?_; intro _ _ _) | (refine st766_number ‹_› ?_; intro _ _ _) | (refine st766_leader ‹_› ?_; intro _ _ _) | (refine st766_ends ‹_› ?_; intro _ _ _)) | (show W _ _ (isTrue _ _ _) _ _; first | refine T_cmp ?_ | refine T_bool ?_) | (show W _ _ (allTrue _ _ _) _ _; first | refine T_and ?_ | refine T_andNil ?_) | (show W _ _ (truthy _) _ _; refine t_bool ?_) | (show W _ _ (spliced _) _ _; first | refine W_sp ?_ | refine W_sp0 ?_) | (show W _ _ (compareOp _ _ _) _ _; first | refine o_eqs ?_ | refine o_gt ?_) | (show W _ _ (callWith _ _ _ _ _) _ _; first | refine W_cwT ?_ | refine W_cwB ?_ | refine W_cwB1 ?_) | (show W _ _ (binaryOp _ _ _) _ _; (refine o_add ?_; intro _)) | (show if _ = true then _ else _; first | refine ite_f (by with_unfolding_all rfl) ?_ | refine ite_t (by with_unfolding_all rfl) ?_) | (show Sq _ _ _ _ _ _ _; refine sq_next ?_))
    with_reducible refine W_forL (L := L) hh' ?_
    repeat (with_reducible first | (show W _ _ (eval (.Name _ _) _) _ _; first | refine ld766_start ‹_› ?_ | refine ld766_texts ‹_› ?_ | refine ld766_words ‹_› ?_ | refine ld766_uses ‹_› ?_ | refine ld766_due ‹_› ?_ | refine ld766_user ‹_› ?_ | refine ld766_used ‹_› ?_ | refine ld766_line ‹_› ?_ | refine ld766_callers ‹_› ?_ | refine ld766_number ‹_› ?_ | refine ld766_leader ‹_› ?_ | refine ld766_ends ‹_› ?_ | refine gl766_sum ‹_› ‹_› ?_ | refine gl766_str ‹_› ‹_› ?_ | refine ld766_ways ‹_› ‹_› ‹_› ?_ | refine ld766_sizes ‹_› ‹_› ‹_› ?_ | refine ld766_name1 ‹_› ‹_› ?_ | refine ld766_name2 ‹_› ‹_› ?_) | (show W _ _ (eval _ _) _ _; first | (refine W_int ?_; intro _) | (refine W_str ?_; intro _) | refine W_callN ?_ | refine W_BinOp ?_ | refine W_sub ?_ | refine W_tupleN ?_ | refine W_listN ?_) | (show W _ _ (assign _ _ _) _ _; refine a_name ?_) | (show W _ _ (execs _ _) _ _; first | refine W_asg ?_ | refine W_if ?_ | refine W_ret ?_ | refine W_nil ?_ | refine W_asgSub ?_ | refine W_asgT ?_) | (show W _ _ (storeName _ _ _) _ _; first | (refine st766_due ‹_› ?_; intro _ _ _) | (refine st766_user ‹_› ?_; intro _ _ _) | (refine st766_used ‹_› ?_; intro _ _ _) | (refine st766_line ‹_› ?_; intro _ _ _) | (refine st766_callers ‹_› ?_; intro _ _ _) | (refine st766_number ‹_› ?_; intro _ _ _) | (refine st766_leader ‹_› ?_; intro _ _ _) | (refine st766_ends ‹_› ?_; intro _ _ _)) | (show W _ _ (isTrue _ _ _) _ _; first | refine T_cmp ?_ | refine T_bool ?_) | (show W _ _ (allTrue _ _ _) _ _; first | refine T_and ?_ | refine T_andNil ?_) | (show W _ _ (truthy _) _ _; refine t_bool ?_) | (show W _ _ (spliced _) _ _; first | refine W_sp ?_ | refine W_sp0 ?_) | (show W _ _ (compareOp _ _ _) _ _; first | refine o_eqs ?_ | refine o_gt ?_) | (show W _ _ (callWith _ _ _ _ _) _ _; first | refine W_cwT ?_ | refine W_cwB ?_ | refine W_cwB1 ?_) | (show W _ _ (binaryOp _ _ _) _ _; (refine o_add ?_; intro _)) | (show if _ = true then _ else _; first | refine ite_f (by with_unfolding_all rfl) ?_ | refine ite_t (by with_unfolding_all rfl) ?_) | (show Sq _ _ _ _ _ _ _; refine sq_next ?_))
    refine lstK S14 ?_
    intro h₁₅ g7 nl7 _ eg7 hnl7 S15
    obtain ⟨nvs7, hnm7, hnl7⟩ : ∃ nvs, StrsAre nvs rvn ∧ g7.get? nl7 = some (lstO nvs) := ⟨_, .cons s_e2 _ (.cons s_dd _ (.cons s_c_c _ (.cons s_b1 _ (.cons s_main _ .nil)))), hnl7⟩
    clear S14
    have G7 := G6.keeps eg7
    have e7 := e6.trans eg7
    replace hcw := eg7 _ _ hcw
    replace hcs := eg7 _ _ hcs
    replace hea := eg7 _ _ hea
    refine ⟨nl7, 0, _, g7, _, _, fun i g' m mu => ∃ on vn os, m = frL ns766 [some (.str start ts), some (.ref dt), some (.ref dw), some (.ref lu), some (.ref ec), none, none, none, none, none, none, none] ∧ mu = [(L + 3, on), (eb, os), (ec, emptyDict)] ∧
        on.data = .cell vn ∧ DR w IntR os (sizesOf wd us (rvn.take i)), rfl, S15, hnl7, .inl ⟨_, _, rfl⟩, ⟨_, _, _, rfl, rfl, don, DR.new⟩, ?_, ?_⟩
    · rintro i v h₁₆ p g8 m mu hv e8 S16 ⟨on, vn, os, rfl, rfl, don, Dsz⟩
      obtain ⟨u, tu, huu, rfl⟩ := strs_get hnm7 hv
      have hum : u ∈ nms := rvn_nms (List.mem_of_getElem? huu)
      have G8 := G7.keeps e8
      have e8' := e7.trans e8
      replace hcw := e8 _ _ hcw
      replace hcs := e8 _ _ hcs
      clear S15
      with_reducible refine W.hideU fun Q hQ => ?_
      repeat (with_reducible first | (show W _ _ (eval (.Name _ _) _) _ _; first | refine ld766_start ‹_› ?_ | refine ld766_texts ‹_› ?_ | refine ld766_words ‹_› ?_ | refine ld766_uses ‹_› ?_ | refine ld766_due ‹_› ?_ | refine ld766_user ‹_› ?_ | refine ld766_used ‹_› ?_ | refine ld766_line ‹_› ?_ | refine ld766_callers ‹_› ?_ | refine ld766_number ‹_› ?_ | refine ld766_leader ‹_› ?_ | refine ld766_ends ‹_› ?_ | refine gl766_sum ‹_› ‹_› ?_ | refine gl766_str ‹_› ‹_› ?_ | refine ld766_ways ‹_› ‹_› ‹_› ?_ | refine ld766_sizes ‹_› ‹_› ‹_› ?_ | refine ld766_name1 ‹_› ‹_› ?_ | refine ld766_name2 ‹_› ‹_› ?_) | (show W _ _ (eval _ _) _ _; first | (refine W_int ?_; intro _) | (refine W_str ?_; intro _) | refine W_callN ?_ | refine W_BinOp ?_ | refine W_sub ?_ | refine W_tupleN ?_ | refine W_listN ?_) | (show W _ _ (assign _ _ _) _ _; refine a_name ?_) | (show W _ _ (execs _ _) _ _; first | refine W_asg ?_ | refine W_if ?_ | refine W_ret ?_ | refine W_nil ?_ | refine W_asgSub ?_ | refine W_asgT ?_) | (show W _ _ (storeName _ _ _) _ _; first | (refine st766_due ‹_› ?_; intro _ _ _) | (refine st766_user ‹_› ?_; intro _ _ _) | (refine st766_used ‹_› ?_; intro _ _ _) | (refine st766_line ‹_› ?_; intro _ _ _) | (refine st766_callers ‹_› ?_; intro _ _ _) | (refine st766_number ‹_› ?_; intro _ _ _) | (refine st766_leader ‹_› ?_; intro _ _ _) | (refine st766_ends ‹_› ?_; intro _ _ _)) | (show W _ _ (isTrue _ _ _) _ _; first | refine T_cmp ?_ | refine T_bool ?_) | (show W _ _ (allTrue _ _ _) _ _; first | refine T_and ?_ | refine T_andNil ?_) | (show W _ _ (truthy _) _ _; refine t_bool ?_) | (show W _ _ (spliced _) _ _; first | refine W_sp ?_ | refine W_sp0 ?_) | (show W _ _ (compareOp _ _ _) _ _; first | refine o_eqs ?_ | refine o_gt ?_) | (show W _ _ (callWith _ _ _ _ _) _ _; first | refine W_cwT ?_ | refine W_cwB ?_ | refine W_cwB1 ?_) | (show W _ _ (binaryOp _ _ _) _ _; (refine o_add ?_; intro _)) | (show if _ = true then _ else _; first | refine ite_f (by with_unfolding_all rfl) ?_ | refine ite_t (by with_unfolding_all rfl) ?_) | (show Sq _ _ _ _ _ _ _; refine sq_next ?_))
      with_reducible refine st766_name1 S16 don ?_
      intro h₁₇ on' don' S17
      clear S16
      repeat (with_reducible first | (show W _ _ (eval (.Name _ _) _) _ _; first | refine ld766_start ‹_› ?_ | refine ld766_texts ‹_› ?_ | refine ld766_words ‹_› ?_ | refine ld766_uses ‹_› ?_ | refine ld766_due ‹_› ?_ | refine ld766_user ‹_› ?_ | refine ld766_used ‹_› ?_ | refine ld766_line ‹_› ?_ | refine ld766_callers ‹_› ?_ | refine ld766_number ‹_› ?_ | refine ld766_leader ‹_› ?_ | refine ld766_ends ‹_› ?_ | refine gl766_sum ‹_› ‹_› ?_ | refine gl766_str ‹_› ‹_› ?_ | refine ld766_ways ‹_› ‹_› ‹_› ?_ | refine ld766_sizes ‹_› ‹_› ‹_› ?_ | refine ld766_name1 ‹_› ‹_› ?_ | refine ld766_name2 ‹_› ‹_› ?_) | (show W _ _ (eval _ _) _ _; first | (refine W_int ?_; intro _) | (refine W_str ?_; intro _) | refine W_callN ?_ | refine W_BinOp ?_ | refine W_sub ?_ | refine W_tupleN ?_ | refine W_listN ?_) | (show W _ _ (assign _ _ _) _ _; refine a_name ?_) | (show W _ _ (execs _ _) _ _; first | refine W_asg ?_ | refine W_if ?_ | refine W_ret ?_ | refine W_nil ?_ | refine W_asgSub ?_ | refine W_asgT ?_) | (show W _ _ (storeName _ _ _) _ _; first | (refine st766_due ‹_› ?_; intro _ _ _) | (refine st766_user ‹_› ?_; intro _ _ _) | (refine st766_used ‹_› ?_; intro _ _ _) | (refine st766_line ‹_› ?_; intro _ _ _) | (refine st766_callers ‹_› ?_; intro _ _ _) | (refine st766_number ‹_› ?_; intro _ _ _) | (refine st766_leader ‹_› ?_; intro _ _ _) | (refine st766_ends ‹_› ?_; intro _ _ _)) | (show W _ _ (isTrue _ _ _) _ _; first | refine T_cmp ?_ | refine T_bool ?_) | (show W _ _ (allTrue _ _ _) _ _; first | refine T_and ?_ | refine T_andNil ?_) | (show W _ _ (truthy _) _ _; refine t_bool ?_) | (show W _ _ (spliced _) _ _; first | refine W_sp ?_ | refine W_sp0 ?_) | (show W _ _ (compareOp _ _ _) _ _; first | refine o_eqs ?_ | refine o_gt ?_) | (show W _ _ (callWith _ _ _ _ _) _ _; first | refine W_cwT ?_ | refine W_cwB ?_ | refine W_cwB1 ?_) | (show W _ _ (binaryOp _ _ _) _ _; (refine o_add ?_; intro _)) | (show if _ = true then _ else _; first | refine ite_f (by with_unfolding_all rfl) ?_ | refine ite_t (by with_unfolding_all rfl) ?_) | (show Sq _ _ _ _ _ _ _; refine sq_next ?_))
      obtain ⟨wdu, hwdu⟩ := kwd u hum
      with_reducible refine d_sub (S17.keep _ _ (e8' _ _ hdw)) DRw hwdu ?_
      rintro vwd ⟨tvwd, rfl⟩
      repeat (with_reducible first | (show W _ _ (eval (.Name _ _) _) _ _; first | refine ld766_start ‹_› ?_ | refine ld766_texts ‹_› ?_ | refine ld766_words ‹_› ?_ | refine ld766_uses ‹_› ?_ | refine ld766_due ‹_› ?_ | refine ld766_user ‹_› ?_ | refine ld766_used ‹_› ?_ | refine ld766_line ‹_› ?_ | refine ld766_callers ‹_› ?_ | refine ld766_number ‹_› ?_ | refine ld766_leader ‹_› ?_ | refine ld766_ends ‹_› ?_ | refine gl766_sum ‹_› ‹_› ?_ | refine gl766_str ‹_› ‹_› ?_ | refine ld766_ways ‹_› ‹_› ‹_› ?_ | refine ld766_sizes ‹_› ‹_› ‹_› ?_ | refine ld766_name1 ‹_› ‹_› ?_ | refine ld766_name2 ‹_› ‹_› ?_) | (show W _ _ (eval _ _) _ _; first | (refine W_int ?_; intro _) | (refine W_str ?_; intro _) | refine W_callN ?_ | refine W_BinOp ?_ | refine W_sub ?_ | refine W_tupleN ?_ | refine W_listN ?_) | (show W _ _ (assign _ _ _) _ _; refine a_name ?_) | (show W _ _ (execs _ _) _ _; first | refine W_asg ?_ | refine W_if ?_ | refine W_ret ?_ | refine W_nil ?_ | refine W_asgSub ?_ | refine W_asgT ?_) | (show W _ _ (storeName _ _ _) _ _; first | (refine st766_due ‹_› ?_; intro _ _ _) | (refine st766_user ‹_› ?_; intro _ _ _) | (refine st766_used ‹_› ?_; intro _ _ _) | (refine st766_line ‹_› ?_; intro _ _ _) | (refine st766_callers ‹_› ?_; intro _ _ _) | (refine st766_number ‹_› ?_; intro _ _ _) | (refine st766_leader ‹_› ?_; intro _ _ _) | (refine st766_ends ‹_› ?_; intro _ _ _)) | (show W _ _ (isTrue _ _ _) _ _; first | refine T_cmp ?_ | refine T_bool ?_) | (show W _ _ (allTrue _ _ _) _ _; first | refine T_and ?_ | refine T_andNil ?_) | (show W _ _ (truthy _) _ _; refine t_bool ?_) | (show W _ _ (spliced _) _ _; first | refine W_sp ?_ | refine W_sp0 ?_) | (show W _ _ (compareOp _ _ _) _ _; first | refine o_eqs ?_ | refine o_gt ?_) | (show W _ _ (callWith _ _ _ _ _) _ _; first | refine W_cwT ?_ | refine W_cwB ?_ | refine W_cwB1 ?_) | (show W _ _ (binaryOp _ _ _) _ _; (refine o_add ?_; intro _)) | (show if _ = true then _ else _; first | refine ite_f (by with_unfolding_all rfl) ?_ | refine ite_t (by with_unfolding_all rfl) ?_) | (show Sq _ _ _ _ _ _ _; refine sq_next ?_))
      have kws := keys_sizesT wd us i
      have hwn := sizes_next (wd := wd) (us := us) huu
      have hwl : (sizesOf wd us (rvn.take i)).length ≤ 1000 := ks_len kws rfl
      generalize sizesOf wd us (rvn.take i) = sz at *
      with_reducible refine lcS (cl := [(s_sizes, L + 2), (s_name, L + 3)]) (cd := L + 2) (cn := L + 3) hh' (clS L) scS1 rfl scS2 (ecS L) (S17.keep _ _ hcs) d2' S17.get1 don' S17.get2 Dsz (S17.keep _ _ (e8' _ _ hu)) (Usr.ext (e8'.trans S17.keep)) (Nat.le_trans hul (by decide)) ?_ ?_ ?_
      · intro p hp hpe
        exact look_some (by rw [kws]; exact hus2 i u huu p hp hpe)
      · intro P' hP'
        exact ld766_uses S17 hP'
      intro h₁₈ N n18 vs18 x₁₈ fN hN hints
      have S18 := S17.ext x₁₈
      clear S17
      repeat (with_reducible first | (show W _ _ (eval (.Name _ _) _) _ _; first | refine ld766_start ‹_› ?_ | refine ld766_texts ‹_› ?_ | refine ld766_words ‹_› ?_ | refine ld766_uses ‹_› ?_ | refine ld766_due ‹_› ?_ | refine ld766_user ‹_› ?_ | refine ld766_used ‹_› ?_ | refine ld766_line ‹_› ?_ | refine ld766_callers ‹_› ?_ | refine ld766_number ‹_› ?_ | refine ld766_leader ‹_› ?_ | refine ld766_ends ‹_› ?_ | refine gl766_sum ‹_› ‹_› ?_ | refine gl766_str ‹_› ‹_› ?_ | refine ld766_ways ‹_› ‹_› ‹_› ?_ | refine ld766_sizes ‹_› ‹_› ‹_› ?_ | refine ld766_name1 ‹_› ‹_› ?_ | refine ld766_name2 ‹_› ‹_› ?_) | (show W _ _ (eval _ _) _ _; first | (refine W_int ?_; intro _) | (refine W_str ?_; intro _) | refine W_callN ?_ | refine W_BinOp ?_ | refine W_sub ?_ | refine W_tupleN ?_ | refine W_listN ?_) | (show W _ _ (assign _ _ _) _ _; refine a_name ?_) | (show W _ _ (execs _ _) _ _; first | refine W_asg ?_ | refine W_if ?_ | refine W_ret ?_ | refine W_nil ?_ | refine W_asgSub ?_ | refine W_asgT ?_) | (show W _ _ (storeName _ _ _) _ _; first | (refine st766_due ‹_› ?_; intro _ _ _) | (refine st766_user ‹_› ?_; intro _ _ _) | (refine st766_used ‹_› ?_; intro _ _ _) | (refine st766_line ‹_› ?_; intro _ _ _) | (refine st766_callers ‹_› ?_; intro _ _ _) | (refine st766_number ‹_› ?_; intro _ _ _) | (refine st766_leader ‹_› ?_; intro _ _ _) | (refine st766_ends ‹_› ?_; intro _ _ _)) | (show W _ _ (isTrue _ _ _) _ _; first | refine T_cmp ?_ | refine T_bool ?_) | (show W _ _ (allTrue _ _ _) _ _; first | refine T_and ?_ | refine T_andNil ?_) | (show W _ _ (truthy _) _ _; refine t_bool ?_) | (show W _ _ (spliced _) _ _; first | refine W_sp ?_ | refine W_sp0 ?_) | (show W _ _ (compareOp _ _ _) _ _; first | refine o_eqs ?_ | refine o_gt ?_) | (show W _ _ (callWith _ _ _ _ _) _ _; first | refine W_cwT ?_ | refine W_cwB ?_ | refine W_cwB1 ?_) | (show W _ _ (binaryOp _ _ _) _ _; (refine o_add ?_; intro _)) | (show if _ = true then _ else _; first | refine ite_f (by with_unfolding_all rfl) ?_ | refine ite_t (by with_unfolding_all rfl) ?_) | (show Sq _ _ _ _ _ _ _; refine sq_next ?_))
      with_reducible refine c_sum hh' hN hints ?_
      intro h₁₉ t₁₉ x₁₉
      have S19 := S18.ext x₁₉
      clear S18
      repeat (with_reducible first | (show W _ _ (eval (.Name _ _) _) _ _; first | refine ld766_start ‹_› ?_ | refine ld766_texts ‹_› ?_ | refine ld766_words ‹_› ?_ | refine ld766_uses ‹_› ?_ | refine ld766_due ‹_› ?_ | refine ld766_user ‹_› ?_ | refine ld766_used ‹_› ?_ | refine ld766_line ‹_› ?_ | refine ld766_callers ‹_› ?_ | refine ld766_number ‹_› ?_ | refine ld766_leader ‹_› ?_ | refine ld766_ends ‹_› ?_ | refine gl766_sum ‹_› ‹_› ?_ | refine gl766_str ‹_› ‹_› ?_ | refine ld766_ways ‹_› ‹_› ‹_› ?_ | refine ld766_sizes ‹_› ‹_› ‹_› ?_ | refine ld766_name1 ‹_› ‹_› ?_ | refine ld766_name2 ‹_› ‹_› ?_) | (show W _ _ (eval _ _) _ _; first | (refine W_int ?_; intro _) | (refine W_str ?_; intro _) | refine W_callN ?_ | refine W_BinOp ?_ | refine W_sub ?_ | refine W_tupleN ?_ | refine W_listN ?_) | (show W _ _ (assign _ _ _) _ _; refine a_name ?_) | (show W _ _ (execs _ _) _ _; first | refine W_asg ?_ | refine W_if ?_ | refine W_ret ?_ | refine W_nil ?_ | refine W_asgSub ?_ | refine W_asgT ?_) | (show W _ _ (storeName _ _ _) _ _; first | (refine st766_due ‹_› ?_; intro _ _ _) | (refine st766_user ‹_› ?_; intro _ _ _) | (refine st766_used ‹_› ?_; intro _ _ _) | (refine st766_line ‹_› ?_; intro _ _ _) | (refine st766_callers ‹_› ?_; intro _ _ _) | (refine st766_number ‹_› ?_; intro _ _ _) | (refine st766_leader ‹_› ?_; intro _ _ _) | (refine st766_ends ‹_› ?_; intro _ _ _)) | (show W _ _ (isTrue _ _ _) _ _; first | refine T_cmp ?_ | refine T_bool ?_) | (show W _ _ (allTrue _ _ _) _ _; first | refine T_and ?_ | refine T_andNil ?_) | (show W _ _ (truthy _) _ _; refine t_bool ?_) | (show W _ _ (spliced _) _ _; first | refine W_sp ?_ | refine W_sp0 ?_) | (show W _ _ (compareOp _ _ _) _ _; first | refine o_eqs ?_ | refine o_gt ?_) | (show W _ _ (callWith _ _ _ _ _) _ _; first | refine W_cwT ?_ | refine W_cwB ?_ | refine W_cwB1 ?_) | (show W _ _ (binaryOp _ _ _) _ _; (refine o_add ?_; intro _)) | (show if _ = true then _ else _; first | refine ite_f (by with_unfolding_all rfl) ?_ | refine ite_t (by with_unfolding_all rfl) ?_) | (show Sq _ _ _ _ _ _ _; refine sq_next ?_))
      with_reducible refine d_set (St.get2 S19) Dsz (intR _ _) (Nat.le_trans hwl (by decide)) ?_
      intro h₂₀ os₂₀ g₂₀ D₂₀ sb₂₀
      have S20 := S19.upd2 sb₂₀.extBut g₂₀
      clear S19
      repeat (with_reducible first | (show W _ _ (eval (.Name _ _) _) _ _; first | refine ld766_start ‹_› ?_ | refine ld766_texts ‹_› ?_ | refine ld766_words ‹_› ?_ | refine ld766_uses ‹_› ?_ | refine ld766_due ‹_› ?_ | refine ld766_user ‹_› ?_ | refine ld766_used ‹_› ?_ | refine ld766_line ‹_› ?_ | refine ld766_callers ‹_› ?_ | refine ld766_number ‹_› ?_ | refine ld766_leader ‹_› ?_ | refine ld766_ends ‹_› ?_ | refine gl766_sum ‹_› ‹_› ?_ | refine gl766_str ‹_› ‹_› ?_ | refine ld766_ways ‹_› ‹_› ‹_› ?_ | refine ld766_sizes ‹_› ‹_› ‹_› ?_ | refine ld766_name1 ‹_› ‹_› ?_ | refine ld766_name2 ‹_› ‹_› ?_) | (show W _ _ (eval _ _) _ _; first | (refine W_int ?_; intro _) | (refine W_str ?_; intro _) | refine W_callN ?_ | refine W_BinOp ?_ | refine W_sub ?_ | refine W_tupleN ?_ | refine W_listN ?_) | (show W _ _ (assign _ _ _) _ _; refine a_name ?_) | (show W _ _ (execs _ _) _ _; first | refine W_asg ?_ | refine W_if ?_ | refine W_ret ?_ | refine W_nil ?_ | refine W_asgSub ?_ | refine W_asgT ?_) | (show W _ _ (storeName _ _ _) _ _; first | (refine st766_due ‹_› ?_; intro _ _ _) | (refine st766_user ‹_› ?_; intro _ _ _) | (refine st766_used ‹_› ?_; intro _ _ _) | (refine st766_line ‹_› ?_; intro _ _ _) | (refine st766_callers ‹_› ?_; intro _ _ _) | (refine st766_number ‹_› ?_; intro _ _ _) | (refine st766_leader ‹_› ?_; intro _ _ _) | (refine st766_ends ‹_› ?_; intro _ _ _)) | (show W _ _ (isTrue _ _ _) _ _; first | refine T_cmp ?_ | refine T_bool ?_) | (show W _ _ (allTrue _ _ _) _ _; first | refine T_and ?_ | refine T_andNil ?_) | (show W _ _ (truthy _) _ _; refine t_bool ?_) | (show W _ _ (spliced _) _ _; first | refine W_sp ?_ | refine W_sp0 ?_) | (show W _ _ (compareOp _ _ _) _ _; first | refine o_eqs ?_ | refine o_gt ?_) | (show W _ _ (callWith _ _ _ _ _) _ _; first | refine W_cwT ?_ | refine W_cwB ?_ | refine W_cwB1 ?_) | (show W _ _ (binaryOp _ _ _) _ _; (refine o_add ?_; intro _)) | (show if _ = true then _ else _; first | refine ite_f (by with_unfolding_all rfl) ?_ | refine ite_t (by with_unfolding_all rfl) ?_) | (show Sq _ _ _ _ _ _ _; refine sq_next ?_))
      refine hQ _ _ (fe_next (Ext.refl _) S20 ⟨on', _, os₂₀, rfl, rfl, don', ?_⟩)
      rw [hwn, sizeStep, show vAt wd u = wdu from getD_some hwdu]; exact D₂₀
    · rintro h₁₆ g8 m mu e8 S16 ⟨on, vn, os, rfl, rfl, don, Dsz⟩
      rw [strs_len hnm7, List.take_length] at Dsz
      clear S15
      replace S16 : St g8 L h₁₆ _ [(eb, os), (L + 3, on), (ec, emptyDict)] := S16.swap
      obtain ⟨g9, eg9, heb, S17⟩ := S16.freeze0
      have x9 := e8.trans eg9
      have G9 := G7.keeps x9
      have e9 := e7.trans x9
      replace hcw := x9 _ _ hcw
      replace hcs := x9 _ _ hcs
      replace hea := x9 _ _ hea
      clear S16 G7 G6 hnl7 e7 e6
      have kws : (waysOf start us nms).map (·.1) = nms := keys_waysT start us 5
      have ksz : (sizesOf wd us rvn).map (·.1) = rvn := keys_sizesT wd us 5
      have hde : dueOf start tx wd us = (waysOf start us nms).foldl (dueStep tx wd (sizesOf wd us rvn) (waysOf start us nms) us) [] := rfl
      generalize waysOf start us nms = ws at *
      generalize sizesOf wd us rvn = sz at *
      have hwl : ws.length = 5 := by have := congrArg List.length kws; rw [List.length_map] at this; exact this
      repeat (with_reducible first | (show W _ _ (eval (.Name _ _) _) _ _; first | refine ld766_start ‹_› ?_ | refine ld766_texts ‹_› ?_ | refine ld766_words ‹_› ?_ | refine ld766_uses ‹_› ?_ | refine ld766_due ‹_› ?_ | refine ld766_user ‹_› ?_ | refine ld766_used ‹_› ?_ | refine ld766_line ‹_› ?_ | refine ld766_callers ‹_› ?_ | refine ld766_number ‹_› ?_ | refine ld766_leader ‹_› ?_ | refine ld766_ends ‹_› ?_ | refine gl766_sum ‹_› ‹_› ?_ | refine gl766_str ‹_› ‹_› ?_ | refine ld766_ways ‹_› ‹_› ‹_› ?_ | refine ld766_sizes ‹_› ‹_› ‹_› ?_ | refine ld766_name1 ‹_› ‹_› ?_ | refine ld766_name2 ‹_› ‹_› ?_) | (show W _ _ (eval _ _) _ _; first | (refine W_int ?_; intro _) | (refine W_str ?_; intro _) | refine W_callN ?_ | refine W_BinOp ?_ | refine W_sub ?_ | refine W_tupleN ?_ | refine W_listN ?_) | (show W _ _ (assign _ _ _) _ _; refine a_name ?_) | (show W _ _ (execs _ _) _ _; first | refine W_asg ?_ | refine W_if ?_ | refine W_ret ?_ | refine W_nil ?_ | refine W_asgSub ?_ | refine W_asgT ?_) | (show W _ _ (storeName _ _ _) _ _; first | (refine st766_due ‹_› ?_; intro _ _ _) | (refine st766_user ‹_› ?_; intro _ _ _) | (refine st766_used ‹_› ?_; intro _ _ _) | (refine st766_line ‹_› ?_; intro _ _ _) | (refine st766_callers ‹_› ?_; intro _ _ _) | (refine st766_number ‹_› ?_; intro _ _ _) | (refine st766_leader ‹_› ?_; intro _ _ _) | (refine st766_ends ‹_› ?_; intro _ _ _)) | (show W _ _ (isTrue _ _ _) _ _; first | refine T_cmp ?_ | refine T_bool ?_) | (show W _ _ (allTrue _ _ _) _ _; first | refine T_and ?_ | refine T_andNil ?_) | (show W _ _ (truthy _) _ _; refine t_bool ?_) | (show W _ _ (spliced _) _ _; first | refine W_sp ?_ | refine W_sp0 ?_) | (show W _ _ (compareOp _ _ _) _ _; first | refine o_eqs ?_ | refine o_gt ?_) | (show W _ _ (callWith _ _ _ _ _) _ _; first | refine W_cwT ?_ | refine W_cwB ?_ | refine W_cwB1 ?_) | (show W _ _ (binaryOp _ _ _) _ _; (refine o_add ?_; intro _)) | (show if _ = true then _ else _; first | refine ite_f (by with_unfolding_all rfl) ?_ | refine ite_t (by with_unfolding_all rfl) ?_) | (show Sq _ _ _ _ _ _ _; refine sq_next ?_))
      with_reducible refine W_forK (L := L) (R := IntR) (l := ws) hh' ?_
      repeat (with_reducible first | (show W _ _ (eval (.Name _ _) _) _ _; first | refine ld766_start ‹_› ?_ | refine ld766_texts ‹_› ?_ | refine ld766_words ‹_› ?_ | refine ld766_uses ‹_› ?_ | refine ld766_due ‹_› ?_ | refine ld766_user ‹_› ?_ | refine ld766_used ‹_› ?_ | refine ld766_line ‹_› ?_ | refine ld766_callers ‹_› ?_ | refine ld766_number ‹_› ?_ | refine ld766_leader ‹_› ?_ | refine ld766_ends ‹_› ?_ | refine gl766_sum ‹_› ‹_› ?_ | refine gl766_str ‹_› ‹_› ?_ | refine ld766_ways ‹_› ‹_› ‹_› ?_ | refine ld766_sizes ‹_› ‹_› ‹_› ?_ | refine ld766_name1 ‹_› ‹_› ?_ | refine ld766_name2 ‹_› ‹_› ?_) | (show W _ _ (eval _ _) _ _; first | (refine W_int ?_; intro _) | (refine W_str ?_; intro _) | refine W_callN ?_ | refine W_BinOp ?_ | refine W_sub ?_ | refine W_tupleN ?_ | refine W_listN ?_) | (show W _ _ (assign _ _ _) _ _; refine a_name ?_) | (show W _ _ (execs _ _) _ _; first | refine W_asg ?_ | refine W_if ?_ | refine W_ret ?_ | refine W_nil ?_ | refine W_asgSub ?_ | refine W_asgT ?_) | (show W _ _ (storeName _ _ _) _ _; first | (refine st766_due ‹_› ?_; intro _ _ _) | (refine st766_user ‹_› ?_; intro _ _ _) | (refine st766_used ‹_› ?_; intro _ _ _) | (refine st766_line ‹_› ?_; intro _ _ _) | (refine st766_callers ‹_› ?_; intro _ _ _) | (refine st766_number ‹_› ?_; intro _ _ _) | (refine st766_leader ‹_› ?_; intro _ _ _) | (refine st766_ends ‹_› ?_; intro _ _ _)) | (show W _ _ (isTrue _ _ _) _ _; first | refine T_cmp ?_ | refine T_bool ?_) | (show W _ _ (allTrue _ _ _) _ _; first | refine T_and ?_ | refine T_andNil ?_) | (show W _ _ (truthy _) _ _; refine t_bool ?_) | (show W _ _ (spliced _) _ _; first | refine W_sp ?_ | refine W_sp0 ?_) | (show W _ _ (compareOp _ _ _) _ _; first | refine o_eqs ?_ | refine o_gt ?_) | (show W _ _ (callWith _ _ _ _ _) _ _; first | refine W_cwT ?_ | refine W_cwB ?_ | refine W_cwB1 ?_) | (show W _ _ (binaryOp _ _ _) _ _; (refine o_add ?_; intro _)) | (show if _ = true then _ else _; first | refine ite_f (by with_unfolding_all rfl) ?_ | refine ite_t (by with_unfolding_all rfl) ?_) | (show Sq _ _ _ _ _ _ _; refine sq_next ?_))
      refine ⟨ea, ow, g9, _, _, fun i g' m mu => ∃ on vn odu v5 v6 v7 v8 v9 v10 v11, m = frL ns766 [some (.str start ts), some (.ref dt), some (.ref dw), some (.ref lu), some (.ref ec), v5, v6, v7, v8, v9, v10, v11] ∧ mu = [(L + 3, on), (ec, odu)] ∧
          on.data = .cell vn ∧ DR w (RowAt w g') odu ((ws.take i).foldl (dueStep tx wd sz ws us) []), rfl, fea, S17, hea, Dwy, ⟨_, _, _, _, _, _, _, _, _, _, rfl, rfl, don, DR.new⟩, ?_, ?_⟩
      · rintro i u num tu h₁₈ p g10 m mu hi e10 S18 ⟨on, vn, odu, v5, v6, v7, v8, v9, v10, v11, rfl, rfl, don, Ddu⟩
        have hmem := List.mem_of_getElem? hi
        have hum : u ∈ nms := by rw [← kws]; exact List.mem_map.mpr ⟨_, hmem, rfl⟩
        have hlu : look ws u = some num := look_of_get Dwy.nodup hi
        have hnb := hwb _ hmem
        have hdn : (ws.take (i + 1)).foldl (dueStep tx wd sz ws us) [] = dueStep tx wd sz ws us ((ws.take i).foldl (dueStep tx wd sz ws us) []) (u, num) := by rw [List.take_add_one, hi, List.foldl_append]; rfl
        have hdl : ((ws.take i).foldl (dueStep tx wd sz ws us) []).length ≤ 100000 := due_small hwl
        generalize (ws.take i).foldl (dueStep tx wd sz ws us) [] = due at *
        have G10 := G9.keeps e10
        have e10' := e9.trans e10
        replace hcw := e10 _ _ hcw
        replace hcs := e10 _ _ hcs
        clear S17
        with_reducible refine W.hideU fun Q hQ => ?_
        repeat (with_reducible first | (show W _ _ (eval (.Name _ _) _) _ _; first | refine ld766_start ‹_› ?_ | refine ld766_texts ‹_› ?_ | refine ld766_words ‹_› ?_ | refine ld766_uses ‹_› ?_ | refine ld766_due ‹_› ?_ | refine ld766_user ‹_› ?_ | refine ld766_used ‹_› ?_ | refine ld766_line ‹_› ?_ | refine ld766_callers ‹_› ?_ | refine ld766_number ‹_› ?_ | refine ld766_leader ‹_› ?_ | refine ld766_ends ‹_› ?_ | refine gl766_sum ‹_› ‹_› ?_ | refine gl766_str ‹_› ‹_› ?_ | refine ld766_ways ‹_› ‹_› ‹_› ?_ | refine ld766_sizes ‹_› ‹_› ‹_› ?_ | refine ld766_name1 ‹_› ‹_› ?_ | refine ld766_name2 ‹_› ‹_› ?_) | (show W _ _ (eval _ _) _ _; first | (refine W_int ?_; intro _) | (refine W_str ?_; intro _) | refine W_callN ?_ | refine W_BinOp ?_ | refine W_sub ?_ | refine W_tupleN ?_ | refine W_listN ?_) | (show W _ _ (assign _ _ _) _ _; refine a_name ?_) | (show W _ _ (execs _ _) _ _; first | refine W_asg ?_ | refine W_if ?_ | refine W_ret ?_ | refine W_nil ?_ | refine W_asgSub ?_ | refine W_asgT ?_) | (show W _ _ (storeName _ _ _) _ _; first | (refine st766_due ‹_› ?_; intro _ _ _) | (refine st766_user ‹_› ?_; intro _ _ _) | (refine st766_used ‹_› ?_; intro _ _ _) | (refine st766_line ‹_› ?_; intro _ _ _) | (refine st766_callers ‹_› ?_; intro _ _ _) | (refine st766_number ‹_› ?_; intro _ _ _) | (refine st766_leader ‹_› ?_; intro _ _ _) | (refine st766_ends ‹_› ?_; intro _ _ _)) | (show W _ _ (isTrue _ _ _) _ _; first | refine T_cmp ?_ | refine T_bool ?_) | (show W _ _ (allTrue _ _ _) _ _; first | refine T_and ?_ | refine T_andNil ?_) | (show W _ _ (truthy _) _ _; refine t_bool ?_) | (show W _ _ (spliced _) _ _; first | refine W_sp ?_ | refine W_sp0 ?_) | (show W _ _ (compareOp _ _ _) _ _; first | refine o_eqs ?_ | refine o_gt ?_) | (show W _ _ (callWith _ _ _ _ _) _ _; first | refine W_cwT ?_ | refine W_cwB ?_ | refine W_cwB1 ?_) | (show W _ _ (binaryOp _ _ _) _ _; (refine o_add ?_; intro _)) | (show if _ = true then _ else _; first | refine ite_f (by with_unfolding_all rfl) ?_ | refine ite_t (by with_unfolding_all rfl) ?_) | (show Sq _ _ _ _ _ _ _; refine sq_next ?_))
        with_reducible refine st766_name1 S18 don ?_
        intro h₁₉ on' don' S19
        clear S18
        with_reducible refine W_sw2 hh' ?_
        repeat (with_reducible first | (show W _ _ (eval (.Name _ _) _) _ _; first | refine ld766_start ‹_› ?_ | refine ld766_texts ‹_› ?_ | refine ld766_words ‹_› ?_ | refine ld766_uses ‹_› ?_ | refine ld766_due ‹_› ?_ | refine ld766_user ‹_› ?_ | refine ld766_used ‹_› ?_ | refine ld766_line ‹_› ?_ | refine ld766_callers ‹_› ?_ | refine ld766_number ‹_› ?_ | refine ld766_leader ‹_› ?_ | refine ld766_ends ‹_› ?_ | refine gl766_sum ‹_› ‹_› ?_ | refine gl766_str ‹_› ‹_› ?_ | refine ld766_ways ‹_› ‹_› ‹_› ?_ | refine ld766_sizes ‹_› ‹_› ‹_› ?_ | refine ld766_name1 ‹_› ‹_› ?_ | refine ld766_name2 ‹_› ‹_› ?_) | (show W _ _ (eval _ _) _ _; first | (refine W_int ?_; intro _) | (refine W_str ?_; intro _) | refine W_callN ?_ | refine W_BinOp ?_ | refine W_sub ?_ | refine W_tupleN ?_ | refine W_listN ?_) | (show W _ _ (assign _ _ _) _ _; refine a_name ?_) | (show W _ _ (execs _ _) _ _; first | refine W_asg ?_ | refine W_if ?_ | refine W_ret ?_ | refine W_nil ?_ | refine W_asgSub ?_ | refine W_asgT ?_) | (show W _ _ (storeName _ _ _) _ _; first | (refine st766_due ‹_› ?_; intro _ _ _) | (refine st766_user ‹_› ?_; intro _ _ _) | (refine st766_used ‹_› ?_; intro _ _ _) | (refine st766_line ‹_› ?_; intro _ _ _) | (refine st766_callers ‹_› ?_; intro _ _ _) | (refine st766_number ‹_› ?_; intro _ _ _) | (refine st766_leader ‹_› ?_; intro _ _ _) | (refine st766_ends ‹_› ?_; intro _ _ _)) | (show W _ _ (isTrue _ _ _) _ _; first | refine T_cmp ?_ | refine T_bool ?_) | (show W _ _ (allTrue _ _ _) _ _; first | refine T_and ?_ | refine T_andNil ?_) | (show W _ _ (truthy _) _ _; refine t_bool ?_) | (show W _ _ (spliced _) _ _; first | refine W_sp ?_ | refine W_sp0 ?_) | (show W _ _ (compareOp _ _ _) _ _; first | refine o_eqs ?_ | refine o_gt ?_) | (show W _ _ (callWith _ _ _ _ _) _ _; first | refine W_cwT ?_ | refine W_cwB ?_ | refine W_cwB1 ?_) | (show W _ _ (binaryOp _ _ _) _ _; (refine o_add ?_; intro _)) | (show if _ = true then _ else _; first | refine ite_f (by with_unfolding_all rfl) ?_ | refine ite_t (by with_unfolding_all rfl) ?_) | (show Sq _ _ _ _ _ _ _; refine sq_next ?_))
        with_reducible refine W_dict0S G10 S19 ?_
        intro h₂₀ dc _ S20 fdc
        clear S19
        repeat (with_reducible first | (show W _ _ (eval (.Name _ _) _) _ _; first | refine ld766_start ‹_› ?_ | refine ld766_texts ‹_› ?_ | refine ld766_words ‹_› ?_ | refine ld766_uses ‹_› ?_ | refine ld766_due ‹_› ?_ | refine ld766_user ‹_› ?_ | refine ld766_used ‹_› ?_ | refine ld766_line ‹_› ?_ | refine ld766_callers ‹_› ?_ | refine ld766_number ‹_› ?_ | refine ld766_leader ‹_› ?_ | refine ld766_ends ‹_› ?_ | refine gl766_sum ‹_› ‹_› ?_ | refine gl766_str ‹_› ‹_› ?_ | refine ld766_ways ‹_› ‹_› ‹_› ?_ | refine ld766_sizes ‹_› ‹_› ‹_› ?_ | refine ld766_name1 ‹_› ‹_› ?_ | refine ld766_name2 ‹_› ‹_› ?_) | (show W _ _ (eval _ _) _ _; first | (refine W_int ?_; intro _) | (refine W_str ?_; intro _) | refine W_callN ?_ | refine W_BinOp ?_ | refine W_sub ?_ | refine W_tupleN ?_ | refine W_listN ?_) | (show W _ _ (assign _ _ _) _ _; refine a_name ?_) | (show W _ _ (execs _ _) _ _; first | refine W_asg ?_ | refine W_if ?_ | refine W_ret ?_ | refine W_nil ?_ | refine W_asgSub ?_ | refine W_asgT ?_) | (show W _ _ (storeName _ _ _) _ _; first | (refine st766_due ‹_› ?_; intro _ _ _) | (refine st766_user ‹_› ?_; intro _ _ _) | (refine st766_used ‹_› ?_; intro _ _ _) | (refine st766_line ‹_› ?_; intro _ _ _) | (refine st766_callers ‹_› ?_; intro _ _ _) | (refine st766_number ‹_› ?_; intro _ _ _) | (refine st766_leader ‹_› ?_; intro _ _ _) | (refine st766_ends ‹_› ?_; intro _ _ _)) | (show W _ _ (isTrue _ _ _) _ _; first | refine T_cmp ?_ | refine T_bool ?_) | (show W _ _ (allTrue _ _ _) _ _; first | refine T_and ?_ | refine T_andNil ?_) | (show W _ _ (truthy _) _ _; refine t_bool ?_) | (show W _ _ (spliced _) _ _; first | refine W_sp ?_ | refine W_sp0 ?_) | (show W _ _ (compareOp _ _ _) _ _; first | refine o_eqs ?_ | refine o_gt ?_) | (show W _ _ (callWith _ _ _ _ _) _ _; first | refine W_cwT ?_ | refine W_cwB ?_ | refine W_cwB1 ?_) | (show W _ _ (binaryOp _ _ _) _ _; (refine o_add ?_; intro _)) | (show if _ = true then _ else _; first | refine ite_f (by with_unfolding_all rfl) ?_ | refine ite_t (by with_unfolding_all rfl) ?_) | (show Sq _ _ _ _ _ _ _; refine sq_next ?_))
        with_reducible refine d_sub (S20.keep _ _ (e10 _ _ hea)) Dwy hlu ?_
        rintro vnum ⟨tnum, rfl⟩
        repeat (with_reducible first | (show W _ _ (eval (.Name _ _) _) _ _; first | refine ld766_start ‹_› ?_ | refine ld766_texts ‹_› ?_ | refine ld766_words ‹_› ?_ | refine ld766_uses ‹_› ?_ | refine ld766_due ‹_› ?_ | refine ld766_user ‹_› ?_ | refine ld766_used ‹_› ?_ | refine ld766_line ‹_› ?_ | refine ld766_callers ‹_› ?_ | refine ld766_number ‹_› ?_ | refine ld766_leader ‹_› ?_ | refine ld766_ends ‹_› ?_ | refine gl766_sum ‹_› ‹_› ?_ | refine gl766_str ‹_› ‹_› ?_ | refine ld766_ways ‹_› ‹_› ‹_› ?_ | refine ld766_sizes ‹_› ‹_› ‹_› ?_ | refine ld766_name1 ‹_› ‹_› ?_ | refine ld766_name2 ‹_› ‹_› ?_) | (show W _ _ (eval _ _) _ _; first | (refine W_int ?_; intro _) | (refine W_str ?_; intro _) | refine W_callN ?_ | refine W_BinOp ?_ | refine W_sub ?_ | refine W_tupleN ?_ | refine W_listN ?_) | (show W _ _ (assign _ _ _) _ _; refine a_name ?_) | (show W _ _ (execs _ _) _ _; first | refine W_asg ?_ | refine W_if ?_ | refine W_ret ?_ | refine W_nil ?_ | refine W_asgSub ?_ | refine W_asgT ?_) | (show W _ _ (storeName _ _ _) _ _; first | (refine st766_due ‹_› ?_; intro _ _ _) | (refine st766_user ‹_› ?_; intro _ _ _) | (refine st766_used ‹_› ?_; intro _ _ _) | (refine st766_line ‹_› ?_; intro _ _ _) | (refine st766_callers ‹_› ?_; intro _ _ _) | (refine st766_number ‹_› ?_; intro _ _ _) | (refine st766_leader ‹_› ?_; intro _ _ _) | (refine st766_ends ‹_› ?_; intro _ _ _)) | (show W _ _ (isTrue _ _ _) _ _; first | refine T_cmp ?_ | refine T_bool ?_) | (show W _ _ (allTrue _ _ _) _ _; first | refine T_and ?_ | refine T_andNil ?_) | (show W _ _ (truthy _) _ _; refine t_bool ?_) | (show W _ _ (spliced _) _ _; first | refine W_sp ?_ | refine W_sp0 ?_) | (show W _ _ (compareOp _ _ _) _ _; first | refine o_eqs ?_ | refine o_gt ?_) | (show W _ _ (callWith _ _ _ _ _) _ _; first | refine W_cwT ?_ | refine W_cwB ?_ | refine W_cwB1 ?_) | (show W _ _ (binaryOp _ _ _) _ _; (refine o_add ?_; intro _)) | (show if _ = true then _ else _; first | refine ite_f (by with_unfolding_all rfl) ?_ | refine ite_t (by with_unfolding_all rfl) ?_) | (show Sq _ _ _ _ _ _ _; refine sq_next ?_))
        refine tupK S20 ?_
        intro h₂₁ g11 T21 _ eg11 hT21 S21
        refine ⟨T21, _, _, rfl, S21.keep _ _ hT21, fun h₂₂ x₂₂ => ?_⟩
        have S22 := S21.ext x₂₂
        clear S20 S21 hT21
        have G11 := G10.keeps eg11
        have e11 := e10'.trans eg11
        have Ddu11 : DR w (RowAt w g11) odu due := Ddu.mono fun _ _ r => r.ext eg11
        replace hcw := eg11 _ _ hcw
        replace hcs := eg11 _ _ hcs
        have hea11 := eg11 _ _ (e10 _ _ hea)
        have heb11 := eg11 _ _ (e10 _ _ heb)
        repeat (with_reducible first | (show W _ _ (eval (.Name _ _) _) _ _; first | refine ld766_start ‹_› ?_ | refine ld766_texts ‹_› ?_ | refine ld766_words ‹_› ?_ | refine ld766_uses ‹_› ?_ | refine ld766_due ‹_› ?_ | refine ld766_user ‹_› ?_ | refine ld766_used ‹_› ?_ | refine ld766_line ‹_› ?_ | refine ld766_callers ‹_› ?_ | refine ld766_number ‹_› ?_ | refine ld766_leader ‹_› ?_ | refine ld766_ends ‹_› ?_ | refine gl766_sum ‹_› ‹_› ?_ | refine gl766_str ‹_› ‹_› ?_ | refine ld766_ways ‹_› ‹_› ‹_› ?_ | refine ld766_sizes ‹_› ‹_› ‹_› ?_ | refine ld766_name1 ‹_› ‹_› ?_ | refine ld766_name2 ‹_› ‹_› ?_) | (show W _ _ (eval _ _) _ _; first | (refine W_int ?_; intro _) | (refine W_str ?_; intro _) | refine W_callN ?_ | refine W_BinOp ?_ | refine W_sub ?_ | refine W_tupleN ?_ | refine W_listN ?_) | (show W _ _ (assign _ _ _) _ _; refine a_name ?_) | (show W _ _ (execs _ _) _ _; first | refine W_asg ?_ | refine W_if ?_ | refine W_ret ?_ | refine W_nil ?_ | refine W_asgSub ?_ | refine W_asgT ?_) | (show W _ _ (storeName _ _ _) _ _; first | (refine st766_due ‹_› ?_; intro _ _ _) | (refine st766_user ‹_› ?_; intro _ _ _) | (refine st766_used ‹_› ?_; intro _ _ _) | (refine st766_line ‹_› ?_; intro _ _ _) | (refine st766_callers ‹_› ?_; intro _ _ _) | (refine st766_number ‹_› ?_; intro _ _ _) | (refine st766_leader ‹_› ?_; intro _ _ _) | (refine st766_ends ‹_› ?_; intro _ _ _)) | (show W _ _ (isTrue _ _ _) _ _; first | refine T_cmp ?_ | refine T_bool ?_) | (show W _ _ (allTrue _ _ _) _ _; first | refine T_and ?_ | refine T_andNil ?_) | (show W _ _ (truthy _) _ _; refine t_bool ?_) | (show W _ _ (spliced _) _ _; first | refine W_sp ?_ | refine W_sp0 ?_) | (show W _ _ (compareOp _ _ _) _ _; first | refine o_eqs ?_ | refine o_gt ?_) | (show W _ _ (callWith _ _ _ _ _) _ _; first | refine W_cwT ?_ | refine W_cwB ?_ | refine W_cwB1 ?_) | (show W _ _ (binaryOp _ _ _) _ _; (refine o_add ?_; intro _)) | (show if _ = true then _ else _; first | refine ite_f (by with_unfolding_all rfl) ?_ | refine ite_t (by with_unfolding_all rfl) ?_) | (show Sq _ _ _ _ _ _ _; refine sq_next ?_))
        rename St _ _ _ _ _ => S23
        clear S22
        replace S23 : St g11 L _ _ [p, (L + 3, on'), (dc, emptyDict), (ec, odu)] := S23.perm ((List.Perm.swap _ _ _).trans (.cons _ (.swap _ _ _)))
        with_reducible refine W_forL (L := L) hh' ?_
        repeat (with_reducible first | (show W _ _ (eval (.Name _ _) _) _ _; first | refine ld766_start ‹_› ?_ | refine ld766_texts ‹_› ?_ | refine ld766_words ‹_› ?_ | refine ld766_uses ‹_› ?_ | refine ld766_due ‹_› ?_ | refine ld766_user ‹_› ?_ | refine ld766_used ‹_› ?_ | refine ld766_line ‹_› ?_ | refine ld766_callers ‹_› ?_ | refine ld766_number ‹_› ?_ | refine ld766_leader ‹_› ?_ | refine ld766_ends ‹_› ?_ | refine gl766_sum ‹_› ‹_› ?_ | refine gl766_str ‹_› ‹_› ?_ | refine ld766_ways ‹_› ‹_› ‹_› ?_ | refine ld766_sizes ‹_› ‹_› ‹_› ?_ | refine ld766_name1 ‹_› ‹_› ?_ | refine ld766_name2 ‹_› ‹_› ?_) | (show W _ _ (eval _ _) _ _; first | (refine W_int ?_; intro _) | (refine W_str ?_; intro _) | refine W_callN ?_ | refine W_BinOp ?_ | refine W_sub ?_ | refine W_tupleN ?_ | refine W_listN ?_) | (show W _ _ (assign _ _ _) _ _; refine a_name ?_) | (show W _ _ (execs _ _) _ _; first | refine W_asg ?_ | refine W_if ?_ | refine W_ret ?_ | refine W_nil ?_ | refine W_asgSub ?_ | refine W_asgT ?_) | (show W _ _ (storeName _ _ _) _ _; first | (refine st766_due ‹_› ?_; intro _ _ _) | (refine st766_user ‹_› ?_; intro _ _ _) | (refine st766_used ‹_› ?_; intro _ _ _) | (refine st766_line ‹_› ?_; intro _ _ _) | (refine st766_callers ‹_› ?_; intro _ _ _) | (refine st766_number ‹_› ?_; intro _ _ _) | (refine st766_leader ‹_› ?_; intro _ _ _) | (refine st766_ends ‹_› ?_; intro _ _ _)) | (show W _ _ (isTrue _ _ _) _ _; first | refine T_cmp ?_ | refine T_bool ?_) | (show W _ _ (allTrue _ _ _) _ _; first | refine T_and ?_ | refine T_andNil ?_) | (show W _ _ (truthy _) _ _; refine t_bool ?_) | (show W _ _ (spliced _) _ _; first | refine W_sp ?_ | refine W_sp0 ?_) | (show W _ _ (compareOp _ _ _) _ _; first | refine o_eqs ?_ | refine o_gt ?_) | (show W _ _ (callWith _ _ _ _ _) _ _; first | refine W_cwT ?_ | refine W_cwB ?_ | refine W_cwB1 ?_) | (show W _ _ (binaryOp _ _ _) _ _; (refine o_add ?_; intro _)) | (show if _ = true then _ else _; first | refine ite_f (by with_unfolding_all rfl) ?_ | refine ite_t (by with_unfolding_all rfl) ?_) | (show Sq _ _ _ _ _ _ _; refine sq_next ?_))
        refine ⟨lu, un, uvs, g11, _, _, fun j g' m mu => ∃ oc v5 v6 v7 v10, m = frL ns766 [some (.str start ts), some (.ref dt), some (.ref dw), some (.ref lu), some (.ref ec), v5, v6, v7, some (.ref dc), some (.int num tnum), v10, v11] ∧ mu = [p, (L + 3, on'), (dc, oc), (ec, odu)] ∧
            g' = g11 ∧ DR w IntR oc ((us.take j).foldl (calStep ws u) []), rfl, S23, e11 _ _ hu, .inr ⟨⟨_, _, _, rfl⟩, ?_⟩, ⟨_, _, _, _, _, rfl, rfl, rfl, DR.new⟩, ?_, ?_⟩
        · intro v hv
          obtain ⟨j, hj⟩ := List.mem_iff_getElem?.mp hv
          obtain ⟨pu, _, T, _, _, _, e, _⟩ := Usr.get hj
          exact ⟨T, e⟩
        · rintro j v h₂₄ p' g12 m mu hv e12 S24 ⟨oc, v5', v6', v7', v10', rfl, rfl, rfl, Dcal⟩
          obtain ⟨pu, hpu, T, t1, t2, t3, rfl, hT⟩ := Usr.get hv
          have hmpu := List.mem_of_getElem? hpu
          have hcn : (us.take (j + 1)).foldl (calStep ws u) [] = calStep ws u ((us.take j).foldl (calStep ws u) []) pu := by rw [List.take_add_one, hpu, List.foldl_append]; rfl
          have hcl : ((us.take j).foldl (calStep ws u) []).length ≤ 100000 := cal_small hul
          generalize (us.take j).foldl (calStep ws u) [] = cal at *
          clear S23
          with_reducible refine W.hideU fun Qi hQi => ?_
          with_reducible refine a_tup3 hh' (S24.keep _ _ (e11 _ _ hT)) ?_
          intro h₂₅ x₂₅
          have S25 := S24.ext x₂₅
          clear S24
          repeat (with_reducible first | (show W _ _ (eval (.Name _ _) _) _ _; first | refine ld766_start ‹_› ?_ | refine ld766_texts ‹_› ?_ | refine ld766_words ‹_› ?_ | refine ld766_uses ‹_› ?_ | refine ld766_due ‹_› ?_ | refine ld766_user ‹_› ?_ | refine ld766_used ‹_› ?_ | refine ld766_line ‹_› ?_ | refine ld766_callers ‹_› ?_ | refine ld766_number ‹_› ?_ | refine ld766_leader ‹_› ?_ | refine ld766_ends ‹_› ?_ | refine gl766_sum ‹_› ‹_› ?_ | refine gl766_str ‹_› ‹_› ?_ | refine ld766_ways ‹_› ‹_› ‹_› ?_ | refine ld766_sizes ‹_› ‹_› ‹_› ?_ | refine ld766_name1 ‹_› ‹_› ?_ | refine ld766_name2 ‹_› ‹_› ?_) | (show W _ _ (eval _ _) _ _; first | (refine W_int ?_; intro _) | (refine W_str ?_; intro _) | refine W_callN ?_ | refine W_BinOp ?_ | refine W_sub ?_ | refine W_tupleN ?_ | refine W_listN ?_) | (show W _ _ (assign _ _ _) _ _; refine a_name ?_) | (show W _ _ (execs _ _) _ _; first | refine W_asg ?_ | refine W_if ?_ | refine W_ret ?_ | refine W_nil ?_ | refine W_asgSub ?_ | refine W_asgT ?_) | (show W _ _ (storeName _ _ _) _ _; first | (refine st766_due ‹_› ?_; intro _ _ _) | (refine st766_user ‹_› ?_; intro _ _ _) | (refine st766_used ‹_› ?_; intro _ _ _) | (refine st766_line ‹_› ?_; intro _ _ _) | (refine st766_callers ‹_› ?_; intro _ _ _) | (refine st766_number ‹_› ?_; intro _ _ _) | (refine st766_leader ‹_› ?_; intro _ _ _) | (refine st766_ends ‹_› ?_; intro _ _ _)) | (show W _ _ (isTrue _ _ _) _ _; first | refine T_cmp ?_ | refine T_bool ?_) | (show W _ _ (allTrue _ _ _) _ _; first | refine T_and ?_ | refine T_andNil ?_) | (show W _ _ (truthy _) _ _; refine t_bool ?_) | (show W _ _ (spliced _) _ _; first | refine W_sp ?_ | refine W_sp0 ?_) | (show W _ _ (compareOp _ _ _) _ _; first | refine o_eqs ?_ | refine o_gt ?_) | (show W _ _ (callWith _ _ _ _ _) _ _; first | refine W_cwT ?_ | refine W_cwB ?_ | refine W_cwB1 ?_) | (show W _ _ (binaryOp _ _ _) _ _; (refine o_add ?_; intro _)) | (show if _ = true then _ else _; first | refine ite_f (by with_unfolding_all rfl) ?_ | refine ite_t (by with_unfolding_all rfl) ?_) | (show Sq _ _ _ _ _ _ _; refine sq_next ?_))
          rename St _ _ _ _ _ => S26
          clear S25
          obtain ⟨hun, hl0, hl1⟩ := husn pu hmpu
          obtain ⟨wu, hwu⟩ := look_some (l := ws) (k := pu.1) (by rw [kws]; exact hun)
          have ewu : vAt ws pu.1 = wu := getD_some hwu
          refine ite_s (fun q => ?_) fun q => ?_
          · have qe : pu.2.1 = u := by simpa using q
            repeat (with_reducible first | (show W _ _ (eval (.Name _ _) _) _ _; first | refine ld766_start ‹_› ?_ | refine ld766_texts ‹_› ?_ | refine ld766_words ‹_› ?_ | refine ld766_uses ‹_› ?_ | refine ld766_due ‹_› ?_ | refine ld766_user ‹_› ?_ | refine ld766_used ‹_› ?_ | refine ld766_line ‹_› ?_ | refine ld766_callers ‹_› ?_ | refine ld766_number ‹_› ?_ | refine ld766_leader ‹_› ?_ | refine ld766_ends ‹_› ?_ | refine gl766_sum ‹_› ‹_› ?_ | refine gl766_str ‹_› ‹_› ?_ | refine ld766_ways ‹_› ‹_› ‹_› ?_ | refine ld766_sizes ‹_› ‹_› ‹_› ?_ | refine ld766_name1 ‹_› ‹_› ?_ | refine ld766_name2 ‹_› ‹_› ?_) | (show W _ _ (eval _ _) _ _; first | (refine W_int ?_; intro _) | (refine W_str ?_; intro _) | refine W_callN ?_ | refine W_BinOp ?_ | refine W_sub ?_ | refine W_tupleN ?_ | refine W_listN ?_) | (show W _ _ (assign _ _ _) _ _; refine a_name ?_) | (show W _ _ (execs _ _) _ _; first | refine W_asg ?_ | refine W_if ?_ | refine W_ret ?_ | refine W_nil ?_ | refine W_asgSub ?_ | refine W_asgT ?_) | (show W _ _ (storeName _ _ _) _ _; first | (refine st766_due ‹_› ?_; intro _ _ _) | (refine st766_user ‹_› ?_; intro _ _ _) | (refine st766_used ‹_› ?_; intro _ _ _) | (refine st766_line ‹_› ?_; intro _ _ _) | (refine st766_callers ‹_› ?_; intro _ _ _) | (refine st766_number ‹_› ?_; intro _ _ _) | (refine st766_leader ‹_› ?_; intro _ _ _) | (refine st766_ends ‹_› ?_; intro _ _ _)) | (show W _ _ (isTrue _ _ _) _ _; first | refine T_cmp ?_ | refine T_bool ?_) | (show W _ _ (allTrue _ _ _) _ _; first | refine T_and ?_ | refine T_andNil ?_) | (show W _ _ (truthy _) _ _; refine t_bool ?_) | (show W _ _ (spliced _) _ _; first | refine W_sp ?_ | refine W_sp0 ?_) | (show W _ _ (compareOp _ _ _) _ _; first | refine o_eqs ?_ | refine o_gt ?_) | (show W _ _ (callWith _ _ _ _ _) _ _; first | refine W_cwT ?_ | refine W_cwB ?_ | refine W_cwB1 ?_) | (show W _ _ (binaryOp _ _ _) _ _; (refine o_add ?_; intro _)) | (show if _ = true then _ else _; first | refine ite_f (by with_unfolding_all rfl) ?_ | refine ite_t (by with_unfolding_all rfl) ?_) | (show Sq _ _ _ _ _ _ _; refine sq_next ?_))
            with_reducible refine d_sub (S26.keep _ _ hea11) Dwy hwu ?_
            rintro vwu ⟨twu, rfl⟩
            repeat (with_reducible first | (show W _ _ (eval (.Name _ _) _) _ _; first | refine ld766_start ‹_› ?_ | refine ld766_texts ‹_› ?_ | refine ld766_words ‹_› ?_ | refine ld766_uses ‹_› ?_ | refine ld766_due ‹_› ?_ | refine ld766_user ‹_› ?_ | refine ld766_used ‹_› ?_ | refine ld766_line ‹_› ?_ | refine ld766_callers ‹_› ?_ | refine ld766_number ‹_› ?_ | refine ld766_leader ‹_› ?_ | refine ld766_ends ‹_› ?_ | refine gl766_sum ‹_› ‹_› ?_ | refine gl766_str ‹_› ‹_› ?_ | refine ld766_ways ‹_› ‹_› ‹_› ?_ | refine ld766_sizes ‹_› ‹_› ‹_› ?_ | refine ld766_name1 ‹_› ‹_› ?_ | refine ld766_name2 ‹_› ‹_› ?_) | (show W _ _ (eval _ _) _ _; first | (refine W_int ?_; intro _) | (refine W_str ?_; intro _) | refine W_callN ?_ | refine W_BinOp ?_ | refine W_sub ?_ | refine W_tupleN ?_ | refine W_listN ?_) | (show W _ _ (assign _ _ _) _ _; refine a_name ?_) | (show W _ _ (execs _ _) _ _; first | refine W_asg ?_ | refine W_if ?_ | refine W_ret ?_ | refine W_nil ?_ | refine W_asgSub ?_ | refine W_asgT ?_) | (show W _ _ (storeName _ _ _) _ _; first | (refine st766_due ‹_› ?_; intro _ _ _) | (refine st766_user ‹_› ?_; intro _ _ _) | (refine st766_used ‹_› ?_; intro _ _ _) | (refine st766_line ‹_› ?_; intro _ _ _) | (refine st766_callers ‹_› ?_; intro _ _ _) | (refine st766_number ‹_› ?_; intro _ _ _) | (refine st766_leader ‹_› ?_; intro _ _ _) | (refine st766_ends ‹_› ?_; intro _ _ _)) | (show W _ _ (isTrue _ _ _) _ _; first | refine T_cmp ?_ | refine T_bool ?_) | (show W _ _ (allTrue _ _ _) _ _; first | refine T_and ?_ | refine T_andNil ?_) | (show W _ _ (truthy _) _ _; refine t_bool ?_) | (show W _ _ (spliced _) _ _; first | refine W_sp ?_ | refine W_sp0 ?_) | (show W _ _ (compareOp _ _ _) _ _; first | refine o_eqs ?_ | refine o_gt ?_) | (show W _ _ (callWith _ _ _ _ _) _ _; first | refine W_cwT ?_ | refine W_cwB ?_ | refine W_cwB1 ?_) | (show W _ _ (binaryOp _ _ _) _ _; (refine o_add ?_; intro _)) | (show if _ = true then _ else _; first | refine ite_f (by with_unfolding_all rfl) ?_ | refine ite_t (by with_unfolding_all rfl) ?_) | (show Sq _ _ _ _ _ _ _; refine sq_next ?_))
            refine ite_s (fun q2 => ?_) fun q2 => ?_
            · have q2e : 0 < wu := of_decide_eq_true q2
              repeat (with_reducible first | (show W _ _ (eval (.Name _ _) _) _ _; first | refine ld766_start ‹_› ?_ | refine ld766_texts ‹_› ?_ | refine ld766_words ‹_› ?_ | refine ld766_uses ‹_› ?_ | refine ld766_due ‹_› ?_ | refine ld766_user ‹_› ?_ | refine ld766_used ‹_› ?_ | refine ld766_line ‹_› ?_ | refine ld766_callers ‹_› ?_ | refine ld766_number ‹_› ?_ | refine ld766_leader ‹_› ?_ | refine ld766_ends ‹_› ?_ | refine gl766_sum ‹_› ‹_› ?_ | refine gl766_str ‹_› ‹_› ?_ | refine ld766_ways ‹_› ‹_› ‹_› ?_ | refine ld766_sizes ‹_› ‹_› ‹_› ?_ | refine ld766_name1 ‹_› ‹_› ?_ | refine ld766_name2 ‹_› ‹_› ?_) | (show W _ _ (eval _ _) _ _; first | (refine W_int ?_; intro _) | (refine W_str ?_; intro _) | refine W_callN ?_ | refine W_BinOp ?_ | refine W_sub ?_ | refine W_tupleN ?_ | refine W_listN ?_) | (show W _ _ (assign _ _ _) _ _; refine a_name ?_) | (show W _ _ (execs _ _) _ _; first | refine W_asg ?_ | refine W_if ?_ | refine W_ret ?_ | refine W_nil ?_ | refine W_asgSub ?_ | refine W_asgT ?_) | (show W _ _ (storeName _ _ _) _ _; first | (refine st766_due ‹_› ?_; intro _ _ _) | (refine st766_user ‹_› ?_; intro _ _ _) | (refine st766_used ‹_› ?_; intro _ _ _) | (refine st766_line ‹_› ?_; intro _ _ _) | (refine st766_callers ‹_› ?_; intro _ _ _) | (refine st766_number ‹_› ?_; intro _ _ _) | (refine st766_leader ‹_› ?_; intro _ _ _) | (refine st766_ends ‹_› ?_; intro _ _ _)) | (show W _ _ (isTrue _ _ _) _ _; first | refine T_cmp ?_ | refine T_bool ?_) | (show W _ _ (allTrue _ _ _) _ _; first | refine T_and ?_ | refine T_andNil ?_) | (show W _ _ (truthy _) _ _; refine t_bool ?_) | (show W _ _ (spliced _) _ _; first | refine W_sp ?_ | refine W_sp0 ?_) | (show W _ _ (compareOp _ _ _) _ _; first | refine o_eqs ?_ | refine o_gt ?_) | (show W _ _ (callWith _ _ _ _ _) _ _; first | refine W_cwT ?_ | refine W_cwB ?_ | refine W_cwB1 ?_) | (show W _ _ (binaryOp _ _ _) _ _; (refine o_add ?_; intro _)) | (show if _ = true then _ else _; first | refine ite_f (by with_unfolding_all rfl) ?_ | refine ite_t (by with_unfolding_all rfl) ?_) | (show Sq _ _ _ _ _ _ _; refine sq_next ?_))
              have u4 : pu.1.length ≤ 4 := nms_len _ hun
              have hls : (Str.ofString (toString pu.2.2)).length ≤ 10 := toString_length_le hl0 (by decide) (Int.lt_trans hl1 (by decide))
              have f1 : fm1.length ≤ 1 := Nat.le_refl _
              have f2 : fm2.length ≤ 8 := Nat.le_refl _
              with_reducible refine o_adds (x := fm1) (szA f1 u4 (by decide)) ?_
              intro _
              repeat (with_reducible first | (show W _ _ (eval (.Name _ _) _) _ _; first | refine ld766_start ‹_› ?_ | refine ld766_texts ‹_› ?_ | refine ld766_words ‹_› ?_ | refine ld766_uses ‹_› ?_ | refine ld766_due ‹_› ?_ | refine ld766_user ‹_› ?_ | refine ld766_used ‹_› ?_ | refine ld766_line ‹_› ?_ | refine ld766_callers ‹_› ?_ | refine ld766_number ‹_› ?_ | refine ld766_leader ‹_› ?_ | refine ld766_ends ‹_› ?_ | refine gl766_sum ‹_› ‹_› ?_ | refine gl766_str ‹_› ‹_› ?_ | refine ld766_ways ‹_› ‹_› ‹_› ?_ | refine ld766_sizes ‹_› ‹_› ‹_› ?_ | refine ld766_name1 ‹_› ‹_› ?_ | refine ld766_name2 ‹_› ‹_› ?_) | (show W _ _ (eval _ _) _ _; first | (refine W_int ?_; intro _) | (refine W_str ?_; intro _) | refine W_callN ?_ | refine W_BinOp ?_ | refine W_sub ?_ | refine W_tupleN ?_ | refine W_listN ?_) | (show W _ _ (assign _ _ _) _ _; refine a_name ?_) | (show W _ _ (execs _ _) _ _; first | refine W_asg ?_ | refine W_if ?_ | refine W_ret ?_ | refine W_nil ?_ | refine W_asgSub ?_ | refine W_asgT ?_) | (show W _ _ (storeName _ _ _) _ _; first | (refine st766_due ‹_› ?_; intro _ _ _) | (refine st766_user ‹_› ?_; intro _ _ _) | (refine st766_used ‹_› ?_; intro _ _ _) | (refine st766_line ‹_› ?_; intro _ _ _) | (refine st766_callers ‹_› ?_; intro _ _ _) | (refine st766_number ‹_› ?_; intro _ _ _) | (refine st766_leader ‹_› ?_; intro _ _ _) | (refine st766_ends ‹_› ?_; intro _ _ _)) | (show W _ _ (isTrue _ _ _) _ _; first | refine T_cmp ?_ | refine T_bool ?_) | (show W _ _ (allTrue _ _ _) _ _; first | refine T_and ?_ | refine T_andNil ?_) | (show W _ _ (truthy _) _ _; refine t_bool ?_) | (show W _ _ (spliced _) _ _; first | refine W_sp ?_ | refine W_sp0 ?_) | (show W _ _ (compareOp _ _ _) _ _; first | refine o_eqs ?_ | refine o_gt ?_) | (show W _ _ (callWith _ _ _ _ _) _ _; first | refine W_cwT ?_ | refine W_cwB ?_ | refine W_cwB1 ?_) | (show W _ _ (binaryOp _ _ _) _ _; (refine o_add ?_; intro _)) | (show if _ = true then _ else _; first | refine ite_f (by with_unfolding_all rfl) ?_ | refine ite_t (by with_unfolding_all rfl) ?_) | (show Sq _ _ _ _ _ _ _; refine sq_next ?_))
              with_reducible refine o_adds (y := fm2) (szA (szB f1 u4) f2 (by decide)) ?_
              intro _
              repeat (with_reducible first | (show W _ _ (eval (.Name _ _) _) _ _; first | refine ld766_start ‹_› ?_ | refine ld766_texts ‹_› ?_ | refine ld766_words ‹_› ?_ | refine ld766_uses ‹_› ?_ | refine ld766_due ‹_› ?_ | refine ld766_user ‹_› ?_ | refine ld766_used ‹_› ?_ | refine ld766_line ‹_› ?_ | refine ld766_callers ‹_› ?_ | refine ld766_number ‹_› ?_ | refine ld766_leader ‹_› ?_ | refine ld766_ends ‹_› ?_ | refine gl766_sum ‹_› ‹_› ?_ | refine gl766_str ‹_› ‹_› ?_ | refine ld766_ways ‹_› ‹_› ‹_› ?_ | refine ld766_sizes ‹_› ‹_› ‹_› ?_ | refine ld766_name1 ‹_› ‹_› ?_ | refine ld766_name2 ‹_› ‹_› ?_) | (show W _ _ (eval _ _) _ _; first | (refine W_int ?_; intro _) | (refine W_str ?_; intro _) | refine W_callN ?_ | refine W_BinOp ?_ | refine W_sub ?_ | refine W_tupleN ?_ | refine W_listN ?_) | (show W _ _ (assign _ _ _) _ _; refine a_name ?_) | (show W _ _ (execs _ _) _ _; first | refine W_asg ?_ | refine W_if ?_ | refine W_ret ?_ | refine W_nil ?_ | refine W_asgSub ?_ | refine W_asgT ?_) | (show W _ _ (storeName _ _ _) _ _; first | (refine st766_due ‹_› ?_; intro _ _ _) | (refine st766_user ‹_› ?_; intro _ _ _) | (refine st766_used ‹_› ?_; intro _ _ _) | (refine st766_line ‹_› ?_; intro _ _ _) | (refine st766_callers ‹_› ?_; intro _ _ _) | (refine st766_number ‹_› ?_; intro _ _ _) | (refine st766_leader ‹_› ?_; intro _ _ _) | (refine st766_ends ‹_› ?_; intro _ _ _)) | (show W _ _ (isTrue _ _ _) _ _; first | refine T_cmp ?_ | refine T_bool ?_) | (show W _ _ (allTrue _ _ _) _ _; first | refine T_and ?_ | refine T_andNil ?_) | (show W _ _ (truthy _) _ _; refine t_bool ?_) | (show W _ _ (spliced _) _ _; first | refine W_sp ?_ | refine W_sp0 ?_) | (show W _ _ (compareOp _ _ _) _ _; first | refine o_eqs ?_ | refine o_gt ?_) | (show W _ _ (callWith _ _ _ _ _) _ _; first | refine W_cwT ?_ | refine W_cwB ?_ | refine W_cwB1 ?_) | (show W _ _ (binaryOp _ _ _) _ _; (refine o_add ?_; intro _)) | (show if _ = true then _ else _; first | refine ite_f (by with_unfolding_all rfl) ?_ | refine ite_t (by with_unfolding_all rfl) ?_) | (show Sq _ _ _ _ _ _ _; refine sq_next ?_))
              with_reducible refine c_strInt (log2_small hl0 (Int.lt_trans hl1 (by decide))) ?_
              intro _
              with_reducible refine o_adds (szA (szB (szB f1 u4) f2) hls (by decide)) ?_
              intro _
              repeat (with_reducible first | (show W _ _ (eval (.Name _ _) _) _ _; first | refine ld766_start ‹_› ?_ | refine ld766_texts ‹_› ?_ | refine ld766_words ‹_› ?_ | refine ld766_uses ‹_› ?_ | refine ld766_due ‹_› ?_ | refine ld766_user ‹_› ?_ | refine ld766_used ‹_› ?_ | refine ld766_line ‹_› ?_ | refine ld766_callers ‹_› ?_ | refine ld766_number ‹_› ?_ | refine ld766_leader ‹_› ?_ | refine ld766_ends ‹_› ?_ | refine gl766_sum ‹_› ‹_› ?_ | refine gl766_str ‹_› ‹_› ?_ | refine ld766_ways ‹_› ‹_› ‹_› ?_ | refine ld766_sizes ‹_› ‹_› ‹_› ?_ | refine ld766_name1 ‹_› ‹_› ?_ | refine ld766_name2 ‹_› ‹_› ?_) | (show W _ _ (eval _ _) _ _; first | (refine W_int ?_; intro _) | (refine W_str ?_; intro _) | refine W_callN ?_ | refine W_BinOp ?_ | refine W_sub ?_ | refine W_tupleN ?_ | refine W_listN ?_) | (show W _ _ (assign _ _ _) _ _; refine a_name ?_) | (show W _ _ (execs _ _) _ _; first | refine W_asg ?_ | refine W_if ?_ | refine W_ret ?_ | refine W_nil ?_ | refine W_asgSub ?_ | refine W_asgT ?_) | (show W _ _ (storeName _ _ _) _ _; first | (refine st766_due ‹_› ?_; intro _ _ _) | (refine st766_user ‹_› ?_; intro _ _ _) | (refine st766_used ‹_› ?_; intro _ _ _) | (refine st766_line ‹_› ?_; intro _ _ _) | (refine st766_callers ‹_› ?_; intro _ _ _) | (refine st766_number ‹_› ?_; intro _ _ _) | (refine st766_leader ‹_› ?_; intro _ _ _) | (refine st766_ends ‹_› ?_; intro _ _ _)) | (show W _ _ (isTrue _ _ _) _ _; first | refine T_cmp ?_ | refine T_bool ?_) | (show W _ _ (allTrue _ _ _) _ _; first | refine T_and ?_ | refine T_andNil ?_) | (show W _ _ (truthy _) _ _; refine t_bool ?_) | (show W _ _ (spliced _) _ _; first | refine W_sp ?_ | refine W_sp0 ?_) | (show W _ _ (compareOp _ _ _) _ _; first | refine o_eqs ?_ | refine o_gt ?_) | (show W _ _ (callWith _ _ _ _ _) _ _; first | refine W_cwT ?_ | refine W_cwB ?_ | refine W_cwB1 ?_) | (show W _ _ (binaryOp _ _ _) _ _; (refine o_add ?_; intro _)) | (show if _ = true then _ else _; first | refine ite_f (by with_unfolding_all rfl) ?_ | refine ite_t (by with_unfolding_all rfl) ?_) | (show Sq _ _ _ _ _ _ _; refine sq_next ?_))
              with_reducible refine o_adds (y := fm3) (szA (szB (szB (szB f1 u4) f2) hls) (Nat.le_refl 2) (by decide)) ?_
              intro _
              repeat (with_reducible first | (show W _ _ (eval (.Name _ _) _) _ _; first | refine ld766_start ‹_› ?_ | refine ld766_texts ‹_› ?_ | refine ld766_words ‹_› ?_ | refine ld766_uses ‹_› ?_ | refine ld766_due ‹_› ?_ | refine ld766_user ‹_› ?_ | refine ld766_used ‹_› ?_ | refine ld766_line ‹_› ?_ | refine ld766_callers ‹_› ?_ | refine ld766_number ‹_› ?_ | refine ld766_leader ‹_› ?_ | refine ld766_ends ‹_› ?_ | refine gl766_sum ‹_› ‹_› ?_ | refine gl766_str ‹_› ‹_› ?_ | refine ld766_ways ‹_› ‹_› ‹_› ?_ | refine ld766_sizes ‹_› ‹_› ‹_› ?_ | refine ld766_name1 ‹_› ‹_› ?_ | refine ld766_name2 ‹_› ‹_› ?_) | (show W _ _ (eval _ _) _ _; first | (refine W_int ?_; intro _) | (refine W_str ?_; intro _) | refine W_callN ?_ | refine W_BinOp ?_ | refine W_sub ?_ | refine W_tupleN ?_ | refine W_listN ?_) | (show W _ _ (assign _ _ _) _ _; refine a_name ?_) | (show W _ _ (execs _ _) _ _; first | refine W_asg ?_ | refine W_if ?_ | refine W_ret ?_ | refine W_nil ?_ | refine W_asgSub ?_ | refine W_asgT ?_) | (show W _ _ (storeName _ _ _) _ _; first | (refine st766_due ‹_› ?_; intro _ _ _) | (refine st766_user ‹_› ?_; intro _ _ _) | (refine st766_used ‹_› ?_; intro _ _ _) | (refine st766_line ‹_› ?_; intro _ _ _) | (refine st766_callers ‹_› ?_; intro _ _ _) | (refine st766_number ‹_› ?_; intro _ _ _) | (refine st766_leader ‹_› ?_; intro _ _ _) | (refine st766_ends ‹_› ?_; intro _ _ _)) | (show W _ _ (isTrue _ _ _) _ _; first | refine T_cmp ?_ | refine T_bool ?_) | (show W _ _ (allTrue _ _ _) _ _; first | refine T_and ?_ | refine T_andNil ?_) | (show W _ _ (truthy _) _ _; refine t_bool ?_) | (show W _ _ (spliced _) _ _; first | refine W_sp ?_ | refine W_sp0 ?_) | (show W _ _ (compareOp _ _ _) _ _; first | refine o_eqs ?_ | refine o_gt ?_) | (show W _ _ (callWith _ _ _ _ _) _ _; first | refine W_cwT ?_ | refine W_cwB ?_ | refine W_cwB1 ?_) | (show W _ _ (binaryOp _ _ _) _ _; (refine o_add ?_; intro _)) | (show if _ = true then _ else _; first | refine ite_f (by with_unfolding_all rfl) ?_ | refine ite_t (by with_unfolding_all rfl) ?_) | (show Sq _ _ _ _ _ _ _; refine sq_next ?_))
              rename St _ _ _ _ _ => S27
              clear S26
              with_reducible refine W_callM ?_
              repeat (with_reducible first | (show W _ _ (eval (.Name _ _) _) _ _; first | refine ld766_start ‹_› ?_ | refine ld766_texts ‹_› ?_ | refine ld766_words ‹_› ?_ | refine ld766_uses ‹_› ?_ | refine ld766_due ‹_› ?_ | refine ld766_user ‹_› ?_ | refine ld766_used ‹_› ?_ | refine ld766_line ‹_› ?_ | refine ld766_callers ‹_› ?_ | refine ld766_number ‹_› ?_ | refine ld766_leader ‹_› ?_ | refine ld766_ends ‹_› ?_ | refine gl766_sum ‹_› ‹_› ?_ | refine gl766_str ‹_› ‹_› ?_ | refine ld766_ways ‹_› ‹_› ‹_› ?_ | refine ld766_sizes ‹_› ‹_› ‹_› ?_ | refine ld766_name1 ‹_› ‹_› ?_ | refine ld766_name2 ‹_› ‹_› ?_) | (show W _ _ (eval _ _) _ _; first | (refine W_int ?_; intro _) | (refine W_str ?_; intro _) | refine W_callN ?_ | refine W_BinOp ?_ | refine W_sub ?_ | refine W_tupleN ?_ | refine W_listN ?_) | (show W _ _ (assign _ _ _) _ _; refine a_name ?_) | (show W _ _ (execs _ _) _ _; first | refine W_asg ?_ | refine W_if ?_ | refine W_ret ?_ | refine W_nil ?_ | refine W_asgSub ?_ | refine W_asgT ?_) | (show W _ _ (storeName _ _ _) _ _; first | (refine st766_due ‹_› ?_; intro _ _ _) | (refine st766_user ‹_› ?_; intro _ _ _) | (refine st766_used ‹_› ?_; intro _ _ _) | (refine st766_line ‹_› ?_; intro _ _ _) | (refine st766_callers ‹_› ?_; intro _ _ _) | (refine st766_number ‹_› ?_; intro _ _ _) | (refine st766_leader ‹_› ?_; intro _ _ _) | (refine st766_ends ‹_› ?_; intro _ _ _)) | (show W _ _ (isTrue _ _ _) _ _; first | refine T_cmp ?_ | refine T_bool ?_) | (show W _ _ (allTrue _ _ _) _ _; first | refine T_and ?_ | refine T_andNil ?_) | (show W _ _ (truthy _) _ _; refine t_bool ?_) | (show W _ _ (spliced _) _ _; first | refine W_sp ?_ | refine W_sp0 ?_) | (show W _ _ (compareOp _ _ _) _ _; first | refine o_eqs ?_ | refine o_gt ?_) | (show W _ _ (callWith _ _ _ _ _) _ _; first | refine W_cwT ?_ | refine W_cwB ?_ | refine W_cwB1 ?_) | (show W _ _ (binaryOp _ _ _) _ _; (refine o_add ?_; intro _)) | (show if _ = true then _ else _; first | refine ite_f (by with_unfolding_all rfl) ?_ | refine ite_t (by with_unfolding_all rfl) ?_) | (show Sq _ _ _ _ _ _ _; refine sq_next ?_))
              with_reducible refine d_getm (St.get3 S27) Dcal ?_
              repeat (with_reducible first | (show W _ _ (eval (.Name _ _) _) _ _; first | refine ld766_start ‹_› ?_ | refine ld766_texts ‹_› ?_ | refine ld766_words ‹_› ?_ | refine ld766_uses ‹_› ?_ | refine ld766_due ‹_› ?_ | refine ld766_user ‹_› ?_ | refine ld766_used ‹_› ?_ | refine ld766_line ‹_› ?_ | refine ld766_callers ‹_› ?_ | refine ld766_number ‹_› ?_ | refine ld766_leader ‹_› ?_ | refine ld766_ends ‹_› ?_ | refine gl766_sum ‹_› ‹_› ?_ | refine gl766_str ‹_› ‹_› ?_ | refine ld766_ways ‹_› ‹_› ‹_› ?_ | refine ld766_sizes ‹_› ‹_› ‹_› ?_ | refine ld766_name1 ‹_› ‹_› ?_ | refine ld766_name2 ‹_› ‹_› ?_) | (show W _ _ (eval _ _) _ _; first | (refine W_int ?_; intro _) | (refine W_str ?_; intro _) | refine W_callN ?_ | refine W_BinOp ?_ | refine W_sub ?_ | refine W_tupleN ?_ | refine W_listN ?_) | (show W _ _ (assign _ _ _) _ _; refine a_name ?_) | (show W _ _ (execs _ _) _ _; first | refine W_asg ?_ | refine W_if ?_ | refine W_ret ?_ | refine W_nil ?_ | refine W_asgSub ?_ | refine W_asgT ?_) | (show W _ _ (storeName _ _ _) _ _; first | (refine st766_due ‹_› ?_; intro _ _ _) | (refine st766_user ‹_› ?_; intro _ _ _) | (refine st766_used ‹_› ?_; intro _ _ _) | (refine st766_line ‹_› ?_; intro _ _ _) | (refine st766_callers ‹_› ?_; intro _ _ _) | (refine st766_number ‹_› ?_; intro _ _ _) | (refine st766_leader ‹_› ?_; intro _ _ _) | (refine st766_ends ‹_› ?_; intro _ _ _)) | (show W _ _ (isTrue _ _ _) _ _; first | refine T_cmp ?_ | refine T_bool ?_) | (show W _ _ (allTrue _ _ _) _ _; first | refine T_and ?_ | refine T_andNil ?_) | (show W _ _ (truthy _) _ _; refine t_bool ?_) | (show W _ _ (spliced _) _ _; first | refine W_sp ?_ | refine W_sp0 ?_) | (show W _ _ (compareOp _ _ _) _ _; first | refine o_eqs ?_ | refine o_gt ?_) | (show W _ _ (callWith _ _ _ _ _) _ _; first | refine W_cwT ?_ | refine W_cwB ?_ | refine W_cwB1 ?_) | (show W _ _ (binaryOp _ _ _) _ _; (refine o_add ?_; intro _)) | (show if _ = true then _ else _; first | refine ite_f (by with_unfolding_all rfl) ?_ | refine ite_t (by with_unfolding_all rfl) ?_) | (show Sq _ _ _ _ _ _ _; refine sq_next ?_))
              with_reducible refine d_getD (a0 := 0) (St.get3 S27) Dcal fdc (intR _ _) ?_
              rintro vg ⟨tg, rfl⟩
              repeat (with_reducible first | (show W _ _ (eval (.Name _ _) _) _ _; first | refine ld766_start ‹_› ?_ | refine ld766_texts ‹_› ?_ | refine ld766_words ‹_› ?_ | refine ld766_uses ‹_› ?_ | refine ld766_due ‹_› ?_ | refine ld766_user ‹_› ?_ | refine ld766_used ‹_› ?_ | refine ld766_line ‹_› ?_ | refine ld766_callers ‹_› ?_ | refine ld766_number ‹_› ?_ | refine ld766_leader ‹_› ?_ | refine ld766_ends ‹_› ?_ | refine gl766_sum ‹_› ‹_› ?_ | refine gl766_str ‹_› ‹_› ?_ | refine ld766_ways ‹_› ‹_› ‹_› ?_ | refine ld766_sizes ‹_› ‹_› ‹_› ?_ | refine ld766_name1 ‹_› ‹_› ?_ | refine ld766_name2 ‹_› ‹_› ?_) | (show W _ _ (eval _ _) _ _; first | (refine W_int ?_; intro _) | (refine W_str ?_; intro _) | refine W_callN ?_ | refine W_BinOp ?_ | refine W_sub ?_ | refine W_tupleN ?_ | refine W_listN ?_) | (show W _ _ (assign _ _ _) _ _; refine a_name ?_) | (show W _ _ (execs _ _) _ _; first | refine W_asg ?_ | refine W_if ?_ | refine W_ret ?_ | refine W_nil ?_ | refine W_asgSub ?_ | refine W_asgT ?_) | (show W _ _ (storeName _ _ _) _ _; first | (refine st766_due ‹_› ?_; intro _ _ _) | (refine st766_user ‹_› ?_; intro _ _ _) | (refine st766_used ‹_› ?_; intro _ _ _) | (refine st766_line ‹_› ?_; intro _ _ _) | (refine st766_callers ‹_› ?_; intro _ _ _) | (refine st766_number ‹_› ?_; intro _ _ _) | (refine st766_leader ‹_› ?_; intro _ _ _) | (refine st766_ends ‹_› ?_; intro _ _ _)) | (show W _ _ (isTrue _ _ _) _ _; first | refine T_cmp ?_ | refine T_bool ?_) | (show W _ _ (allTrue _ _ _) _ _; first | refine T_and ?_ | refine T_andNil ?_) | (show W _ _ (truthy _) _ _; refine t_bool ?_) | (show W _ _ (spliced _) _ _; first | refine W_sp ?_ | refine W_sp0 ?_) | (show W _ _ (compareOp _ _ _) _ _; first | refine o_eqs ?_ | refine o_gt ?_) | (show W _ _ (callWith _ _ _ _ _) _ _; first | refine W_cwT ?_ | refine W_cwB ?_ | refine W_cwB1 ?_) | (show W _ _ (binaryOp _ _ _) _ _; (refine o_add ?_; intro _)) | (show if _ = true then _ else _; first | refine ite_f (by with_unfolding_all rfl) ?_ | refine ite_t (by with_unfolding_all rfl) ?_) | (show Sq _ _ _ _ _ _ _; refine sq_next ?_))
              with_reducible refine d_sub (S27.keep _ _ hea11) Dwy hwu ?_
              rintro vwu ⟨twu, rfl⟩
              repeat (with_reducible first | (show W _ _ (eval (.Name _ _) _) _ _; first | refine ld766_start ‹_› ?_ | refine ld766_texts ‹_› ?_ | refine ld766_words ‹_› ?_ | refine ld766_uses ‹_› ?_ | refine ld766_due ‹_› ?_ | refine ld766_user ‹_› ?_ | refine ld766_used ‹_› ?_ | refine ld766_line ‹_› ?_ | refine ld766_callers ‹_› ?_ | refine ld766_number ‹_› ?_ | refine ld766_leader ‹_› ?_ | refine ld766_ends ‹_› ?_ | refine gl766_sum ‹_› ‹_› ?_ | refine gl766_str ‹_› ‹_› ?_ | refine ld766_ways ‹_› ‹_› ‹_› ?_ | refine ld766_sizes ‹_› ‹_› ‹_› ?_ | refine ld766_name1 ‹_› ‹_› ?_ | refine ld766_name2 ‹_› ‹_› ?_) | (show W _ _ (eval _ _) _ _; first | (refine W_int ?_; intro _) | (refine W_str ?_; intro _) | refine W_callN ?_ | refine W_BinOp ?_ | refine W_sub ?_ | refine W_tupleN ?_ | refine W_listN ?_) | (show W _ _ (assign _ _ _) _ _; refine a_name ?_) | (show W _ _ (execs _ _) _ _; first | refine W_asg ?_ | refine W_if ?_ | refine W_ret ?_ | refine W_nil ?_ | refine W_asgSub ?_ | refine W_asgT ?_) | (show W _ _ (storeName _ _ _) _ _; first | (refine st766_due ‹_› ?_; intro _ _ _) | (refine st766_user ‹_› ?_; intro _ _ _) | (refine st766_used ‹_› ?_; intro _ _ _) | (refine st766_line ‹_› ?_; intro _ _ _) | (refine st766_callers ‹_› ?_; intro _ _ _) | (refine st766_number ‹_› ?_; intro _ _ _) | (refine st766_leader ‹_› ?_; intro _ _ _) | (refine st766_ends ‹_› ?_; intro _ _ _)) | (show W _ _ (isTrue _ _ _) _ _; first | refine T_cmp ?_ | refine T_bool ?_) | (show W _ _ (allTrue _ _ _) _ _; first | refine T_and ?_ | refine T_andNil ?_) | (show W _ _ (truthy _) _ _; refine t_bool ?_) | (show W _ _ (spliced _) _ _; first | refine W_sp ?_ | refine W_sp0 ?_) | (show W _ _ (compareOp _ _ _) _ _; first | refine o_eqs ?_ | refine o_gt ?_) | (show W _ _ (callWith _ _ _ _ _) _ _; first | refine W_cwT ?_ | refine W_cwB ?_ | refine W_cwB1 ?_) | (show W _ _ (binaryOp _ _ _) _ _; (refine o_add ?_; intro _)) | (show if _ = true then _ else _; first | refine ite_f (by with_unfolding_all rfl) ?_ | refine ite_t (by with_unfolding_all rfl) ?_) | (show Sq _ _ _ _ _ _ _; refine sq_next ?_))
              with_reducible refine d_set (St.get3 S27) Dcal (intR _ _) hcl ?_
              intro h₂₈ oc₂₈ g₂₈ D₂₈ sb₂₈
              have S28 := S27.upd3 sb₂₈.extBut g₂₈
              clear S27
              repeat (with_reducible first | (show W _ _ (eval (.Name _ _) _) _ _; first | refine ld766_start ‹_› ?_ | refine ld766_texts ‹_› ?_ | refine ld766_words ‹_› ?_ | refine ld766_uses ‹_› ?_ | refine ld766_due ‹_› ?_ | refine ld766_user ‹_› ?_ | refine ld766_used ‹_› ?_ | refine ld766_line ‹_› ?_ | refine ld766_callers ‹_› ?_ | refine ld766_number ‹_› ?_ | refine ld766_leader ‹_› ?_ | refine ld766_ends ‹_› ?_ | refine gl766_sum ‹_› ‹_› ?_ | refine gl766_str ‹_› ‹_› ?_ | refine ld766_ways ‹_› ‹_› ‹_› ?_ | refine ld766_sizes ‹_› ‹_› ‹_› ?_ | refine ld766_name1 ‹_› ‹_› ?_ | refine ld766_name2 ‹_› ‹_› ?_) | (show W _ _ (eval _ _) _ _; first | (refine W_int ?_; intro _) | (refine W_str ?_; intro _) | refine W_callN ?_ | refine W_BinOp ?_ | refine W_sub ?_ | refine W_tupleN ?_ | refine W_listN ?_) | (show W _ _ (assign _ _ _) _ _; refine a_name ?_) | (show W _ _ (execs _ _) _ _; first | refine W_asg ?_ | refine W_if ?_ | refine W_ret ?_ | refine W_nil ?_ | refine W_asgSub ?_ | refine W_asgT ?_) | (show W _ _ (storeName _ _ _) _ _; first | (refine st766_due ‹_› ?_; intro _ _ _) | (refine st766_user ‹_› ?_; intro _ _ _) | (refine st766_used ‹_› ?_; intro _ _ _) | (refine st766_line ‹_› ?_; intro _ _ _) | (refine st766_callers ‹_› ?_; intro _ _ _) | (refine st766_number ‹_› ?_; intro _ _ _) | (refine st766_leader ‹_› ?_; intro _ _ _) | (refine st766_ends ‹_› ?_; intro _ _ _)) | (show W _ _ (isTrue _ _ _) _ _; first | refine T_cmp ?_ | refine T_bool ?_) | (show W _ _ (allTrue _ _ _) _ _; first | refine T_and ?_ | refine T_andNil ?_) | (show W _ _ (truthy _) _ _; refine t_bool ?_) | (show W _ _ (spliced _) _ _; first | refine W_sp ?_ | refine W_sp0 ?_) | (show W _ _ (compareOp _ _ _) _ _; first | refine o_eqs ?_ | refine o_gt ?_) | (show W _ _ (callWith _ _ _ _ _) _ _; first | refine W_cwT ?_ | refine W_cwB ?_ | refine W_cwB1 ?_) | (show W _ _ (binaryOp _ _ _) _ _; (refine o_add ?_; intro _)) | (show if _ = true then _ else _; first | refine ite_f (by with_unfolding_all rfl) ?_ | refine ite_t (by with_unfolding_all rfl) ?_) | (show Sq _ _ _ _ _ _ _; refine sq_next ?_))
              refine hQi _ _ (fe_next (Ext.refl _) S28 ⟨oc₂₈, _, _, _, _, rfl, rfl, rfl, ?_⟩)
              rw [hcn, calStep, if_pos ⟨qe, by rw [ewu]; exact q2e⟩, ewu]
              exact D₂₈
            · have q2e : ¬ 0 < wu := of_decide_eq_false q2
              repeat (with_reducible first | (show W _ _ (eval (.Name _ _) _) _ _; first | refine ld766_start ‹_› ?_ | refine ld766_texts ‹_› ?_ | refine ld766_words ‹_› ?_ | refine ld766_uses ‹_› ?_ | refine ld766_due ‹_› ?_ | refine ld766_user ‹_› ?_ | refine ld766_used ‹_› ?_ | refine ld766_line ‹_› ?_ | refine ld766_callers ‹_› ?_ | refine ld766_number ‹_› ?_ | refine ld766_leader ‹_› ?_ | refine ld766_ends ‹_› ?_ | refine gl766_sum ‹_› ‹_› ?_ | refine gl766_str ‹_› ‹_› ?_ | refine ld766_ways ‹_› ‹_› ‹_› ?_ | refine ld766_sizes ‹_› ‹_› ‹_› ?_ | refine ld766_name1 ‹_› ‹_› ?_ | refine ld766_name2 ‹_› ‹_› ?_) | (show W _ _ (eval _ _) _ _; first | (refine W_int ?_; intro _) | (refine W_str ?_; intro _) | refine W_callN ?_ | refine W_BinOp ?_ | refine W_sub ?_ | refine W_tupleN ?_ | refine W_listN ?_) | (show W _ _ (assign _ _ _) _ _; refine a_name ?_) | (show W _ _ (execs _ _) _ _; first | refine W_asg ?_ | refine W_if ?_ | refine W_ret ?_ | refine W_nil ?_ | refine W_asgSub ?_ | refine W_asgT ?_) | (show W _ _ (storeName _ _ _) _ _; first | (refine st766_due ‹_› ?_; intro _ _ _) | (refine st766_user ‹_› ?_; intro _ _ _) | (refine st766_used ‹_› ?_; intro _ _ _) | (refine st766_line ‹_› ?_; intro _ _ _) | (refine st766_callers ‹_› ?_; intro _ _ _) | (refine st766_number ‹_› ?_; intro _ _ _) | (refine st766_leader ‹_› ?_; intro _ _ _) | (refine st766_ends ‹_› ?_; intro _ _ _)) | (show W _ _ (isTrue _ _ _) _ _; first | refine T_cmp ?_ | refine T_bool ?_) | (show W _ _ (allTrue _ _ _) _ _; first | refine T_and ?_ | refine T_andNil ?_) | (show W _ _ (truthy _) _ _; refine t_bool ?_) | (show W _ _ (spliced _) _ _; first | refine W_sp ?_ | refine W_sp0 ?_) | (show W _ _ (compareOp _ _ _) _ _; first | refine o_eqs ?_ | refine o_gt ?_) | (show W _ _ (callWith _ _ _ _ _) _ _; first | refine W_cwT ?_ | refine W_cwB ?_ | refine W_cwB1 ?_) | (show W _ _ (binaryOp _ _ _) _ _; (refine o_add ?_; intro _)) | (show if _ = true then _ else _; first | refine ite_f (by with_unfolding_all rfl) ?_ | refine ite_t (by with_unfolding_all rfl) ?_) | (show Sq _ _ _ _ _ _ _; refine sq_next ?_))
              refine hQi _ _ (fe_next (Ext.refl _) S26 ⟨oc, _, _, _, _, rfl, rfl, rfl, ?_⟩)
              rw [hcn, calStep, if_neg (by rw [ewu]; exact fun z => q2e z.2)]
              exact Dcal
          · have qe : ¬ pu.2.1 = u := by simpa using q
            repeat (with_reducible first | (show W _ _ (eval (.Name _ _) _) _ _; first | refine ld766_start ‹_› ?_ | refine ld766_texts ‹_› ?_ | refine ld766_words ‹_› ?_ | refine ld766_uses ‹_› ?_ | refine ld766_due ‹_› ?_ | refine ld766_user ‹_› ?_ | refine ld766_used ‹_› ?_ | refine ld766_line ‹_› ?_ | refine ld766_callers ‹_› ?_ | refine ld766_number ‹_› ?_ | refine ld766_leader ‹_› ?_ | refine ld766_ends ‹_› ?_ | refine gl766_sum ‹_› ‹_› ?_ | refine gl766_str ‹_› ‹_› ?_ | refine ld766_ways ‹_› ‹_› ‹_› ?_ | refine ld766_sizes ‹_› ‹_› ‹_› ?_ | refine ld766_name1 ‹_› ‹_› ?_ | refine ld766_name2 ‹_› ‹_› ?_) | (show W _ _ (eval _ _) _ _; first | (refine W_int ?_; intro _) | (refine W_str ?_; intro _) | refine W_callN ?_ | refine W_BinOp ?_ | refine W_sub ?_ | refine W_tupleN ?_ | refine W_listN ?_) | (show W _ _ (assign _ _ _) _ _; refine a_name ?_) | (show W _ _ (execs _ _) _ _; first | refine W_asg ?_ | refine W_if ?_ | refine W_ret ?_ | refine W_nil ?_ | refine W_asgSub ?_ | refine W_asgT ?_) | (show W _ _ (storeName _ _ _) _ _; first | (refine st766_due ‹_› ?_; intro _ _ _) | (refine st766_user ‹_› ?_; intro _ _ _) | (refine st766_used ‹_› ?_; intro _ _ _) | (refine st766_line ‹_› ?_; intro _ _ _) | (refine st766_callers ‹_› ?_; intro _ _ _) | (refine st766_number ‹_› ?_; intro _ _ _) | (refine st766_leader ‹_› ?_; intro _ _ _) | (refine st766_ends ‹_› ?_; intro _ _ _)) | (show W _ _ (isTrue _ _ _) _ _; first | refine T_cmp ?_ | refine T_bool ?_) | (show W _ _ (allTrue _ _ _) _ _; first | refine T_and ?_ | refine T_andNil ?_) | (show W _ _ (truthy _) _ _; refine t_bool ?_) | (show W _ _ (spliced _) _ _; first | refine W_sp ?_ | refine W_sp0 ?_) | (show W _ _ (compareOp _ _ _) _ _; first | refine o_eqs ?_ | refine o_gt ?_) | (show W _ _ (callWith _ _ _ _ _) _ _; first | refine W_cwT ?_ | refine W_cwB ?_ | refine W_cwB1 ?_) | (show W _ _ (binaryOp _ _ _) _ _; (refine o_add ?_; intro _)) | (show if _ = true then _ else _; first | refine ite_f (by with_unfolding_all rfl) ?_ | refine ite_t (by with_unfolding_all rfl) ?_) | (show Sq _ _ _ _ _ _ _; refine sq_next ?_))
            refine hQi _ _ (fe_next (Ext.refl _) S26 ⟨oc, _, _, _, _, rfl, rfl, rfl, ?_⟩)
            rw [hcn, calStep, if_neg (fun z => qe z.1)]
            exact Dcal
        · rintro h₂₄ g12 m mu e12 S24 ⟨oc, v5', v6', v7', v10', rfl, rfl, rfl, Dcal⟩
          rw [Usr.len, List.take_length] at Dcal
          clear S23
          obtain ⟨txu, htxu⟩ := ktx u hum
          obtain ⟨wdu, hwdu⟩ := kwd u hum
          obtain ⟨szu, hszu⟩ := look_some (l := sz) (k := u) (by rw [ksz]; exact nms_rvn hum)
          repeat (with_reducible first | (show W _ _ (eval (.Name _ _) _) _ _; first | refine ld766_start ‹_› ?_ | refine ld766_texts ‹_› ?_ | refine ld766_words ‹_› ?_ | refine ld766_uses ‹_› ?_ | refine ld766_due ‹_› ?_ | refine ld766_user ‹_› ?_ | refine ld766_used ‹_› ?_ | refine ld766_line ‹_› ?_ | refine ld766_callers ‹_› ?_ | refine ld766_number ‹_› ?_ | refine ld766_leader ‹_› ?_ | refine ld766_ends ‹_› ?_ | refine gl766_sum ‹_› ‹_› ?_ | refine gl766_str ‹_› ‹_› ?_ | refine ld766_ways ‹_› ‹_› ‹_› ?_ | refine ld766_sizes ‹_› ‹_› ‹_› ?_ | refine ld766_name1 ‹_› ‹_› ?_ | refine ld766_name2 ‹_› ‹_› ?_) | (show W _ _ (eval _ _) _ _; first | (refine W_int ?_; intro _) | (refine W_str ?_; intro _) | refine W_callN ?_ | refine W_BinOp ?_ | refine W_sub ?_ | refine W_tupleN ?_ | refine W_listN ?_) | (show W _ _ (assign _ _ _) _ _; refine a_name ?_) | (show W _ _ (execs _ _) _ _; first | refine W_asg ?_ | refine W_if ?_ | refine W_ret ?_ | refine W_nil ?_ | refine W_asgSub ?_ | refine W_asgT ?_) | (show W _ _ (storeName _ _ _) _ _; first | (refine st766_due ‹_› ?_; intro _ _ _) | (refine st766_user ‹_› ?_; intro _ _ _) | (refine st766_used ‹_› ?_; intro _ _ _) | (refine st766_line ‹_› ?_; intro _ _ _) | (refine st766_callers ‹_› ?_; intro _ _ _) | (refine st766_number ‹_› ?_; intro _ _ _) | (refine st766_leader ‹_› ?_; intro _ _ _) | (refine st766_ends ‹_› ?_; intro _ _ _)) | (show W _ _ (isTrue _ _ _) _ _; first | refine T_cmp ?_ | refine T_bool ?_) | (show W _ _ (allTrue _ _ _) _ _; first | refine T_and ?_ | refine T_andNil ?_) | (show W _ _ (truthy _) _ _; refine t_bool ?_) | (show W _ _ (spliced _) _ _; first | refine W_sp ?_ | refine W_sp0 ?_) | (show W _ _ (compareOp _ _ _) _ _; first | refine o_eqs ?_ | refine o_gt ?_) | (show W _ _ (callWith _ _ _ _ _) _ _; first | refine W_cwT ?_ | refine W_cwB ?_ | refine W_cwB1 ?_) | (show W _ _ (binaryOp _ _ _) _ _; (refine o_add ?_; intro _)) | (show if _ = true then _ else _; first | refine ite_f (by with_unfolding_all rfl) ?_ | refine ite_t (by with_unfolding_all rfl) ?_) | (show Sq _ _ _ _ _ _ _; refine sq_next ?_))
          refine ite_s (fun q => ?_) fun q => ?_
          · have qe : 0 < num := of_decide_eq_true q
            repeat (with_reducible first | (show W _ _ (eval (.Name _ _) _) _ _; first | refine ld766_start ‹_› ?_ | refine ld766_texts ‹_› ?_ | refine ld766_words ‹_› ?_ | refine ld766_uses ‹_› ?_ | refine ld766_due ‹_› ?_ | refine ld766_user ‹_› ?_ | refine ld766_used ‹_› ?_ | refine ld766_line ‹_› ?_ | refine ld766_callers ‹_› ?_ | refine ld766_number ‹_› ?_ | refine ld766_leader ‹_› ?_ | refine ld766_ends ‹_› ?_ | refine gl766_sum ‹_› ‹_› ?_ | refine gl766_str ‹_› ‹_› ?_ | refine ld766_ways ‹_› ‹_› ‹_› ?_ | refine ld766_sizes ‹_› ‹_› ‹_› ?_ | refine ld766_name1 ‹_› ‹_› ?_ | refine ld766_name2 ‹_› ‹_› ?_) | (show W _ _ (eval _ _) _ _; first | (refine W_int ?_; intro _) | (refine W_str ?_; intro _) | refine W_callN ?_ | refine W_BinOp ?_ | refine W_sub ?_ | refine W_tupleN ?_ | refine W_listN ?_) | (show W _ _ (assign _ _ _) _ _; refine a_name ?_) | (show W _ _ (execs _ _) _ _; first | refine W_asg ?_ | refine W_if ?_ | refine W_ret ?_ | refine W_nil ?_ | refine W_asgSub ?_ | refine W_asgT ?_) | (show W _ _ (storeName _ _ _) _ _; first | (refine st766_due ‹_› ?_; intro _ _ _) | (refine st766_user ‹_› ?_; intro _ _ _) | (refine st766_used ‹_› ?_; intro _ _ _) | (refine st766_line ‹_› ?_; intro _ _ _) | (refine st766_callers ‹_› ?_; intro _ _ _) | (refine st766_number ‹_› ?_; intro _ _ _) | (refine st766_leader ‹_› ?_; intro _ _ _) | (refine st766_ends ‹_› ?_; intro _ _ _)) | (show W _ _ (isTrue _ _ _) _ _; first | refine T_cmp ?_ | refine T_bool ?_) | (show W _ _ (allTrue _ _ _) _ _; first | refine T_and ?_ | refine T_andNil ?_) | (show W _ _ (truthy _) _ _; refine t_bool ?_) | (show W _ _ (spliced _) _ _; first | refine W_sp ?_ | refine W_sp0 ?_) | (show W _ _ (compareOp _ _ _) _ _; first | refine o_eqs ?_ | refine o_gt ?_) | (show W _ _ (callWith _ _ _ _ _) _ _; first | refine W_cwT ?_ | refine W_cwB ?_ | refine W_cwB1 ?_) | (show W _ _ (binaryOp _ _ _) _ _; (refine o_add ?_; intro _)) | (show if _ = true then _ else _; first | refine ite_f (by with_unfolding_all rfl) ?_ | refine ite_t (by with_unfolding_all rfl) ?_) | (show Sq _ _ _ _ _ _ _; refine sq_next ?_))
            with_reducible refine W_callM ?_
            repeat (with_reducible first | (show W _ _ (eval (.Name _ _) _) _ _; first | refine ld766_start ‹_› ?_ | refine ld766_texts ‹_› ?_ | refine ld766_words ‹_› ?_ | refine ld766_uses ‹_› ?_ | refine ld766_due ‹_› ?_ | refine ld766_user ‹_› ?_ | refine ld766_used ‹_› ?_ | refine ld766_line ‹_› ?_ | refine ld766_callers ‹_› ?_ | refine ld766_number ‹_› ?_ | refine ld766_leader ‹_› ?_ | refine ld766_ends ‹_› ?_ | refine gl766_sum ‹_› ‹_› ?_ | refine gl766_str ‹_› ‹_› ?_ | refine ld766_ways ‹_› ‹_› ‹_› ?_ | refine ld766_sizes ‹_› ‹_› ‹_› ?_ | refine ld766_name1 ‹_› ‹_› ?_ | refine ld766_name2 ‹_› ‹_› ?_) | (show W _ _ (eval _ _) _ _; first | (refine W_int ?_; intro _) | (refine W_str ?_; intro _) | refine W_callN ?_ | refine W_BinOp ?_ | refine W_sub ?_ | refine W_tupleN ?_ | refine W_listN ?_) | (show W _ _ (assign _ _ _) _ _; refine a_name ?_) | (show W _ _ (execs _ _) _ _; first | refine W_asg ?_ | refine W_if ?_ | refine W_ret ?_ | refine W_nil ?_ | refine W_asgSub ?_ | refine W_asgT ?_) | (show W _ _ (storeName _ _ _) _ _; first | (refine st766_due ‹_› ?_; intro _ _ _) | (refine st766_user ‹_› ?_; intro _ _ _) | (refine st766_used ‹_› ?_; intro _ _ _) | (refine st766_line ‹_› ?_; intro _ _ _) | (refine st766_callers ‹_› ?_; intro _ _ _) | (refine st766_number ‹_› ?_; intro _ _ _) | (refine st766_leader ‹_› ?_; intro _ _ _) | (refine st766_ends ‹_› ?_; intro _ _ _)) | (show W _ _ (isTrue _ _ _) _ _; first | refine T_cmp ?_ | refine T_bool ?_) | (show W _ _ (allTrue _ _ _) _ _; first | refine T_and ?_ | refine T_andNil ?_) | (show W _ _ (truthy _) _ _; refine t_bool ?_) | (show W _ _ (spliced _) _ _; first | refine W_sp ?_ | refine W_sp0 ?_) | (show W _ _ (compareOp _ _ _) _ _; first | refine o_eqs ?_ | refine o_gt ?_) | (show W _ _ (callWith _ _ _ _ _) _ _; first | refine W_cwT ?_ | refine W_cwB ?_ | refine W_cwB1 ?_) | (show W _ _ (binaryOp _ _ _) _ _; (refine o_add ?_; intro _)) | (show if _ = true then _ else _; first | refine ite_f (by with_unfolding_all rfl) ?_ | refine ite_t (by with_unfolding_all rfl) ?_) | (show Sq _ _ _ _ _ _ _; refine sq_next ?_))
            with_reducible refine d_sub (S24.keep _ _ (e11 _ _ hdt)) DRt htxu ?_
            rintro vtx ⟨tvtx, rfl⟩
            repeat (with_reducible first | (show W _ _ (eval (.Name _ _) _) _ _; first | refine ld766_start ‹_› ?_ | refine ld766_texts ‹_› ?_ | refine ld766_words ‹_› ?_ | refine ld766_uses ‹_› ?_ | refine ld766_due ‹_› ?_ | refine ld766_user ‹_› ?_ | refine ld766_used ‹_› ?_ | refine ld766_line ‹_› ?_ | refine ld766_callers ‹_› ?_ | refine ld766_number ‹_› ?_ | refine ld766_leader ‹_› ?_ | refine ld766_ends ‹_› ?_ | refine gl766_sum ‹_› ‹_› ?_ | refine gl766_str ‹_› ‹_› ?_ | refine ld766_ways ‹_› ‹_› ‹_› ?_ | refine ld766_sizes ‹_› ‹_› ‹_› ?_ | refine ld766_name1 ‹_› ‹_› ?_ | refine ld766_name2 ‹_› ‹_› ?_) | (show W _ _ (eval _ _) _ _; first | (refine W_int ?_; intro _) | (refine W_str ?_; intro _) | refine W_callN ?_ | refine W_BinOp ?_ | refine W_sub ?_ | refine W_tupleN ?_ | refine W_listN ?_) | (show W _ _ (assign _ _ _) _ _; refine a_name ?_) | (show W _ _ (execs _ _) _ _; first | refine W_asg ?_ | refine W_if ?_ | refine W_ret ?_ | refine W_nil ?_ | refine W_asgSub ?_ | refine W_asgT ?_) | (show W _ _ (storeName _ _ _) _ _; first | (refine st766_due ‹_› ?_; intro _ _ _) | (refine st766_user ‹_› ?_; intro _ _ _) | (refine st766_used ‹_› ?_; intro _ _ _) | (refine st766_line ‹_› ?_; intro _ _ _) | (refine st766_callers ‹_› ?_; intro _ _ _) | (refine st766_number ‹_› ?_; intro _ _ _) | (refine st766_leader ‹_› ?_; intro _ _ _) | (refine st766_ends ‹_› ?_; intro _ _ _)) | (show W _ _ (isTrue _ _ _) _ _; first | refine T_cmp ?_ | refine T_bool ?_) | (show W _ _ (allTrue _ _ _) _ _; first | refine T_and ?_ | refine T_andNil ?_) | (show W _ _ (truthy _) _ _; refine t_bool ?_) | (show W _ _ (spliced _) _ _; first | refine W_sp ?_ | refine W_sp0 ?_) | (show W _ _ (compareOp _ _ _) _ _; first | refine o_eqs ?_ | refine o_gt ?_) | (show W _ _ (callWith _ _ _ _ _) _ _; first | refine W_cwT ?_ | refine W_cwB ?_ | refine W_cwB1 ?_) | (show W _ _ (binaryOp _ _ _) _ _; (refine o_add ?_; intro _)) | (show if _ = true then _ else _; first | refine ite_f (by with_unfolding_all rfl) ?_ | refine ite_t (by with_unfolding_all rfl) ?_) | (show Sq _ _ _ _ _ _ _; refine sq_next ?_))
            with_reducible refine m_count ?_
            repeat (with_reducible first | (show W _ _ (eval (.Name _ _) _) _ _; first | refine ld766_start ‹_› ?_ | refine ld766_texts ‹_› ?_ | refine ld766_words ‹_› ?_ | refine ld766_uses ‹_› ?_ | refine ld766_due ‹_› ?_ | refine ld766_user ‹_› ?_ | refine ld766_used ‹_› ?_ | refine ld766_line ‹_› ?_ | refine ld766_callers ‹_› ?_ | refine ld766_number ‹_› ?_ | refine ld766_leader ‹_› ?_ | refine ld766_ends ‹_› ?_ | refine gl766_sum ‹_› ‹_› ?_ | refine gl766_str ‹_› ‹_› ?_ | refine ld766_ways ‹_› ‹_› ‹_› ?_ | refine ld766_sizes ‹_› ‹_› ‹_› ?_ | refine ld766_name1 ‹_› ‹_› ?_ | refine ld766_name2 ‹_› ‹_› ?_) | (show W _ _ (eval _ _) _ _; first | (refine W_int ?_; intro _) | (refine W_str ?_; intro _) | refine W_callN ?_ | refine W_BinOp ?_ | refine W_sub ?_ | refine W_tupleN ?_ | refine W_listN ?_) | (show W _ _ (assign _ _ _) _ _; refine a_name ?_) | (show W _ _ (execs _ _) _ _; first | refine W_asg ?_ | refine W_if ?_ | refine W_ret ?_ | refine W_nil ?_ | refine W_asgSub ?_ | refine W_asgT ?_) | (show W _ _ (storeName _ _ _) _ _; first | (refine st766_due ‹_› ?_; intro _ _ _) | (refine st766_user ‹_› ?_; intro _ _ _) | (refine st766_used ‹_› ?_; intro _ _ _) | (refine st766_line ‹_› ?_; intro _ _ _) | (refine st766_callers ‹_› ?_; intro _ _ _) | (refine st766_number ‹_› ?_; intro _ _ _) | (refine st766_leader ‹_› ?_; intro _ _ _) | (refine st766_ends ‹_› ?_; intro _ _ _)) | (show W _ _ (isTrue _ _ _) _ _; first | refine T_cmp ?_ | refine T_bool ?_) | (show W _ _ (allTrue _ _ _) _ _; first | refine T_and ?_ | refine T_andNil ?_) | (show W _ _ (truthy _) _ _; refine t_bool ?_) | (show W _ _ (spliced _) _ _; first | refine W_sp ?_ | refine W_sp0 ?_) | (show W _ _ (compareOp _ _ _) _ _; first | refine o_eqs ?_ | refine o_gt ?_) | (show W _ _ (callWith _ _ _ _ _) _ _; first | refine W_cwT ?_ | refine W_cwB ?_ | refine W_cwB1 ?_) | (show W _ _ (binaryOp _ _ _) _ _; (refine o_add ?_; intro _)) | (show if _ = true then _ else _; first | refine ite_f (by with_unfolding_all rfl) ?_ | refine ite_t (by with_unfolding_all rfl) ?_) | (show Sq _ _ _ _ _ _ _; refine sq_next ?_))
            with_reducible refine c_count ?_
            intro _
            rw [show Txt.count (mkS txu) (mkS [10]) = ((txu.count 10 : Nat) : Int) from congrArg Nat.cast (count_one _ 10)]
            repeat (with_reducible first | (show W _ _ (eval (.Name _ _) _) _ _; first | refine ld766_start ‹_› ?_ | refine ld766_texts ‹_› ?_ | refine ld766_words ‹_› ?_ | refine ld766_uses ‹_› ?_ | refine ld766_due ‹_› ?_ | refine ld766_user ‹_› ?_ | refine ld766_used ‹_› ?_ | refine ld766_line ‹_› ?_ | refine ld766_callers ‹_› ?_ | refine ld766_number ‹_› ?_ | refine ld766_leader ‹_› ?_ | refine ld766_ends ‹_› ?_ | refine gl766_sum ‹_› ‹_› ?_ | refine gl766_str ‹_› ‹_› ?_ | refine ld766_ways ‹_› ‹_› ‹_› ?_ | refine ld766_sizes ‹_› ‹_› ‹_› ?_ | refine ld766_name1 ‹_› ‹_› ?_ | refine ld766_name2 ‹_› ‹_› ?_) | (show W _ _ (eval _ _) _ _; first | (refine W_int ?_; intro _) | (refine W_str ?_; intro _) | refine W_callN ?_ | refine W_BinOp ?_ | refine W_sub ?_ | refine W_tupleN ?_ | refine W_listN ?_) | (show W _ _ (assign _ _ _) _ _; refine a_name ?_) | (show W _ _ (execs _ _) _ _; first | refine W_asg ?_ | refine W_if ?_ | refine W_ret ?_ | refine W_nil ?_ | refine W_asgSub ?_ | refine W_asgT ?_) | (show W _ _ (storeName _ _ _) _ _; first | (refine st766_due ‹_› ?_; intro _ _ _) | (refine st766_user ‹_› ?_; intro _ _ _) | (refine st766_used ‹_› ?_; intro _ _ _) | (refine st766_line ‹_› ?_; intro _ _ _) | (refine st766_callers ‹_› ?_; intro _ _ _) | (refine st766_number ‹_› ?_; intro _ _ _) | (refine st766_leader ‹_› ?_; intro _ _ _) | (refine st766_ends ‹_› ?_; intro _ _ _)) | (show W _ _ (isTrue _ _ _) _ _; first | refine T_cmp ?_ | refine T_bool ?_) | (show W _ _ (allTrue _ _ _) _ _; first | refine T_and ?_ | refine T_andNil ?_) | (show W _ _ (truthy _) _ _; refine t_bool ?_) | (show W _ _ (spliced _) _ _; first | refine W_sp ?_ | refine W_sp0 ?_) | (show W _ _ (compareOp _ _ _) _ _; first | refine o_eqs ?_ | refine o_gt ?_) | (show W _ _ (callWith _ _ _ _ _) _ _; first | refine W_cwT ?_ | refine W_cwB ?_ | refine W_cwB1 ?_) | (show W _ _ (binaryOp _ _ _) _ _; (refine o_add ?_; intro _)) | (show if _ = true then _ else _; first | refine ite_f (by with_unfolding_all rfl) ?_ | refine ite_t (by with_unfolding_all rfl) ?_) | (show Sq _ _ _ _ _ _ _; refine sq_next ?_))
            rename St _ _ _ _ _ => S25
            clear S24
            have hmo : ∀ b, IntMulOk num b := fun b => IntMulOk.of_left (bits_small hnb.1 hnb.2)
            with_reducible refine o_mul (hmo _) ?_
            intro _
            repeat (with_reducible first | (show W _ _ (eval (.Name _ _) _) _ _; first | refine ld766_start ‹_› ?_ | refine ld766_texts ‹_› ?_ | refine ld766_words ‹_› ?_ | refine ld766_uses ‹_› ?_ | refine ld766_due ‹_› ?_ | refine ld766_user ‹_› ?_ | refine ld766_used ‹_› ?_ | refine ld766_line ‹_› ?_ | refine ld766_callers ‹_› ?_ | refine ld766_number ‹_› ?_ | refine ld766_leader ‹_› ?_ | refine ld766_ends ‹_› ?_ | refine gl766_sum ‹_› ‹_› ?_ | refine gl766_str ‹_› ‹_› ?_ | refine ld766_ways ‹_› ‹_› ‹_› ?_ | refine ld766_sizes ‹_› ‹_› ‹_› ?_ | refine ld766_name1 ‹_› ‹_› ?_ | refine ld766_name2 ‹_› ‹_› ?_) | (show W _ _ (eval _ _) _ _; first | (refine W_int ?_; intro _) | (refine W_str ?_; intro _) | refine W_callN ?_ | refine W_BinOp ?_ | refine W_sub ?_ | refine W_tupleN ?_ | refine W_listN ?_) | (show W _ _ (assign _ _ _) _ _; refine a_name ?_) | (show W _ _ (execs _ _) _ _; first | refine W_asg ?_ | refine W_if ?_ | refine W_ret ?_ | refine W_nil ?_ | refine W_asgSub ?_ | refine W_asgT ?_) | (show W _ _ (storeName _ _ _) _ _; first | (refine st766_due ‹_› ?_; intro _ _ _) | (refine st766_user ‹_› ?_; intro _ _ _) | (refine st766_used ‹_› ?_; intro _ _ _) | (refine st766_line ‹_› ?_; intro _ _ _) | (refine st766_callers ‹_› ?_; intro _ _ _) | (refine st766_number ‹_› ?_; intro _ _ _) | (refine st766_leader ‹_› ?_; intro _ _ _) | (refine st766_ends ‹_› ?_; intro _ _ _)) | (show W _ _ (isTrue _ _ _) _ _; first | refine T_cmp ?_ | refine T_bool ?_) | (show W _ _ (allTrue _ _ _) _ _; first | refine T_and ?_ | refine T_andNil ?_) | (show W _ _ (truthy _) _ _; refine t_bool ?_) | (show W _ _ (spliced _) _ _; first | refine W_sp ?_ | refine W_sp0 ?_) | (show W _ _ (compareOp _ _ _) _ _; first | refine o_eqs ?_ | refine o_gt ?_) | (show W _ _ (callWith _ _ _ _ _) _ _; first | refine W_cwT ?_ | refine W_cwB ?_ | refine W_cwB1 ?_) | (show W _ _ (binaryOp _ _ _) _ _; (refine o_add ?_; intro _)) | (show if _ = true then _ else _; first | refine ite_f (by with_unfolding_all rfl) ?_ | refine ite_t (by with_unfolding_all rfl) ?_) | (show Sq _ _ _ _ _ _ _; refine sq_next ?_))
            with_reducible refine d_sub (S25.keep _ _ (e11 _ _ hdw)) DRw hwdu ?_
            rintro vwd ⟨tvwd, rfl⟩
            with_reducible refine o_mul (hmo _) ?_
            intro _
            repeat (with_reducible first | (show W _ _ (eval (.Name _ _) _) _ _; first | refine ld766_start ‹_› ?_ | refine ld766_texts ‹_› ?_ | refine ld766_words ‹_› ?_ | refine ld766_uses ‹_› ?_ | refine ld766_due ‹_› ?_ | refine ld766_user ‹_› ?_ | refine ld766_used ‹_› ?_ | refine ld766_line ‹_› ?_ | refine ld766_callers ‹_› ?_ | refine ld766_number ‹_› ?_ | refine ld766_leader ‹_› ?_ | refine ld766_ends ‹_› ?_ | refine gl766_sum ‹_› ‹_› ?_ | refine gl766_str ‹_› ‹_› ?_ | refine ld766_ways ‹_› ‹_› ‹_› ?_ | refine ld766_sizes ‹_› ‹_› ‹_› ?_ | refine ld766_name1 ‹_› ‹_› ?_ | refine ld766_name2 ‹_› ‹_› ?_) | (show W _ _ (eval _ _) _ _; first | (refine W_int ?_; intro _) | (refine W_str ?_; intro _) | refine W_callN ?_ | refine W_BinOp ?_ | refine W_sub ?_ | refine W_tupleN ?_ | refine W_listN ?_) | (show W _ _ (assign _ _ _) _ _; refine a_name ?_) | (show W _ _ (execs _ _) _ _; first | refine W_asg ?_ | refine W_if ?_ | refine W_ret ?_ | refine W_nil ?_ | refine W_asgSub ?_ | refine W_asgT ?_) | (show W _ _ (storeName _ _ _) _ _; first | (refine st766_due ‹_› ?_; intro _ _ _) | (refine st766_user ‹_› ?_; intro _ _ _) | (refine st766_used ‹_› ?_; intro _ _ _) | (refine st766_line ‹_› ?_; intro _ _ _) | (refine st766_callers ‹_› ?_; intro _ _ _) | (refine st766_number ‹_› ?_; intro _ _ _) | (refine st766_leader ‹_› ?_; intro _ _ _) | (refine st766_ends ‹_› ?_; intro _ _ _)) | (show W _ _ (isTrue _ _ _) _ _; first | refine T_cmp ?_ | refine T_bool ?_) | (show W _ _ (allTrue _ _ _) _ _; first | refine T_and ?_ | refine T_andNil ?_) | (show W _ _ (truthy _) _ _; refine t_bool ?_) | (show W _ _ (spliced _) _ _; first | refine W_sp ?_ | refine W_sp0 ?_) | (show W _ _ (compareOp _ _ _) _ _; first | refine o_eqs ?_ | refine o_gt ?_) | (show W _ _ (callWith _ _ _ _ _) _ _; first | refine W_cwT ?_ | refine W_cwB ?_ | refine W_cwB1 ?_) | (show W _ _ (binaryOp _ _ _) _ _; (refine o_add ?_; intro _)) | (show if _ = true then _ else _; first | refine ite_f (by with_unfolding_all rfl) ?_ | refine ite_t (by with_unfolding_all rfl) ?_) | (show Sq _ _ _ _ _ _ _; refine sq_next ?_))
            with_reducible refine d_sub (S25.keep _ _ heb11) Dsz hszu ?_
            rintro vsz ⟨tvsz, rfl⟩
            with_reducible refine o_mul (hmo _) ?_
            intro _
            repeat (with_reducible first | (show W _ _ (eval (.Name _ _) _) _ _; first | refine ld766_start ‹_› ?_ | refine ld766_texts ‹_› ?_ | refine ld766_words ‹_› ?_ | refine ld766_uses ‹_› ?_ | refine ld766_due ‹_› ?_ | refine ld766_user ‹_› ?_ | refine ld766_used ‹_› ?_ | refine ld766_line ‹_› ?_ | refine ld766_callers ‹_› ?_ | refine ld766_number ‹_› ?_ | refine ld766_leader ‹_› ?_ | refine ld766_ends ‹_› ?_ | refine gl766_sum ‹_› ‹_› ?_ | refine gl766_str ‹_› ‹_› ?_ | refine ld766_ways ‹_› ‹_› ‹_› ?_ | refine ld766_sizes ‹_› ‹_› ‹_› ?_ | refine ld766_name1 ‹_› ‹_› ?_ | refine ld766_name2 ‹_› ‹_› ?_) | (show W _ _ (eval _ _) _ _; first | (refine W_int ?_; intro _) | (refine W_str ?_; intro _) | refine W_callN ?_ | refine W_BinOp ?_ | refine W_sub ?_ | refine W_tupleN ?_ | refine W_listN ?_) | (show W _ _ (assign _ _ _) _ _; refine a_name ?_) | (show W _ _ (execs _ _) _ _; first | refine W_asg ?_ | refine W_if ?_ | refine W_ret ?_ | refine W_nil ?_ | refine W_asgSub ?_ | refine W_asgT ?_) | (show W _ _ (storeName _ _ _) _ _; first | (refine st766_due ‹_› ?_; intro _ _ _) | (refine st766_user ‹_› ?_; intro _ _ _) | (refine st766_used ‹_› ?_; intro _ _ _) | (refine st766_line ‹_› ?_; intro _ _ _) | (refine st766_callers ‹_› ?_; intro _ _ _) | (refine st766_number ‹_› ?_; intro _ _ _) | (refine st766_leader ‹_› ?_; intro _ _ _) | (refine st766_ends ‹_› ?_; intro _ _ _)) | (show W _ _ (isTrue _ _ _) _ _; first | refine T_cmp ?_ | refine T_bool ?_) | (show W _ _ (allTrue _ _ _) _ _; first | refine T_and ?_ | refine T_andNil ?_) | (show W _ _ (truthy _) _ _; refine t_bool ?_) | (show W _ _ (spliced _) _ _; first | refine W_sp ?_ | refine W_sp0 ?_) | (show W _ _ (compareOp _ _ _) _ _; first | refine o_eqs ?_ | refine o_gt ?_) | (show W _ _ (callWith _ _ _ _ _) _ _; first | refine W_cwT ?_ | refine W_cwB ?_ | refine W_cwB1 ?_) | (show W _ _ (binaryOp _ _ _) _ _; (refine o_add ?_; intro _)) | (show if _ = true then _ else _; first | refine ite_f (by with_unfolding_all rfl) ?_ | refine ite_t (by with_unfolding_all rfl) ?_) | (show Sq _ _ _ _ _ _ _; refine sq_next ?_))
            refine tupK S25 ?_
            intro h₂₆ g13 T26 _ eg13 hT26 S26
            clear S25
            replace S26 : St g13 L h₂₆ _ [(dc, oc), p, (L + 3, on'), (ec, odu)] := S26.perm ((List.Perm.cons _ (.swap _ _ _)).trans (.swap _ _ _))
            obtain ⟨g14, eg14, hdc, S27⟩ := S26.freeze0
            clear S26
            replace hcw := eg14 _ _ (eg13 _ _ hcw)
            replace hcs := eg14 _ _ (eg13 _ _ hcs)
            repeat (with_reducible first | (show W _ _ (eval (.Name _ _) _) _ _; first | refine ld766_start ‹_› ?_ | refine ld766_texts ‹_› ?_ | refine ld766_words ‹_› ?_ | refine ld766_uses ‹_› ?_ | refine ld766_due ‹_› ?_ | refine ld766_user ‹_› ?_ | refine ld766_used ‹_› ?_ | refine ld766_line ‹_› ?_ | refine ld766_callers ‹_› ?_ | refine ld766_number ‹_› ?_ | refine ld766_leader ‹_› ?_ | refine ld766_ends ‹_› ?_ | refine gl766_sum ‹_› ‹_› ?_ | refine gl766_str ‹_› ‹_› ?_ | refine ld766_ways ‹_› ‹_› ‹_› ?_ | refine ld766_sizes ‹_› ‹_› ‹_› ?_ | refine ld766_name1 ‹_› ‹_› ?_ | refine ld766_name2 ‹_› ‹_› ?_) | (show W _ _ (eval _ _) _ _; first | (refine W_int ?_; intro _) | (refine W_str ?_; intro _) | refine W_callN ?_ | refine W_BinOp ?_ | refine W_sub ?_ | refine W_tupleN ?_ | refine W_listN ?_) | (show W _ _ (assign _ _ _) _ _; refine a_name ?_) | (show W _ _ (execs _ _) _ _; first | refine W_asg ?_ | refine W_if ?_ | refine W_ret ?_ | refine W_nil ?_ | refine W_asgSub ?_ | refine W_asgT ?_) | (show W _ _ (storeName _ _ _) _ _; first | (refine st766_due ‹_› ?_; intro _ _ _) | (refine st766_user ‹_› ?_; intro _ _ _) | (refine st766_used ‹_› ?_; intro _ _ _) | (refine st766_line ‹_› ?_; intro _ _ _) | (refine st766_callers ‹_› ?_; intro _ _ _) | (refine st766_number ‹_› ?_; intro _ _ _) | (refine st766_leader ‹_› ?_; intro _ _ _) | (refine st766_ends ‹_› ?_; intro _ _ _)) | (show W _ _ (isTrue _ _ _) _ _; first | refine T_cmp ?_ | refine T_bool ?_) | (show W _ _ (allTrue _ _ _) _ _; first | refine T_and ?_ | refine T_andNil ?_) | (show W _ _ (truthy _) _ _; refine t_bool ?_) | (show W _ _ (spliced _) _ _; first | refine W_sp ?_ | refine W_sp0 ?_) | (show W _ _ (compareOp _ _ _) _ _; first | refine o_eqs ?_ | refine o_gt ?_) | (show W _ _ (callWith _ _ _ _ _) _ _; first | refine W_cwT ?_ | refine W_cwB ?_ | refine W_cwB1 ?_) | (show W _ _ (binaryOp _ _ _) _ _; (refine o_add ?_; intro _)) | (show if _ = true then _ else _; first | refine ite_f (by with_unfolding_all rfl) ?_ | refine ite_t (by with_unfolding_all rfl) ?_) | (show Sq _ _ _ _ _ _ _; refine sq_next ?_))
            have D14 : DR w (RowAt w g14) odu due := Ddu11.mono fun _ _ r => r.ext (eg13.trans eg14)
            have R14 : RowAt w g14 (.ref T26) ⟨num * ((txu.count 10 : Nat) : Int), num, num * wdu, num * szu, calOf ws us u⟩ := ⟨T26, dc, _, _, _, _, rfl, eg14 _ _ hT26, oc, hdc, Dcal, fdc⟩
            with_reducible refine d_set (St.get2 S27) D14 R14 hdl ?_
            intro h₂₈ od₂₈ g₂₈ D₂₈ sb₂₈
            have S28 := S27.upd2 sb₂₈.extBut g₂₈
            clear S27
            repeat (with_reducible first | (show W _ _ (eval (.Name _ _) _) _ _; first | refine ld766_start ‹_› ?_ | refine ld766_texts ‹_› ?_ | refine ld766_words ‹_› ?_ | refine ld766_uses ‹_› ?_ | refine ld766_due ‹_› ?_ | refine ld766_user ‹_› ?_ | refine ld766_used ‹_› ?_ | refine ld766_line ‹_› ?_ | refine ld766_callers ‹_› ?_ | refine ld766_number ‹_› ?_ | refine ld766_leader ‹_› ?_ | refine ld766_ends ‹_› ?_ | refine gl766_sum ‹_› ‹_› ?_ | refine gl766_str ‹_› ‹_› ?_ | refine ld766_ways ‹_› ‹_› ‹_› ?_ | refine ld766_sizes ‹_› ‹_› ‹_› ?_ | refine ld766_name1 ‹_› ‹_› ?_ | refine ld766_name2 ‹_› ‹_› ?_) | (show W _ _ (eval _ _) _ _; first | (refine W_int ?_; intro _) | (refine W_str ?_; intro _) | refine W_callN ?_ | refine W_BinOp ?_ | refine W_sub ?_ | refine W_tupleN ?_ | refine W_listN ?_) | (show W _ _ (assign _ _ _) _ _; refine a_name ?_) | (show W _ _ (execs _ _) _ _; first | refine W_asg ?_ | refine W_if ?_ | refine W_ret ?_ | refine W_nil ?_ | refine W_asgSub ?_ | refine W_asgT ?_) | (show W _ _ (storeName _ _ _) _ _; first | (refine st766_due ‹_› ?_; intro _ _ _) | (refine st766_user ‹_› ?_; intro _ _ _) | (refine st766_used ‹_› ?_; intro _ _ _) | (refine st766_line ‹_› ?_; intro _ _ _) | (refine st766_callers ‹_› ?_; intro _ _ _) | (refine st766_number ‹_› ?_; intro _ _ _) | (refine st766_leader ‹_› ?_; intro _ _ _) | (refine st766_ends ‹_› ?_; intro _ _ _)) | (show W _ _ (isTrue _ _ _) _ _; first | refine T_cmp ?_ | refine T_bool ?_) | (show W _ _ (allTrue _ _ _) _ _; first | refine T_and ?_ | refine T_andNil ?_) | (show W _ _ (truthy _) _ _; refine t_bool ?_) | (show W _ _ (spliced _) _ _; first | refine W_sp ?_ | refine W_sp0 ?_) | (show W _ _ (compareOp _ _ _) _ _; first | refine o_eqs ?_ | refine o_gt ?_) | (show W _ _ (callWith _ _ _ _ _) _ _; first | refine W_cwT ?_ | refine W_cwB ?_ | refine W_cwB1 ?_) | (show W _ _ (binaryOp _ _ _) _ _; (refine o_add ?_; intro _)) | (show if _ = true then _ else _; first | refine ite_f (by with_unfolding_all rfl) ?_ | refine ite_t (by with_unfolding_all rfl) ?_) | (show Sq _ _ _ _ _ _ _; refine sq_next ?_))
            refine hQ _ _ (fe_next ((eg11.trans eg13).trans eg14) S28 ⟨on', _, od₂₈, _, _, _, _, _, _, _, rfl, rfl, don', ?_⟩)
            rw [hdn, dueStep, if_pos qe, show (look tx u).getD [] = txu from getD_some htxu, show vAt wd u = wdu from getD_some hwdu, show vAt sz u = szu from getD_some hszu]
            exact D₂₈
          · have qe : ¬ 0 < num := of_decide_eq_false q
            repeat (with_reducible first | (show W _ _ (eval (.Name _ _) _) _ _; first | refine ld766_start ‹_› ?_ | refine ld766_texts ‹_› ?_ | refine ld766_words ‹_› ?_ | refine ld766_uses ‹_› ?_ | refine ld766_due ‹_› ?_ | refine ld766_user ‹_› ?_ | refine ld766_used ‹_› ?_ | refine ld766_line ‹_› ?_ | refine ld766_callers ‹_› ?_ | refine ld766_number ‹_› ?_ | refine ld766_leader ‹_› ?_ | refine ld766_ends ‹_› ?_ | refine gl766_sum ‹_› ‹_› ?_ | refine gl766_str ‹_› ‹_› ?_ | refine ld766_ways ‹_› ‹_› ‹_› ?_ | refine ld766_sizes ‹_› ‹_› ‹_› ?_ | refine ld766_name1 ‹_› ‹_› ?_ | refine ld766_name2 ‹_› ‹_› ?_) | (show W _ _ (eval _ _) _ _; first | (refine W_int ?_; intro _) | (refine W_str ?_; intro _) | refine W_callN ?_ | refine W_BinOp ?_ | refine W_sub ?_ | refine W_tupleN ?_ | refine W_listN ?_) | (show W _ _ (assign _ _ _) _ _; refine a_name ?_) | (show W _ _ (execs _ _) _ _; first | refine W_asg ?_ | refine W_if ?_ | refine W_ret ?_ | refine W_nil ?_ | refine W_asgSub ?_ | refine W_asgT ?_) | (show W _ _ (storeName _ _ _) _ _; first | (refine st766_due ‹_› ?_; intro _ _ _) | (refine st766_user ‹_› ?_; intro _ _ _) | (refine st766_used ‹_› ?_; intro _ _ _) | (refine st766_line ‹_› ?_; intro _ _ _) | (refine st766_callers ‹_› ?_; intro _ _ _) | (refine st766_number ‹_› ?_; intro _ _ _) | (refine st766_leader ‹_› ?_; intro _ _ _) | (refine st766_ends ‹_› ?_; intro _ _ _)) | (show W _ _ (isTrue _ _ _) _ _; first | refine T_cmp ?_ | refine T_bool ?_) | (show W _ _ (allTrue _ _ _) _ _; first | refine T_and ?_ | refine T_andNil ?_) | (show W _ _ (truthy _) _ _; refine t_bool ?_) | (show W _ _ (spliced _) _ _; first | refine W_sp ?_ | refine W_sp0 ?_) | (show W _ _ (compareOp _ _ _) _ _; first | refine o_eqs ?_ | refine o_gt ?_) | (show W _ _ (callWith _ _ _ _ _) _ _; first | refine W_cwT ?_ | refine W_cwB ?_ | refine W_cwB1 ?_) | (show W _ _ (binaryOp _ _ _) _ _; (refine o_add ?_; intro _)) | (show if _ = true then _ else _; first | refine ite_f (by with_unfolding_all rfl) ?_ | refine ite_t (by with_unfolding_all rfl) ?_) | (show Sq _ _ _ _ _ _ _; refine sq_next ?_))
            replace S24 : St _ L h₂₄ _ [(dc, oc), p, (L + 3, on'), (ec, odu)] := S24.perm ((List.Perm.cons _ (.swap _ _ _)).trans (.swap _ _ _))
            refine hQ _ _ (fe_next eg11 S24.drop0 ⟨on', _, odu, _, _, _, _, _, _, _, rfl, rfl, don', ?_⟩)
            rw [hdn, dueStep, if_neg qe]
            exact Ddu11
      · rintro h₁₈ g10 m mu e10 S18 ⟨on, vn, odu, v5, v6, v7, v8, v9, v10, v11, rfl, rfl, don, Ddu⟩
        rw [List.take_length] at Ddu
        clear S17
        repeat (with_reducible first | (show W _ _ (eval (.Name _ _) _) _ _; first | refine ld766_start ‹_› ?_ | refine ld766_texts ‹_› ?_ | refine ld766_words ‹_› ?_ | refine ld766_uses ‹_› ?_ | refine ld766_due ‹_› ?_ | refine ld766_user ‹_› ?_ | refine ld766_used ‹_› ?_ | refine ld766_line ‹_› ?_ | refine ld766_callers ‹_› ?_ | refine ld766_number ‹_› ?_ | refine ld766_leader ‹_› ?_ | refine ld766_ends ‹_› ?_ | refine gl766_sum ‹_› ‹_› ?_ | refine gl766_str ‹_› ‹_› ?_ | refine ld766_ways ‹_› ‹_› ‹_› ?_ | refine ld766_sizes ‹_› ‹_› ‹_› ?_ | refine ld766_name1 ‹_› ‹_› ?_ | refine ld766_name2 ‹_› ‹_› ?_) | (show W _ _ (eval _ _) _ _; first | (refine W_int ?_; intro _) | (refine W_str ?_; intro _) | refine W_callN ?_ | refine W_BinOp ?_ | refine W_sub ?_ | refine W_tupleN ?_ | refine W_listN ?_) | (show W _ _ (assign _ _ _) _ _; refine a_name ?_) | (show W _ _ (execs _ _) _ _; first | refine W_asg ?_ | refine W_if ?_ | refine W_ret ?_ | refine W_nil ?_ | refine W_asgSub ?_ | refine W_asgT ?_) | (show W _ _ (storeName _ _ _) _ _; first | (refine st766_due ‹_› ?_; intro _ _ _) | (refine st766_user ‹_› ?_; intro _ _ _) | (refine st766_used ‹_› ?_; intro _ _ _) | (refine st766_line ‹_› ?_; intro _ _ _) | (refine st766_callers ‹_› ?_; intro _ _ _) | (refine st766_number ‹_› ?_; intro _ _ _) | (refine st766_leader ‹_› ?_; intro _ _ _) | (refine st766_ends ‹_› ?_; intro _ _ _)) | (show W _ _ (isTrue _ _ _) _ _; first | refine T_cmp ?_ | refine T_bool ?_) | (show W _ _ (allTrue _ _ _) _ _; first | refine T_and ?_ | refine T_andNil ?_) | (show W _ _ (truthy _) _ _; refine t_bool ?_) | (show W _ _ (spliced _) _ _; first | refine W_sp ?_ | refine W_sp0 ?_) | (show W _ _ (compareOp _ _ _) _ _; first | refine o_eqs ?_ | refine o_gt ?_) | (show W _ _ (callWith _ _ _ _ _) _ _; first | refine W_cwT ?_ | refine W_cwB ?_ | refine W_cwB1 ?_) | (show W _ _ (binaryOp _ _ _) _ _; (refine o_add ?_; intro _)) | (show if _ = true then _ else _; first | refine ite_f (by with_unfolding_all rfl) ?_ | refine ite_t (by with_unfolding_all rfl) ?_) | (show Sq _ _ _ _ _ _ _; refine sq_next ?_))
        rw [← hde] at Ddu
        exact k _ ec ((e9.trans e10).trans S18.keep) ⟨odu, S18.get1, Ddu.mono fun _ _ r => r.ext S18.keep, fec⟩
end
section
open PySem.SeqAt
open AutoSeq1 (wpAny_loadPart')
/-! ### two tables are equal -/
noncomputable def EqW (w : World) (A : Around) (s : Shared) (v y : Value) : Prop := ∀ (E : Value → Shared → Prop) (Q : Bool → Shared → Prop), Q true s → wpAny (model pw w) A (eqBool v y) Q E s
section
variable {w : World} {A : Around} {s : Shared} {v y : Value} {h : Heap}
theorem EqW.at (e : EqAt A s v y true) : EqW w A s v y := fun E Q q => e pw w E Q q
theorem EqW.refs {l b : Addr} (k : l ≠ b → ∀ (E : Value → Shared → Prop) (Q : Value → Shared → Prop), Q (.bool true) s → wpAny (model pw w) A (richCompare .Eq (.ref l) (.ref b)) Q E s) : EqW w A s (.ref l) (.ref b) := by
  by_cases z : l = b
  · rw [z]; exact .at (.same _)
  · intro E Q hq
    unfold eqBool
    refine wpAny_holding (wpAny_ite_split (fun q => absurd (by have := eq_of_beq q; injection this) z) fun _ => ?_)
    exact wpAny_bind (k z E _ (wpAny_truthy_bool hq))
theorem hitsI {lb : List (Str × Int)} {kb : List (Str × Value)} (rb : RelL IntR kb lb) {ka : List (Str × Value)} {la : List (Str × Int)} (ra : RelL IntR ka la) (h : ∀ p ∈ la, look lb p.1 = some p.2) : KeqHits A s kb ka true := by
  induction ra with
  | nil => exact .nil
  | @cons k v a ka la hv _ ih =>
    have hk : look lb k = some a := h (k, a) (.head _)
    obtain ⟨t, rfl⟩ := hv
    rcases rb.look k with ⟨_, q⟩ | ⟨v', a', e1, e2, t', rfl⟩
    · rw [q] at hk; cases hk
    · rw [e2] at hk; cases hk
      have := KeqHits.hit (A := A) (s := s) (v := Value.int a t) e1 (.int_int _ _ _ _) (ih fun p hp => h p (.tail _ hp))
      simpa using this
theorem EqW.cal {d1 d2 : Addr} {l1 l2 : List (Str × Int)} (D1 : DH w IntR s.heap d1 l1) (D2 : DH w IntR s.heap d2 l2) (hl : l1.length = l2.length) (hk : ∀ p ∈ l1, look l2 p.1 = some p.2) (hu : A.units < cLine) : EqW w A s (.ref d1) (.ref d2) := .refs fun _ E Q hq => by
  obtain ⟨o1, g1, ⟨k1, O1, r1⟩, n1⟩ := D1
  obtain ⟨o2, g2, ⟨k2, O2, r2⟩, n2⟩ := D2
  refine keq_eq (knd := PySem.strKind pw w) (r := true) n1 n2 (DR.of g1 O1) (DR.of g2 O2) hu (fun _ => hitsI r2 r1 hk) ?_
  rw [r1.length, r2.length, hl]; simpa using hq
theorem EqW.tup {T1 T2 : Addr} {v1 v2 : List Value} (h1 : s.heap.get? T1 = some (tupO v1)) (h2 : s.heap.get? T2 = some (tupO v2)) (hl : v1.length = v2.length) (he : ∀ p ∈ v1.zip v2, EqW w A.in1 s p.1 p.2) (hu : A.units < cLine) : EqW w A s (.ref T1) (.ref T2) := .refs fun _ E Q hq => by
  refine wpAny_richCompare_same_room (op := .Eq) ⟨_, h1, rfl⟩ ⟨_, h2, rfl⟩ F.slot_tuple_eq (wpAny_call_entry F.slot_tuple_eq ⟨_, h1, rfl⟩ F.entry_tuple_eq ?_ (F.args_tuple_eq_2 _ _)) hu
  obtain ⟨hp, g, d, tk, os⟩ := s
  have f2 := AutoSeq1.sub_tuple_tuple
  unfold Builtin.«tuple.__eq__»
  wp_walk using wpAny_loadPart' h1, wpAny_loadPart' h2, wpAny_forIn_list _ (fun rest b s' => b.1 = none ∧ s' = ⟨hp, g, d, tk, os⟩ ∧ ∀ p ∈ rest, EqW w A.in1 ⟨hp, g, d, tk, os⟩ p.1 p.2) _
  case turn =>
    rintro ⟨a, b⟩ rest ⟨b1, b2⟩ s' ⟨hb, rfl, hr⟩
    refine wpAny_bind (hr (a, b) (.head _) E _ ?_)
    exact wpAny_pure ⟨rfl, rfl, fun p hp => hr p (.tail _ hp)⟩
  case fin =>
    rintro ⟨b1, b2⟩ s' ⟨hb, rfl, -⟩
    simp only at hb
    subst hb
    refine wpAny_pure ⟨_, rfl, (fun z => nomatch z), ?_⟩
    simpa [Builtin.Tuple.tupleCompareSizes, hl] using hq
  case h => exact ⟨rfl, rfl, by simpa using he⟩
structure SameRow (r r' : Row) : Prop where
  cc : r.cc = r'.cc
  nc : r.nc = r'.nc
  tt : r.tt = r'.tt
  ct : r.ct = r'.ct
  ln : r.cal.length = r'.cal.length
  cal : ∀ p ∈ r.cal, look r'.cal p.1 = some p.2
theorem EqW.row {r r' : Row} (R : RowAt w s.heap v r) (R' : RowAt w s.heap y r') (sr : SameRow r r') (hu : A.units + 2 < cLine) : EqW w A s v y := by
  obtain ⟨T, d, t1, t2, t3, t4, rfl, hT, D⟩ := R
  obtain ⟨T', d', t1', t2', t3', t4', rfl, hT', D'⟩ := R'
  refine .tup hT hT' rfl (fun p hp => ?_) (by omega)
  have ei : ∀ {a b : Int} {t t' : Tok}, a = b → EqW w A.in1 s (.int a t) (.int b t') := fun {a b t t'} e => by
    subst e
    have := EqAt.int_int (A := A.in1) (s := s) a t a t'
    rw [beq_self_eq_true] at this
    exact .at this
  simp only [List.zip_cons_cons, List.zip_nil_right, List.mem_cons, List.not_mem_nil, or_false] at hp
  rcases hp with rfl | rfl | rfl | rfl | rfl
  · exact ei sr.cc
  · exact ei sr.nc
  · exact ei sr.tt
  · exact ei sr.ct
  · exact .cal D D' sr.ln sr.cal (by show A.units + 1 < cLine; omega)
/-- the pairs of two dicts are equal, pair by pair -/
theorem pairs_true {nm : String} {a b : Addr} {ka kb : List (Str × Value)} {E : Value → Shared → Prop} {Q : Bool → Shared → Prop} (ha : (a == sysModules) = false) (hb : (b == sysModules) = false) (da : s.heap.DictOf (PySem.strKind pw w) a ka) (db : s.heap.DictOf (PySem.strKind pw w) b kb)
    (hl : ka.length = kb.length) (hit : ∀ p ∈ ka, ∃ y, valueAt kb p.1 = some y ∧ EqW w A s p.2 y) (hq : Q true s) : wpAny (model pw w) A (Builtin.Dict.samePairs nm a b) Q E s := by
  obtain ⟨oa, ea, na, ga, _, dta, kka, ppa, _⟩ := da
  obtain ⟨ob, eb, nb, gb, _, dtb, kkb, ppb, _⟩ := db
  have la : ka.length = ea.size := by rw [← ppa.length]; exact Array.length_toList
  have lb : kb.length = eb.size := by rw [← ppb.length]; exact Array.length_toList
  have hf : ∀ k, findBy (PySem.strKind pw w).is eb k = valueAt kb k := fun k => by
    rw [← ppb.find k]
    clear lb ppb kkb dtb gb
    obtain ⟨l⟩ := eb
    simp [findBy]
  unfold Builtin.Dict.samePairs Builtin.Dict.showsAll
  simp only [ha, hb, Bool.false_eq_true, if_false]
  refine wpAny_bind (wpAny_pure (wpAny_bind (wpAny_pure (wpAny_bind (wpAny_dictEntries ga dta ?_)))))
  refine wpAny_bind (wpAny_dictEntries gb dtb ?_)
  rw [if_neg (by simp; omega)]
  refine wpAny_bind (wpAny_dictEpoch ga dta (wpAny_bind ?_))
  rw [Std.Legacy.Range.forIn_eq_forIn_range']
  simp only [Std.Legacy.Range.size, Nat.sub_zero, Nat.add_sub_cancel, Nat.div_one]
  refine wpAny_forIn_list _ (fun rest q s' => s' = s ∧ q = (none, ()) ∧ ∀ i ∈ rest, i < ea.size) _ ?_ ?_ _ _ ⟨rfl, rfl, fun i hi => by simpa using hi⟩
  · rintro i rest q s' ⟨rfl, rfl, hr⟩
    have hi : i < ea.size := hr i (.head _)
    have hi' : i < ka.length := by omega
    obtain ⟨y, hy, ey⟩ := hit ka[i] (List.getElem_mem hi')
    obtain ⟨hkey, hval⟩ := ppa.get? (i := i) (e := ea[i]) (k := ka[i].1) (v := ka[i].2) (by rw [Array.getElem?_toList]; exact Array.getElem?_eq_getElem hi) (by rw [List.getElem?_eq_getElem hi'])
    obtain ⟨k', hk', hh⟩ := kka ea[i] (Array.getElem_mem hi)
    have ek : k' = ka[i].1 := (PySem.strKind pw w).inj _ _ _ hk' hkey
    rw [ek] at hh
    refine wpAny_bind (wpAny_dictEntries ga dta ?_)
    rw [Array.getElem?_eq_getElem hi]
    show wpAny _ _ (holding [ea[i].key, ea[i].val] _ >>= _) _ _ _
    rw [hh]
    refine wpAny_bind (wpAny_holding (wpAny_bind (wpAny_dictFind_of hkey gb dtb kkb ?_)))
    cases hj : eb.findIdx? fun e => (PySem.strKind pw w).is ka[i].1 e.key with
    | none =>
      have : valueAt kb ka[i].1 = none := by rw [← hf, findBy_of_findIdx?, hj]
      rw [this] at hy; cases hy
    | some j =>
      obtain ⟨hjl, _, _⟩ := Array.findIdx?_eq_some_iff_getElem.mp hj
      have hv : valueAt kb ka[i].1 = some eb[j].val := by
        rw [← hf, findBy_of_findIdx?, hj]
        simp [Array.getElem?_eq_getElem hjl]
      have e2 : eb[j].val = y := Option.some.inj (hv.symm.trans hy)
      refine wpAny_bind (wpAny_dictEntries gb dtb ?_)
      rw [Array.getElem?_eq_getElem hjl]
      rw [← e2, ← hval] at ey
      refine wpAny_holding (ey _ _ ?_)
      show wpAny _ _ (if (!true) = true then _ else _) _ _ _
      rw [if_neg (by decide)]
      refine wpAny_bind (wpAny_dictEpoch ga dta ?_)
      rw [if_neg (by simp)]
      exact wpAny_pure ⟨rfl, rfl, fun z hz => hr z (.tail _ hz)⟩
  · rintro q s' ⟨rfl, rfl, -⟩
    exact wpAny_pure hq
end
section
variable {w : World} {A : Around} {h : Heap} {P : Value → Heap → Prop}
structure SameTab (t t' : Tab) : Prop where
  ln : t.length = t'.length
  row : ∀ p ∈ t, ∃ r', look t' p.1 = some r' ∧ SameRow p.2 r'
theorem RelL.hits {α β : Type} {R : Value → α → Prop} {R' : Value → β → Prop} {ka kb : List (Str × Value)} {la : List (Str × α)} {lb : List (Str × β)} {C : Value → Value → Prop} (ra : RelL R ka la) (rb : RelL R' kb lb)
    (hc : ∀ p ∈ la, ∃ b, NQ.look lb p.1 = some b ∧ ∀ v y, R v p.2 → R' y b → C v y) : ∀ p ∈ ka, ∃ y, valueAt kb p.1 = some y ∧ C p.2 y := by
  induction ra with
  | nil => exact fun _ h => nomatch h
  | @cons k v a ka la hv _ ih =>
    intro p hp
    rcases List.mem_cons.mp hp with rfl | hp
    · obtain ⟨b, hb, c⟩ := hc (k, a) (.head _)
      rcases rb.look k with ⟨_, q⟩ | ⟨y, b', e1, e2, ry⟩
      · rw [q] at hb; cases hb
      · rw [e2] at hb; cases hb
        exact ⟨y, e1, c v y hv ry⟩
    · exact ih (fun p hp => hc p (.tail _ hp)) p hp
/-- two tables that are the same: != says False -/
theorem o_neTab {d1 d2 : Addr} {t1 t2 : Tab} (T1 : TH w h d1 t1) (T2 : TH w h d2 t2) (sm : SameTab t1 t2) (hu : A.units + 10 < cLine) (p : P (.bool false) h) : W w A (compareOp .NotEq (.ref d1) (.ref d2)) h P := fun s hs => by
  subst hs
  obtain ⟨o1, g1, ⟨k1, O1, r1⟩, n1⟩ := T1
  obtain ⟨o2, g2, ⟨k2, O2, r2⟩, n2⟩ := T2
  have D1 := DR.of g1 O1
  have D2 := DR.of g2 O2
  refine wpAny_richCompare_same_room (op := .NotEq) D1.typeIs D2.typeIs PySem.F.slot_dict_ne (wpAny_call_entry PySem.F.slot_dict_ne D1.typeIs PySem.F.entry_dict_ne ?_ (PySem.F.args_dict_ne_2 _ _)) (by omega)
  show wpAny _ _ (Builtin.Dict.dictSlotArgs "__ne__" ⟨[.ref d1, .ref d2], []⟩ >>= _) _ _ s
  refine wpAny_bind ?_
  unfold Builtin.Dict.dictSlotArgs
  refine wpAny_bind (wpAny_notOrdered_dict D1.typeIs (wpAny_pure ?_))
  refine wpAny_bind (wpAny_isInstance (T := "dict") D2.typeIs PySem.F.sub_dict_dict ?_)
  simp only [Bool.not_true, Bool.false_eq_true, if_false]
  refine wpAny_bind (wpAny_pure (wpAny_bind (wpAny_pure (wpAny_bind (pairs_true n1 n2 D1 D2 (by rw [r1.length, r2.length]; exact sm.ln) (r1.hits r2 fun q hq => ?_) ?_)))))
  · obtain ⟨r', e, sr⟩ := sm.row q hq
    exact ⟨r', e, fun v y R R' => .row R R' sr (by show A.units + 1 + 2 < cLine; omega)⟩
  · exact wpAny_pure ⟨_, rfl, (fun z => nomatch z), .rfl', p⟩
end
end
set_option compiler.extract_closed false in
local macro_rules | `(tactic| wtm_at "R780") => `(tactic| repeat (with_reducible first | (show W _ _ (eval (.Name _ _) _) _ _; first | refine ld780_script ‹_› ?_ | refine ld780_built ‹_› ?_ | refine ld780_tables ‹_› ?_ | refine ld780_each ‹_› ?_ | refine gl780__law_texts ‹_› ‹_› ?_ | refine gl780__law_tables ‹_› ‹_› ?_ | refine gl780__law_due ‹_› ‹_› ?_ | refine gl780__law_counted ‹_› ‹_› ?_) | (show W _ _ (storeName _ _ _) _ _; first | (refine st780_built ‹_› ?_; intro _ _ _) | (refine st780_tables ‹_› ?_; intro _ _ _) | (refine st780_each ‹_› ?_; intro _ _ _)) | wtm_at "Kn"))
structure Facts (xs : List Int) (its : Str → List It) (ld : List Str) : Prop where
  htx : ∀ u ∈ rvn, look (built xs).tx u = some (renL (its u))
  hok : ∀ u, ∀ it ∈ its u, it.ok
  hlt : ∀ i u, rvn[i]? = some u → ∀ a v qf nl, It.use a v qf nl ∈ its u → v ∈ rvn.take i
  hll : ∀ u, (its u).length ≤ 1000
  hld : ∀ u ∈ rvn, ∀ x ∈ leadsOf u 1 (its u), x ∈ ld
  hldl : ld.length ≤ 10000
  ktx : ∀ u ∈ nms, ∃ t, look (built xs).tx u = some t
  kwd : ∀ u ∈ nms, ∃ t, look (built xs).wd u = some t
  hus1 : ∀ i u, nms[i]? = some u → ∀ p ∈ (built xs).us, p.2.1 = u → p.1 ∈ nms.take i
  hus2 : ∀ i u, rvn[i]? = some u → ∀ p ∈ (built xs).us, p.1 = u → p.2.1 ∈ rvn.take i
  husn : ∀ p ∈ (built xs).us, p.1 ∈ nms ∧ 0 ≤ p.2.2 ∧ p.2.2 < 10 ^ 9
  hul : (built xs).us.length ≤ 1000
  hwb : ∀ start ∈ nms, ∀ p ∈ waysOf start (built xs).us nms, 0 ≤ p.2 ∧ p.2 < 2 ^ 60
  same : ∀ p ∈ wholeOf its rvn, SameTab p.2 (dueOf p.1 (built xs).tx (built xs).wd (built xs).us) ∧ ∀ r ∈ p.2, sumC r.2.cal = if r.1 = p.1 then 0 else r.2.nc
section
variable {w : World} {A : Around} {h g : Heap} {P : Value → Heap → Prop} {L : Addr} {m : Str → Option Value} {sc : Addr} {svs : List Value} {xs : List Int} {its : Str → List It} {ld : List Str}
/-- a frame after a call that leaves it -/
theorem St.called {g' h' : Heap} {oL : Obj} (S : St g L h m []) (e1 : h.get? L = some oL) (e2 : h'.get? L = some oL) (x : Ext g' h') (n : g'.get? L = none) : St g' L h' m [] :=
  ⟨by obtain ⟨o, es, ep, hL, r⟩ := S.ns; rw [e1] at hL; cases hL; exact ⟨oL, es, ep, e2, r⟩, x, n, fun _ hp => (nomatch hp), List.nodup_nil⟩
set_option maxHeartbeats 4000000 in
theorem c780 (G : Gr w h) (hs : h.get? sc = some (lstO svs)) (hi : IntsAre svs xs) (hlen : xs.length ≤ 1000) (F : Facts xs its ld) (hA : A.depth < 600) (hh : A.handled = none) (hu : A.units + 300 < cLine) (k : ∀ h', Ext h h' → P (.bool true) h') :
    WC w A (.call (.ref 780) ⟨[.ref sc], []⟩) h P := by
  refine en780 (mu := []) G (Ext.refl h) (fun _ hp => (nomatch hp)) List.nodup_nil (by omega) ?_
  intro L h₁ hL S x₁
  have hh' : (A.deeper (env780 L)).handled = none := hh
  have hu' : (A.deeper (env780 L)).units + 250 < cLine := by show A.units + 3 + 250 < cLine; omega
  have hA' : (A.deeper (env780 L)).depth < 610 := by show A.depth + 1 < 610; omega
  refine W_asg ?_
  wtm_at "R780"
  with_reducible refine W_cw (by kernel_rfl) ?_
  wtm_at "R780"
  refine ⟨(G.keeps S.keep).k, ?_⟩
  obtain ⟨oL, eL⟩ := ns_some S.ns
  refine (c754 (q := (L, oL)) G S.keep eL S.gL hs hi hlen (by omega) hh' (by omega) ?_).call
  intro h₂ g2 T dt dw lu n uvs eg2 x₂ n2 q2 hT Dt Dw hlu Us
  have S2 := S.called eL q2 x₂ n2
  clear S eL q2 x₁ n2
  have G2 := G.keeps eg2
  wtm_at "R780"
  rename St _ _ _ _ _ => S3
  clear S2
  with_reducible refine W_cw (by kernel_rfl) ?_
  wtm_at "R780"
  refine o_subTup (S3.keep _ _ hT) (by decide) (by decide) rfl ?_
  wtm_at "R780"
  refine ⟨(G2.keeps S3.keep).k, ?_⟩
  obtain ⟨oL, eL⟩ := ns_some S3.ns
  refine (c761 (q := (L, oL)) (ld := ld) G2 S3.keep eL S3.gL Dt F.htx F.hok F.hlt F.hll F.hld F.hldl (by omega) hh' ?_).call
  intro h₄ g4 dtab eg4 x₄ n4 q4 Dtab
  have S4 := S3.called eL q4 x₄ n4
  clear S3 eL q4 n4
  have G4 := G2.keeps eg4
  wtm_at "R780"
  rename St _ _ _ _ _ => S5
  clear S4
  obtain ⟨otab, htab, DRtab, ntab⟩ := Dtab
  with_reducible refine W_forK (L := L) (R := TabAt w g4) (l := wholeOf its rvn) hh' ?_
  wtm_at "R780"
  refine ⟨dtab, otab, g4, _, _, fun i g' m mu => ∃ v, m = frL ns780 [some (.ref sc), some (.ref T), some (.ref dtab), v] ∧ mu = [], rfl, ntab, S5, htab, DRtab, ⟨_, rfl, rfl⟩, ?_, ?_⟩
  · rintro i u tb tu h₆ p g5 m mu hi' e5 S6 ⟨v, rfl, rfl⟩
    have hmem := List.mem_of_getElem? hi'
    have hlk : look (wholeOf its rvn) u = some tb := look_of_get DRtab.nodup hi'
    have hun : u ∈ nms := by
      have h5 : (wholeOf its rvn).map (·.1) = rvn := keys_whole its (i := 5)
      exact rvn_nms (h5 ▸ List.mem_map.mpr ⟨_, hmem, rfl⟩)
    obtain ⟨sm, cn⟩ := F.same _ hmem
    have G5 := G4.keeps e5
    have e45 := eg4.trans e5
    have hT5 := e45 _ _ hT
    clear S5
    wtm_at "R780"
    rename St _ _ _ _ _ => S7
    clear S6
    with_reducible refine d_sub (S7.keep _ _ (e5 _ _ htab)) DRtab hlk ?_
    rintro vt ⟨dtb, rfl, Ttb⟩
    have T7 : TH w _ dtb tb := TH.ext Ttb (e5.trans S7.keep)
    wtm_at "R780"
    with_reducible refine W_cw (by kernel_rfl) ?_
    wtm_at "R780"
    refine o_subTup (S7.keep _ _ hT5) (by decide) (by decide) rfl ?_
    wtm_at "R780"
    refine o_subTup (S7.keep _ _ hT5) (by decide) (by decide) rfl ?_
    wtm_at "R780"
    refine o_subTup (S7.keep _ _ hT5) (by decide) (by decide) rfl ?_
    wtm_at "R780"
    refine ⟨(G5.keeps S7.keep).k, ?_⟩
    have x7 := e45.trans S7.keep
    refine (c766 (G5.keeps S7.keep) (Dt.ext x7) (Dw.ext x7) (x7 _ _ hlu) (Us.ext x7) F.ktx F.kwd F.hus1 F.hus2 F.husn F.hul (F.hwb u hun) (by omega) hh' ?_).call
    intro h₈ d8 x₈ T8
    have S8 := S7.ext x₈
    clear S7
    with_reducible refine o_neTab (T7.ext x₈) T8 sm (by omega) ?_
    wtm_at "R780"
    with_reducible refine W_cw (by kernel_rfl) ?_
    wtm_at "R780"
    with_reducible refine d_sub (S8.keep _ _ (e5 _ _ htab)) DRtab hlk ?_
    rintro vt ⟨dtb', rfl, Ttb'⟩
    wtm_at "R780"
    refine ⟨(G5.keeps S8.keep).k, ?_⟩
    refine (c773 (G5.keeps S8.keep) (TH.ext Ttb' (e5.trans S8.keep)) cn (by omega) hh' ?_).call
    intro h₉ x₉
    have S9 := S8.ext x₉
    clear S8
    wtm_at "R780"
    exact fe_next (Ext.refl _) S9 ⟨_, rfl, rfl⟩
  · rintro h₆ g5 m mu e5 S6 ⟨v, rfl, rfl⟩
    clear S5
    wtm_at "R780"
    exact k _ (((eg2.trans eg4).trans e5).trans S6.keep)
end
/-! ### sums -/
noncomputable def S {α : Type} (l : List α) (f : α → Int) : Int := (l.map f).sum
section
variable {α β : Type} {l : List α} {f g : α → Int}
theorem S_nil : S ([] : List α) f = 0 := rfl
theorem S_cons {a : α} : S (a :: l) f = f a + S l f := by simp [S]
theorem S_app {r : List α} : S (l ++ r) f = S l f + S r f := by simp [S]
theorem S_congr (h : ∀ a ∈ l, f a = g a) : S l f = S l g := by
  unfold S
  rw [List.map_congr_left h]
theorem S_add : S l (fun a => f a + g a) = S l f + S l g := by
  induction l with
  | nil => rfl
  | cons a l ih => simp only [S_cons, ih]; omega
theorem S_zero : S l (fun _ => 0) = 0 := by
  induction l with
  | nil => rfl
  | cons a l ih => simp only [S_cons, ih]; rfl
theorem S_mul {c : Int} : S l (fun a => f a * c) = S l f * c := by
  induction l with
  | nil => simp [S_nil]
  | cons a l ih => simp only [S_cons, ih, Int.add_mul]
theorem S_mul' {c : Int} : S l (fun a => c * f a) = c * S l f := by
  induction l with
  | nil => simp [S_nil]
  | cons a l ih => simp only [S_cons, ih, Int.mul_add]
theorem S_swap {r : List β} {k : α → β → Int} : S l (fun a => S r (k a)) = S r (fun b => S l (fun a => k a b)) := by
  induction l with
  | nil => simp only [S_nil]; exact S_zero.symm
  | cons a l ih => simp only [S_cons, ih]; rw [← S_add]
theorem S_filter {c : α → Bool} : S (l.filter c) f = S l (fun a => if c a then f a else 0) := by
  induction l with
  | nil => rfl
  | cons a l ih =>
    rw [List.filter_cons]
    cases h : c a
    · simp only [S_cons, h, Bool.false_eq_true, if_false, ih]; omega
    · simp only [S_cons, h, if_true, ih]
theorem S_nonneg (h : ∀ a ∈ l, 0 ≤ f a) : 0 ≤ S l f := by
  induction l with
  | nil => exact Int.le_refl _
  | cons a l ih =>
    rw [S_cons]
    have := h a (.head _)
    have := ih fun b hb => h b (.tail _ hb)
    omega
theorem S_le {b : Int} (h : ∀ a ∈ l, f a ≤ b) : S l f ≤ l.length * b := by
  induction l with
  | nil => simp [S_nil]
  | cons a l ih =>
    rw [S_cons, List.length_cons]
    have h1 := h a (.head _)
    have h2 := ih fun b hb => h b (.tail _ hb)
    have e : ((l.length + 1 : Nat) : Int) * b = l.length * b + b := by rw [Int.natCast_add, Int.add_mul]; omega
    rw [e]; omega
theorem S_eq0 (h : ∀ a ∈ l, f a = 0) : S l f = 0 := (S_congr h).trans S_zero
end
/-! ### lists of pairs with one entry a key -/
noncomputable def Nd {α : Type} (l : List (Str × α)) : Prop := (l.map (·.1)).Nodup
theorem Nd.nil {α : Type} : Nd ([] : List (Str × α)) := List.nodup_nil
theorem put_any {α : Type} {l : List (Str × α)} {k : Str} {a : α} (h : k ∈ l.map (·.1)) : put l k a = l.map (fun kv => if kv.1 = k then (kv.1, a) else kv) := by
  unfold put
  obtain ⟨x, hx, rfl⟩ := List.mem_map.mp h
  rw [if_pos (List.any_eq_true.mpr ⟨x, hx, by simp⟩)]
theorem Nd.put {α : Type} {l : List (Str × α)} {k : Str} {a : α} (h : Nd l) : Nd (put l k a) := by
  by_cases hk : k ∈ l.map (·.1)
  · unfold Nd; rw [put_keys hk]; exact h
  · unfold Nd; rw [put_snoc hk, List.map_append]
    show (l.map (·.1) ++ [k]).Nodup
    rw [List.nodup_append]
    exact ⟨h, by simp, fun x hx y hy e => by rw [List.mem_singleton.mp hy] at e; rw [e] at hx; exact hk hx⟩
theorem Nd.look {α : Type} {l : List (Str × α)} {k : Str} {a : α} (h : Nd l) (hm : (k, a) ∈ l) : look l k = some a := by
  obtain ⟨i, hi⟩ := List.mem_iff_getElem?.mp hm
  exact look_of_get h hi
theorem isSome_key {α : Type} {l : List (Str × α)} {k : Str} : (look l k).isSome = true ↔ k ∈ l.map (·.1) := by
  constructor
  · intro h
    obtain ⟨a, e⟩ := Option.isSome_iff_exists.mp h
    exact List.mem_map.mpr ⟨_, look_mem e, rfl⟩
  · intro h
    obtain ⟨a, e⟩ := look_some h
    rw [e]; rfl
theorem len_eq {α β : Type} {l : List (Str × α)} {r : List (Str × β)} (hl : Nd l) (hr : Nd r) (h : ∀ k, (look l k).isSome = (look r k).isSome) : l.length = r.length := by
  have h1 := nodup_le (l.map Prod.fst) (r.map Prod.fst) hl fun x hx => by rw [← isSome_key, ← h, isSome_key]; exact hx
  have h2 := nodup_le (r.map Prod.fst) (l.map Prod.fst) hr fun x hx => by rw [← isSome_key, h, isSome_key]; exact hx
  simp only [List.length_map] at h1 h2
  omega
/-- a dict of callers: one entry a key, all above 0 -/
structure NP (l : List (Str × Int)) : Prop where
  nd : Nd l
  pos : ∀ p ∈ l, 0 < p.2
theorem NP.nil : NP [] := ⟨.nil, fun _ h => nomatch h⟩
theorem NP.one (k : Str) : NP [(k, 1)] := ⟨by unfold Nd; simp, fun p hp => by rw [List.mem_singleton.mp hp]; show (0 : Int) < 1; decide⟩
theorem vAt_put (l : List (Str × Int)) (k : Str) (a : Int) (x : Str) : vAt (put l k a) x = if x = k then a else vAt l x := by
  unfold vAt; rw [look_put]; split <;> rfl
theorem NP.at {l : List (Str × Int)} (h : NP l) {k : Str} : (look l k).isSome = true ↔ 0 < vAt l k := by
  unfold vAt
  cases e : look l k with
  | none => simp
  | some a =>
    have := h.pos _ (look_mem e)
    simp only [Option.isSome_some, Option.getD_some, true_iff]
    exact this
theorem NP.ge {l : List (Str × Int)} (h : NP l) (k : Str) : 0 ≤ vAt l k := by
  unfold vAt
  cases e : look l k with
  | none => exact Int.le_refl _
  | some a => have := h.pos _ (look_mem e); simp only [Option.getD_some]; omega
theorem NP.put {l : List (Str × Int)} (h : NP l) {k : Str} {a : Int} (ha : 0 < a) : NP (put l k a) := ⟨h.nd.put, fun p hp => by
  rcases put_mem hp with rfl | hp
  · exact ha
  · exact h.pos p hp⟩
theorem addI_put (acc : List (Str × Int)) (p : Str × Int) : addI acc p = put acc p.1 (vAt acc p.1 + p.2) := by
  unfold addI vAt
  cases look acc p.1 with
  | none => simp
  | some a => rfl
theorem putI_id : ∀ (t acc : List (Str × Int)), Nd (acc ++ t) → t.foldl putI acc = acc ++ t
  | [], acc, _ => by simp
  | p :: t, acc, h => by
    have hk : p.1 ∉ acc.map (·.1) := fun q => by
      unfold Nd at h
      rw [List.map_append, List.nodup_append] at h
      exact h.2.2 p.1 q p.1 List.mem_cons_self rfl
    have e : putI acc p = acc ++ [p] := put_snoc hk
    rw [List.foldl_cons, e, putI_id t (acc ++ [p]) (by simpa using h)]
    simp
theorem addC_fold {t s : List (Str × Int)} (h : NP t) : addC t s = s.foldl addI t := by
  unfold addC
  rw [putI_id t [] (by simpa using h.nd)]; rfl
theorem addI_all (x : Str) : ∀ (s t : List (Str × Int)), NP t → (∀ p ∈ s, 0 < p.2) → NP (s.foldl addI t) ∧ vAt (s.foldl addI t) x = vAt t x + S s (fun p => if x = p.1 then p.2 else 0)
  | [], t, h, _ => ⟨h, by simp [S_nil]⟩
  | p :: s, t, h, hs => by
    have hp := hs p (.head _)
    have h1 : NP (addI t p) := by rw [addI_put]; exact h.put (by have := h.ge p.1; omega)
    obtain ⟨a, b⟩ := addI_all x s (addI t p) h1 fun q hq => hs q (.tail _ hq)
    refine ⟨a, ?_⟩
    rw [List.foldl_cons, b, addI_put, vAt_put, S_cons]
    split
    · rename_i e; rw [e]; omega
    · omega
theorem S_key : ∀ {s : List (Str × Int)} (x : Str), Nd s → S s (fun p => if x = p.1 then p.2 else 0) = vAt s x
  | [], x, _ => rfl
  | p :: s, x, h => by
    have h' : p.1 ∉ s.map (·.1) ∧ Nd s := List.nodup_cons.mp h
    rw [S_cons, S_key x h'.2]
    by_cases e : x = p.1
    · subst e
      have : vAt s p.1 = 0 := by unfold vAt; rw [look_none h'.1]; rfl
      rw [if_pos rfl, this]
      simp [vAt, look]
    · rw [if_neg e]
      have e' : ¬ p.1 = x := fun q => e q.symm
      simp [vAt, look, e']
theorem sumC_S (l : List (Str × Int)) : sumC l = S l (·.2) := by
  have : ∀ (l : List (Str × Int)) (a : Int), l.foldl (fun s p => s + p.2) a = a + S l (·.2) := by
    intro l
    induction l with
    | nil => intro a; simp [S_nil]
    | cons p l ih => intro a; rw [List.foldl_cons, ih, S_cons]; omega
  unfold sumC; rw [this]; omega
theorem S_map_put : ∀ {l : List (Str × Int)} {k : Str} {a : Int}, Nd l → k ∈ l.map (·.1) → S (l.map fun kv => if kv.1 = k then (kv.1, a) else kv) (·.2) = S l (·.2) - vAt l k + a
  | [], k, a, _, h => nomatch h
  | p :: l, k, a, h, hk => by
    have h' : p.1 ∉ l.map (·.1) ∧ Nd l := List.nodup_cons.mp h
    rw [List.map_cons, S_cons, S_cons]
    by_cases e : p.1 = k
    · subst e
      have e1 : l.map (fun kv => if kv.1 = p.1 then (kv.1, a) else kv) = l := by
        rw [List.map_congr_left (g := id) (fun x hx => ?_), List.map_id]
        have : ¬ x.1 = p.1 := fun q => h'.1 (List.mem_map.mpr ⟨x, hx, q⟩)
        simp [this]
      have e2 : vAt (p :: l) p.1 = p.2 := by simp [vAt, look]
      rw [e1, if_pos rfl, e2]
      show a + S l (·.2) = p.2 + S l (·.2) - p.2 + a
      omega
    · have hk' : k ∈ l.map (·.1) := by
        rcases List.mem_cons.mp hk with q | q
        · exact absurd q.symm e
        · exact q
      have e2 : vAt (p :: l) k = vAt l k := by simp [vAt, look, e]
      rw [if_neg e, S_map_put h'.2 hk', e2]
      omega
theorem sumC_put {l : List (Str × Int)} {k : Str} {a : Int} (h : Nd l) : sumC (put l k a) = sumC l - vAt l k + a := by
  rw [sumC_S, sumC_S]
  by_cases hk : k ∈ l.map (·.1)
  · rw [put_any hk]; exact S_map_put h hk
  · rw [put_snoc hk, S_app, S_cons, S_nil]
    have : vAt l k = 0 := by unfold vAt; rw [look_none hk]; rfl
    rw [this]
    show S l (·.2) + (a + 0) = S l (·.2) - 0 + a
    omega
theorem addI_sum : ∀ (s t : List (Str × Int)), NP t → (∀ p ∈ s, 0 < p.2) → sumC (s.foldl addI t) = sumC t + sumC s
  | [], t, h, _ => by show sumC t = sumC t + 0; omega
  | p :: s, t, h, hs => by
    have hp := hs p (.head _)
    have h1 : NP (addI t p) := by rw [addI_put]; exact h.put (by have := h.ge p.1; omega)
    rw [List.foldl_cons, addI_sum s (addI t p) h1 fun q hq => hs q (.tail _ hq), addI_put, sumC_put h.nd]
    have e : sumC (p :: s) = p.2 + sumC s := by rw [sumC_S, sumC_S, S_cons]
    rw [e]; omega
theorem NP.add {t s : List (Str × Int)} (ht : NP t) (hs : NP s) : NP (addC t s) := by rw [addC_fold ht]; exact (addI_all s_main s t ht hs.pos).1
theorem vAt_add {t s : List (Str × Int)} (ht : NP t) (hs : NP s) (k : Str) : vAt (addC t s) k = vAt t k + vAt s k := by rw [addC_fold ht, (addI_all k s t ht hs.pos).2, S_key k hs.nd]
theorem sumC_add {t s : List (Str × Int)} (ht : NP t) (hs : NP s) : sumC (addC t s) = sumC t + sumC s := by rw [addC_fold ht, addI_sum s t ht hs.pos]
/-! ### what adds up -/
structure Addv (φ : Row → Int) : Prop where
  zero : φ zeroRow = 0
  add : ∀ a b : Row, NP a.cal → NP b.cal → φ (addRow a b) = φ a + φ b
theorem add_cc : Addv Row.cc := ⟨rfl, fun a b _ _ => Int.add_comm _ _⟩
theorem add_nc : Addv Row.nc := ⟨rfl, fun a b _ _ => Int.add_comm _ _⟩
theorem add_tt : Addv Row.tt := ⟨rfl, fun a b _ _ => Int.add_comm _ _⟩
theorem add_ct : Addv Row.ct := ⟨rfl, fun a b _ _ => Int.add_comm _ _⟩
theorem add_cal (k : Str) : Addv (fun r => vAt r.cal k) := ⟨rfl, fun a b ha hb => vAt_add ha hb k⟩
theorem add_sum : Addv (fun r => sumC r.cal) := ⟨rfl, fun a b ha hb => sumC_add ha hb⟩
/-- a table: one row a name, each of ways above 0 -/
structure NT (t : Tab) : Prop where
  nd : Nd t
  row : ∀ p ∈ t, 0 < p.2.nc ∧ NP p.2.cal
theorem NT.nil : NT [] := ⟨.nil, fun _ h => nomatch h⟩
theorem NT.cal {t : Tab} (h : NT t) (x : Str) : NP (rowAt t x).cal := by
  unfold rowAt
  cases e : look t x with
  | none => exact .nil
  | some r => exact (h.row _ (look_mem e)).2
theorem NT.nc {t : Tab} (h : NT t) (x : Str) : 0 ≤ (rowAt t x).nc := by
  unfold rowAt
  cases e : look t x with
  | none => exact Int.le_refl _
  | some r => have h1 : 0 < r.nc := (h.row _ (look_mem e)).1; simp only [Option.getD_some]; omega
theorem NT.at {t : Tab} (h : NT t) {x : Str} : (look t x).isSome = true ↔ 0 < (rowAt t x).nc := by
  unfold rowAt
  cases e : look t x with
  | none => simp [zeroRow]
  | some r =>
    have := (h.row _ (look_mem e)).1
    simp only [Option.isSome_some, Option.getD_some, true_iff]
    exact this
theorem NT.put {t : Tab} (h : NT t) {k : Str} {r : Row} (h1 : 0 < r.nc) (h2 : NP r.cal) : NT (put t k r) := ⟨h.nd.put, fun p hp => by
  rcases put_mem hp with rfl | hp
  · exact ⟨h1, h2⟩
  · exact h.row p hp⟩
theorem rowAt_put (t : Tab) (k : Str) (r : Row) (x : Str) : rowAt (put t k r) x = if x = k then r else rowAt t x := by
  unfold rowAt; rw [look_put]; split <;> rfl
theorem NT.add {t : Tab} {turn : Int} {p : Str × Row} (h : NT t) (hp : 0 < p.2.nc ∧ NP p.2.cal) : NT (addTab turn t p) := by
  have h0 := h.nc p.1
  have hc := h.cal p.1
  refine h.put ?_ ?_
  · split
    · rw [add_nc.add _ _ hc hp.2]; have := hp.1; omega
    · rw [add_nc.add _ _ hp.2 hc]; have := hp.1; omega
  · split
    · exact hc.add hp.2
    · exact hp.2.add hc
theorem addTab_phi {φ : Row → Int} (F : Addv φ) {t : Tab} {turn : Int} {p : Str × Row} (h : NT t) (hp : NP p.2.cal) (x : Str) : φ (rowAt (addTab turn t p) x) = φ (rowAt t x) + if x = p.1 then φ p.2 else 0 := by
  unfold addTab
  rw [rowAt_put]
  by_cases e : x = p.1
  · subst e
    rw [if_pos rfl, if_pos rfl]
    split
    · exact F.add _ _ (h.cal _) hp
    · rw [F.add _ _ hp (h.cal _)]; omega
  · rw [if_neg e, if_neg e]; omega
theorem fold_phi {φ : Row → Int} (F : Addv φ) {turn : Int} (x : Str) : ∀ (s t : Tab), NT t → (∀ p ∈ s, 0 < p.2.nc ∧ NP p.2.cal) → NT (s.foldl (addTab turn) t) ∧ φ (rowAt (s.foldl (addTab turn) t) x) = φ (rowAt t x) + S s (fun p => if x = p.1 then φ p.2 else 0)
  | [], t, h, _ => ⟨h, by simp [S_nil]⟩
  | p :: s, t, h, hs => by
    have hp := hs p (.head _)
    obtain ⟨a, b⟩ := fold_phi F x s (addTab turn t p) (h.add hp) fun q hq => hs q (.tail _ hq)
    refine ⟨a, ?_⟩
    rw [List.foldl_cons, b, addTab_phi F h hp.2, S_cons]
    omega
theorem S_row {φ : Row → Int} (F : Addv φ) : ∀ {s : Tab} (x : Str), Nd s → S s (fun p => if x = p.1 then φ p.2 else 0) = φ (rowAt s x)
  | [], x, _ => F.zero.symm
  | p :: s, x, h => by
    have h' : p.1 ∉ s.map (·.1) ∧ Nd s := List.nodup_cons.mp h
    rw [S_cons, S_row F x h'.2]
    by_cases e : x = p.1
    · subst e
      have : rowAt s p.1 = zeroRow := by unfold rowAt; rw [look_none h'.1]; rfl
      rw [if_pos rfl, this, F.zero]
      simp [rowAt, look]
    · rw [if_neg e]
      have e' : ¬ p.1 = x := fun q => e q.symm
      simp [rowAt, look, e']
noncomputable abbrev unitR (u : Str) (ln : Int) : Row := ⟨0, 0, 0, 0, [(leadS u ln, 1)]⟩
theorem use_phi {φ : Row → Int} (F : Addv φ) {wh : List (Str × Tab)} {u v : Str} {ln turn : Int} {t : Tab} (h : NT t) (hv : NT (tabAt wh v)) (hself : (look (tabAt wh v) v).isSome = true) (x : Str) :
    NT (useTab wh u v ln turn t) ∧ φ (rowAt (useTab wh u v ln turn t) x) = φ (rowAt t x) + (φ (rowAt (tabAt wh v) x) + if x = v then φ (unitR u ln) else 0) := by
  obtain ⟨a, b⟩ := fold_phi F (turn := turn) x (tabAt wh v) t h hv.row
  have c := (fold_phi add_nc (turn := turn) v (tabAt wh v) t h hv.row).2
  rw [S_row F x hv.nd] at b
  rw [S_row add_nc v hv.nd] at c
  have hp := hv.at.mp hself
  have ht := h.nc v
  unfold useTab
  constructor
  · refine a.put ?_ ((a.cal v).add (.one _))
    rw [add_nc.add _ _ (a.cal v) (.one _), c]
    show 0 < (rowAt t v).nc + (rowAt (tabAt wh v) v).nc + 0
    omega
  · rw [rowAt_put]
    by_cases e : x = v
    · subst e
      have e2 : φ (addRow (rowAt ((tabAt wh x).foldl (addTab turn) t) x) (unitR u ln)) = φ (rowAt ((tabAt wh x).foldl (addTab turn) t) x) + φ (unitR u ln) := F.add _ _ (a.cal _) (.one _)
      rw [if_pos rfl, if_pos rfl, e2, b]; omega
    · rw [if_neg e, if_neg e, b]; omega
/-! ### a text's uses and words -/
noncomputable def usesOf (u : Str) : Nat → List It → Us
  | _, [] => []
  | ln, it :: l => match it with
    | .use _ v _ nl => (u, v, ((ln + NQ.nlN nl : Nat) : Int)) :: usesOf u (ln + NQ.nlN nl) l
    | it => usesOf u (ln + it.nlN) l
noncomputable def It.wd : It → Int
  | .word _ _ _ => 1
  | _ => 0
noncomputable def wordsOf (l : List It) : Int := S l It.wd
theorem nms_no10 : ∀ n ∈ nms, (sgn n).count 10 = 0 := by decide +kernel
theorem wrd_no10 (k : Nat) : (wrd k).count 10 = 0 := by unfold wrd; (repeat' split) <;> decide
theorem wht_10 (nl : Bool) : (wht nl).count 10 = nlN nl := by cases nl <;> decide
theorem mrk_10 (q : Bool) : (mrk q).count 10 = 0 := by cases q <;> decide
theorem ren_10 {it : It} (h : it.ok) : it.ren.count 10 = it.nlN := by
  cases it with
  | use u v q nl =>
    show (((mrk q ++ sgn v) ++ mrk q) ++ wht nl).count 10 = nlN nl
    rw [List.count_append, List.count_append, List.count_append, mrk_10, nms_no10 v h.2, wht_10]; omega
  | word u k nl =>
    show (wrd k ++ wht nl).count 10 = nlN nl
    rw [List.count_append, wrd_no10, wht_10]; omega
  | rem u => rfl
theorem acc_all {φ : Row → Int} (F : Addv φ) {wh : List (Str × Tab)} {u : Str} (x : Str) : ∀ (l : List It) (a : Acc), NT a.rows → (∀ it ∈ l, it.ok) → (∀ c v q nl, It.use c v q nl ∈ l → NT (tabAt wh v) ∧ (look (tabAt wh v) v).isSome = true) →
    NT (l.foldl (Acc.step wh u) a).rows ∧
    φ (rowAt (l.foldl (Acc.step wh u) a).rows x) = φ (rowAt a.rows x) + S (usesOf u a.ln l) (fun p => φ (rowAt (tabAt wh p.2.1) x) + if x = p.2.1 then φ (unitR u p.2.2) else 0) ∧
    (l.foldl (Acc.step wh u) a).own = a.own + wordsOf l ∧
    (l.foldl (Acc.step wh u) a).size = a.size + S (usesOf u a.ln l) (fun p => (rowAt (tabAt wh p.2.1) p.2.1).ct) ∧
    (l.foldl (Acc.step wh u) a).ln = a.ln + (renL l).count 10
  | [], a, h, _, _ => ⟨h, by simp [usesOf, S_nil], by simp [wordsOf, S_nil], by simp [usesOf, S_nil], by simp [renL]⟩
  | it :: l, a, h, hk, hv => by
    have hk0 := hk it (.head _)
    have hk' : ∀ x ∈ l, x.ok := fun x hx => hk x (.tail _ hx)
    have hv' : ∀ c v q nl, It.use c v q nl ∈ l → NT (tabAt wh v) ∧ (look (tabAt wh v) v).isSome = true := fun c v q nl hm => hv c v q nl (.tail _ hm)
    have e1 : (renL (it :: l)).count 10 = it.nlN + (renL l).count 10 := by
      show (it.ren ++ renL l).count 10 = _
      rw [List.count_append, ren_10 hk0]
    have ew : wordsOf (it :: l) = it.wd + wordsOf l := S_cons
    cases it with
    | rem c =>
      obtain ⟨i1, i2, i3, i4, i5⟩ := acc_all F x l ⟨a.rows, a.own, a.size, a.turn, a.ln + 1⟩ h hk' hv'
      refine ⟨i1, i2, ?_, i4, ?_⟩
      · rw [ew]; exact i3.trans (by show a.own + wordsOf l = a.own + (0 + wordsOf l); omega)
      · rw [e1]; exact i5.trans (by show a.ln + 1 + (renL l).count 10 = a.ln + (1 + (renL l).count 10); omega)
    | word c k nl =>
      obtain ⟨i1, i2, i3, i4, i5⟩ := acc_all F x l ⟨a.rows, a.own + 1, a.size, a.turn, a.ln + NQ.nlN nl⟩ h hk' hv'
      refine ⟨i1, i2, ?_, i4, ?_⟩
      · rw [ew]; exact i3.trans (by show a.own + 1 + wordsOf l = a.own + (1 + wordsOf l); omega)
      · rw [e1]; exact i5.trans (by show a.ln + NQ.nlN nl + (renL l).count 10 = a.ln + (NQ.nlN nl + (renL l).count 10); omega)
    | use c v q nl =>
      obtain ⟨hn, hs⟩ := hv c v q nl (.head _)
      obtain ⟨u1, u2⟩ := use_phi F (u := u) (ln := ((a.ln + NQ.nlN nl : Nat) : Int)) (turn := a.turn) h hn hs x
      obtain ⟨i1, i2, i3, i4, i5⟩ := acc_all F x l ⟨useTab wh u v ((a.ln + NQ.nlN nl : Nat) : Int) a.turn a.rows, a.own, a.size + (rowAt (tabAt wh v) v).ct, 1 - a.turn, a.ln + NQ.nlN nl⟩ u1 hk' hv'
      have eu : usesOf u a.ln (.use c v q nl :: l) = (u, v, ((a.ln + NQ.nlN nl : Nat) : Int)) :: usesOf u (a.ln + NQ.nlN nl) l := rfl
      refine ⟨i1, ?_, ?_, ?_, ?_⟩
      · rw [eu, S_cons]
        refine i2.trans ?_
        dsimp only
        rw [u2]; omega
      · rw [ew]; exact i3.trans (by show a.own + wordsOf l = a.own + (0 + wordsOf l); omega)
      · rw [eu, S_cons]
        refine i4.trans ?_
        dsimp only
        omega
      · rw [e1]; exact i5.trans (by show a.ln + NQ.nlN nl + (renL l).count 10 = a.ln + (NQ.nlN nl + (renL l).count 10); omega)
/-! ### what the texts hold -/
noncomputable def ofName (u : Str) (l : List It) : List It := l.filter fun it => decide (it.nm = u)
theorem ofName_cons {u : Str} {it : It} {l : List It} : ofName u (it :: l) = if it.nm = u then it :: ofName u l else ofName u l := by
  unfold ofName
  rw [List.filter_cons]
  by_cases h : it.nm = u <;> simp [h]
theorem tx_fold (u : Str) : ∀ (l : List It) (b : Bd), txOf (l.foldl Bd.step b) u = txOf b u ++ renL (ofName u l)
  | [], b => by simp [ofName, renL]
  | it :: l, b => by
    rw [List.foldl_cons, tx_fold u l, step_tx, ofName_cons]
    by_cases h : it.nm = u
    · rw [if_pos h.symm, if_pos h, h]
      show txOf b u ++ it.ren ++ renL (ofName u l) = txOf b u ++ (it.ren ++ renL (ofName u l))
      rw [List.append_assoc]
    · rw [if_neg (fun e => h e.symm), if_neg h]
theorem wd_fold (u : Str) : ∀ (l : List It) (b : Bd), wdOf (l.foldl Bd.step b) u = wdOf b u + wordsOf (ofName u l)
  | [], b => by simp [ofName, wordsOf, S_nil]
  | it :: l, b => by
    rw [List.foldl_cons, wd_fold u l, step_wd, ofName_cons]
    by_cases h : it.nm = u
    · rw [if_pos h]
      have ew : wordsOf (it :: ofName u l) = it.wd + wordsOf (ofName u l) := S_cons
      rw [ew]
      cases it with
      | word c k nl =>
        have h' : c = u := h
        simp only [h'.symm, if_true]
        show _ = wdOf b c + (1 + _)
        omega
      | use c v q nl => show wdOf b u + 0 + _ = wdOf b u + (0 + _); omega
      | rem c => show wdOf b u + 0 + _ = wdOf b u + (0 + _); omega
    · rw [if_neg h]
      cases it with
      | word c k nl =>
        have h' : ¬ u = c := fun e => h e.symm
        simp only [h', if_false]; omega
      | use c v q nl => show wdOf b u + 0 + _ = _; omega
      | rem c => show wdOf b u + 0 + _ = _; omega
theorem us_fold (u : Str) : ∀ (l : List It) (b : Bd), (∀ it ∈ l, it.ok) → (l.foldl Bd.step b).us.filter (fun p => p.1 == u) = b.us.filter (fun p => p.1 == u) ++ usesOf u (1 + (txOf b u).count 10) (ofName u l)
  | [], b, _ => by simp [ofName, usesOf]
  | it :: l, b, hk => by
    have hk0 := hk it (.head _)
    rw [List.foldl_cons, us_fold u l _ (fun x hx => hk x (.tail _ hx)), step_tx, ofName_cons]
    by_cases h : it.nm = u
    · rw [if_pos h.symm, if_pos h, h, List.count_append, ren_10 hk0]
      cases it with
      | use c v q nl =>
        have h' : c = u := h
        subst h'
        show ((b.us ++ [(c, v, _)]).filter _) ++ _ = _
        rw [List.filter_append]
        have e1 : [((c, v, ((txOf b c ++ (It.use c v q nl).ren).count 10 : Int) + 1) : Str × Str × Int)].filter (fun p => p.1 == c) = [(c, v, ((txOf b c ++ (It.use c v q nl).ren).count 10 : Int) + 1)] := by simp
        rw [e1, List.append_assoc]
        congr 1
        show (c, v, _) :: usesOf c _ _ = (c, v, _) :: usesOf c _ _
        rw [List.count_append, ren_10 hk0]
        have e2 : (1 + (txOf b c).count 10 + NQ.nlN nl) = 1 + ((txOf b c).count 10 + (It.use c v q nl).nlN) := by show _ = 1 + ((txOf b c).count 10 + NQ.nlN nl); omega
        rw [e2]
        congr 3
        omega
      | word c k nl =>
        show _ = _ ++ usesOf u (1 + (txOf b u).count 10 + NQ.nlN nl) (ofName u l)
        rw [show 1 + ((txOf b u).count 10 + (It.word c k nl).nlN) = 1 + (txOf b u).count 10 + NQ.nlN nl from by show 1 + ((txOf b u).count 10 + NQ.nlN nl) = _; omega]
        rfl
      | rem c =>
        show _ = _ ++ usesOf u (1 + (txOf b u).count 10 + 1) (ofName u l)
        rw [show 1 + ((txOf b u).count 10 + (It.rem c).nlN) = 1 + (txOf b u).count 10 + 1 from by show 1 + ((txOf b u).count 10 + 1) = _; omega]
        rfl
    · rw [if_neg (fun e => h e.symm), if_neg h]
      congr 1
      cases it with
      | use c v q nl =>
        show (b.us ++ [_]).filter _ = _
        rw [List.filter_append]
        have h' : ¬ c = u := h
        simp [h']
      | word c k nl => rfl
      | rem c => rfl
/-! ### the order of the names -/
noncomputable def ltS (a v : Str) : Prop := ∃ i j, i < j ∧ j < 5 ∧ nms[i]? = some a ∧ nms[j]? = some v
theorem nms_idx {i j : Nat} {u : Str} (h : nms[i]? = some u) (h' : nms[j]? = some u) : i = j := by
  have hi := (List.getElem?_eq_some_iff.mp h).1
  exact (List.getElem?_inj hi nms_nodup).mp (h.trans h'.symm)
theorem rvn_get : ∀ k, k < 5 → rvn[k]? = nms[4 - k]? := by decide +kernel
theorem nms_lt {i : Nat} {u : Str} (h : nms[i]? = some u) : i < 5 := (List.getElem?_eq_some_iff.mp h).1
theorem ltS.irr {a : Str} (h : ltS a a) : False := by
  obtain ⟨i, j, h1, h2, h3, h4⟩ := h
  exact absurd (nms_idx h3 h4) (Nat.ne_of_lt h1)
theorem ltS.trans {a b c : Str} (h : ltS a b) (h' : ltS b c) : ltS a c := by
  obtain ⟨i, j, h1, h2, h3, h4⟩ := h
  obtain ⟨i', j', g1, g2, g3, g4⟩ := h'
  have := nms_idx h4 g3
  exact ⟨i, j', by omega, g2, h3, g4⟩
theorem ltS.left {a b : Str} (h : ltS a b) : a ∈ nms := let ⟨_, _, _, _, h, _⟩ := h; List.mem_of_getElem? h
theorem ltS.right {a b : Str} (h : ltS a b) : b ∈ nms := let ⟨_, _, _, _, _, h⟩ := h; List.mem_of_getElem? h
theorem mem_take {l : List Str} {i k : Nat} {u : Str} (h : l[i]? = some u) (hk : i < k) : u ∈ l.take k := by
  refine List.mem_of_getElem? (i := i) ?_
  rw [List.getElem?_take_of_lt hk]; exact h
theorem of_mem_take {l : List Str} {k : Nat} {u : Str} (h : u ∈ l.take k) : ∃ i, i < k ∧ l[i]? = some u := by
  obtain ⟨i, hi⟩ := List.mem_iff_getElem?.mp h
  have hl := (List.getElem?_eq_some_iff.mp hi).1
  rw [List.length_take] at hl
  have hk : i < k := by omega
  exact ⟨i, hk, by rw [← hi, List.getElem?_take_of_lt hk]⟩
theorem ltS.nms {a v : Str} (h : ltS a v) {i : Nat} (e : nms[i]? = some v) : a ∈ nms.take i := by
  obtain ⟨i', j, h1, h2, h3, h4⟩ := h
  have := nms_idx h4 e
  exact mem_take h3 (by omega)
theorem ltS.rvn {a v : Str} (h : ltS a v) {i : Nat} (e : NQ.rvn[i]? = some a) : v ∈ NQ.rvn.take i := by
  obtain ⟨i', j, h1, h2, h3, h4⟩ := h
  have i5 := rvn_len e
  rw [rvn_get i i5] at e
  have := nms_idx h3 e
  refine mem_take (i := 4 - j) ?_ (by omega)
  rw [rvn_get _ (by omega), show 4 - (4 - j) = j from by omega]; exact h4
theorem nms_ind (P : Str → Prop) (h : ∀ u ∈ nms, (∀ v, ltS u v → P v) → P u) : ∀ u ∈ nms, P u := by
  have key : ∀ n i u, i + n = 5 → nms[i]? = some u → P u := by
    intro n
    induction n using Nat.strongRecOn with
    | _ n ih =>
      intro i u hn hu
      refine h u (List.mem_of_getElem? hu) fun v hv => ?_
      obtain ⟨i', j, h1, h2, h3, h4⟩ := hv
      have := nms_idx h3 hu
      exact ih (5 - j) (by omega) j v (by omega) h4
  intro u hu
  obtain ⟨i, hi⟩ := List.mem_iff_getElem?.mp hu
  have := nms_lt hi
  exact key (5 - i) i u (by omega) hi
/-! ### ways -/
noncomputable def cu (U : Us) (u : Str) : Us := U.filter fun p => p.1 == u
theorem mem_cu {U : Us} {u : Str} {p : Str × Str × Int} : p ∈ cu U u ↔ p ∈ U ∧ p.1 = u := by
  unfold cu; rw [List.mem_filter]; simp
structure Ways (U : Us) (W : Str → Str → Int) : Prop where
  ord : ∀ p ∈ U, ltS p.1 p.2.1
  self : ∀ u ∈ nms, W u u = 1
  step : ∀ u ∈ nms, ∀ x, x ≠ u → W u x = S (cu U u) (fun p => W p.2.1 x)
section
variable {U : Us} {W : Str → Str → Int} (H : Ways U W)
include H
theorem Ways.lt {u : Str} {p : Str × Str × Int} (hp : p ∈ cu U u) : ltS u p.2.1 := by
  have := mem_cu.mp hp
  rw [← this.2]; exact H.ord p this.1
theorem Ways.zero : ∀ u ∈ nms, ∀ x, ltS x u → W u x = 0 := nms_ind _ fun u hu ih x hx => by
  rw [H.step u hu x (fun e => by rw [e] at hx; exact hx.irr)]
  exact S_eq0 fun p hp => ih _ (H.lt hp) x (hx.trans (H.lt hp))
theorem Ways.one {u : Str} (hu : u ∈ nms) (a : Str) : W u a = (if a = u then 1 else 0) + S (cu U u) (fun p => W p.2.1 a) := by
  by_cases e : a = u
  · subst e
    rw [if_pos rfl, H.self a hu, S_eq0 fun p hp => H.zero _ (H.lt hp).right a (H.lt hp)]; rfl
  · rw [if_neg e, H.step u hu a e]; omega
theorem Ways.swap {u : Str} (hu : u ∈ nms) (h : Str × Str × Int → Int) : S U (fun q => h q * W u q.1) = S (cu U u) (fun p => h p + S U (fun q => h q * W p.2.1 q.1)) := by
  rw [S_add]
  have e1 : S U (fun q => h q * W u q.1) = S U (fun q => (if q.1 == u then h q else 0) + h q * S (cu U u) (fun p => W p.2.1 q.1)) := S_congr fun q _ => by
    rw [H.one hu q.1]
    by_cases e : q.1 = u
    · simp only [e, if_true, beq_self_eq_true, Int.mul_add, Int.mul_one]
    · have e' : (q.1 == u) = false := by simpa using e
      simp only [e, e', if_false, Bool.false_eq_true, Int.zero_add]
  rw [e1, S_add]
  congr 1
  · exact S_filter.symm
  · rw [S_swap]
    exact S_congr fun q _ => S_mul'.symm
theorem Ways.last : ∀ u ∈ nms, ∀ x, S U (fun q => (if q.2.1 = x then 1 else 0) * W u q.1) = if x = u then 0 else W u x := nms_ind _ fun u hu ih x => by
  rw [H.swap hu (fun q => if q.2.1 = x then 1 else 0)]
  have e : S (cu U u) (fun p => (if p.2.1 = x then 1 else 0) + S U (fun q => (if q.2.1 = x then 1 else 0) * W p.2.1 q.1)) = S (cu U u) (fun p => W p.2.1 x) := S_congr fun p hp => by
    rw [ih _ (H.lt hp) x]
    by_cases z : x = p.2.1
    · subst z; rw [if_pos rfl, if_pos rfl, H.self _ (H.lt hp).right]; rfl
    · rw [if_neg (fun q => z q.symm), if_neg z]; omega
  rw [e]
  by_cases z : x = u
  · subst z; rw [if_pos rfl]; exact S_eq0 fun p hp => H.zero _ (H.lt hp).right x (H.lt hp)
  · rw [if_neg z, H.step u hu x z]
theorem Ways.cal {C : Str → Str → Int} {k : Str × Str × Int → Int} (h1 : ∀ u ∈ nms, C u u = 0) (h2 : ∀ u ∈ nms, ∀ x, x ≠ u → C u x = S (cu U u) (fun p => C p.2.1 x + if x = p.2.1 then k p else 0)) :
    ∀ u ∈ nms, ∀ x, C u x = S U (fun q => (if q.2.1 = x then k q else 0) * W u q.1) := nms_ind _ fun u hu ih x => by
  by_cases z : x = u
  · subst z
    rw [h1 x hu]
    refine (S_eq0 fun q hq => ?_).symm
    by_cases e : q.2.1 = x
    · rw [H.zero x hu q.1 (e ▸ H.ord q hq), Int.mul_zero]
    · rw [if_neg e, Int.zero_mul]
  · rw [h2 u hu x z, H.swap hu (fun q => if q.2.1 = x then k q else 0)]
    refine S_congr fun p hp => ?_
    rw [ih _ (H.lt hp) x]
    by_cases e : x = p.2.1
    · rw [if_pos e, if_pos e.symm]; omega
    · rw [if_neg e, if_neg (fun q => e q.symm)]; omega
theorem Ways.mul {A : Str → Str → Int} {c : Str → Int} (h1 : ∀ u ∈ nms, A u u = c u) (h2 : ∀ u ∈ nms, ∀ x, x ≠ u → A u x = S (cu U u) (fun p => A p.2.1 x)) : ∀ u ∈ nms, ∀ x, A u x = W u x * c x := nms_ind _ fun u hu ih x => by
  by_cases z : x = u
  · subst z; rw [h1 x hu, H.self x hu]; omega
  · rw [h2 u hu x z, H.step u hu x z, ← S_mul]
    exact S_congr fun p hp => ih _ (H.lt hp) x
theorem Ways.sum {Q : Str → Str → Int} (h1 : ∀ u ∈ nms, Q u u = 0) (h2 : ∀ u ∈ nms, ∀ x, x ≠ u → Q u x = S (cu U u) (fun p => Q p.2.1 x + if x = p.2.1 then 1 else 0)) : ∀ u ∈ nms, ∀ x, Q u x = if x = u then 0 else W u x := nms_ind _ fun u hu ih x => by
  by_cases z : x = u
  · subst z; rw [if_pos rfl]; exact h1 x hu
  · rw [if_neg z, h2 u hu x z, H.step u hu x z]
    refine S_congr fun p hp => ?_
    rw [ih _ (H.lt hp) x]
    by_cases e : x = p.2.1
    · subst e; rw [if_pos rfl, if_pos rfl, H.self _ (H.lt hp).right]; rfl
    · rw [if_neg e, if_neg e]; omega
theorem Ways.nonneg : ∀ u ∈ nms, ∀ x, 0 ≤ W u x := nms_ind _ fun u hu ih x => by
  by_cases z : x = u
  · subst z; rw [H.self x hu]; decide
  · rw [H.step u hu x z]; exact S_nonneg fun p hp => ih _ (H.lt hp) x
theorem Ways.le (hl : U.length ≤ 1000) (x : Str) : ∀ i u, u ∈ rvn.take i → W u x ≤ 1000 ^ i := by
  intro i
  induction i with
  | zero => intro u hu; exact nomatch hu
  | succ i ih =>
    intro u hu
    have hp : (1 : Int) ≤ 1000 ^ (i + 1) := by
      have : (0 : Int) < 1000 ^ (i + 1) := Int.pow_pos (by decide)
      omega
    obtain ⟨j, hj, hju⟩ := of_mem_take hu
    have hun : u ∈ nms := rvn_nms (List.mem_of_getElem? hju)
    by_cases z : x = u
    · subst z; rw [H.self x hun]; exact hp
    · rw [H.step u hun x z]
      have h1 : S (cu U u) (fun p => W p.2.1 x) ≤ (cu U u).length * 1000 ^ i := S_le fun p hp => by
        refine ih p.2.1 ?_
        have hm := (H.lt hp).rvn hju
        obtain ⟨j', hj', e'⟩ := of_mem_take hm
        exact mem_take e' (by omega)
      have h2 : (cu U u).length ≤ 1000 := Nat.le_trans (List.length_filter_le _ _) hl
      have h3 : (0 : Int) ≤ 1000 ^ i := Int.le_of_lt (Int.pow_pos (by decide))
      have h4 : ((cu U u).length : Int) * 1000 ^ i ≤ 1000 * 1000 ^ i := Int.mul_le_mul_of_nonneg_right (by omega) h3
      rw [Int.pow_succ, Int.mul_comm (1000 ^ i) 1000]
      omega
end
/-! ### what is due tells the ways -/
section due
variable {U : Us} {W : Str → Str → Int} (H : Ways U W) {s : Str} (hs : s ∈ nms)
include H
include hs
theorem due_ways : ∀ i, ∀ x ∈ nms.take i, vAt (waysOf s U (nms.take i)) x = W s x
  | 0, x, hx => nomatch hx
  | i + 1, x, hx => by
    cases q : nms[i]? with
    | none =>
      have : nms.take (i + 1) = nms.take i := by rw [List.take_add_one, q]; simp
      rw [this] at hx ⊢; exact due_ways i x hx
    | some u =>
      have hu : u ∈ nms := List.mem_of_getElem? q
      rw [ways_next q]
      have e1 : ((U.filter (fun p => p.2.1 == u)).map fun p => (look (waysOf s U (nms.take i)) p.1).getD 0).sum = S U (fun q => (if q.2.1 = u then 1 else 0) * W s q.1) := by
        show S (U.filter (fun p => p.2.1 == u)) (fun p => vAt (waysOf s U (nms.take i)) p.1) = _
        rw [S_filter]
        refine S_congr fun p hp => ?_
        by_cases e : p.2.1 = u
        · have e' : (p.2.1 == u) = true := by simpa using e
          rw [e', if_pos rfl, if_pos e, due_ways i p.1 ((H.ord p hp).nms (e ▸ q)), Int.one_mul]
        · have e' : (p.2.1 == u) = false := by simpa using e
          rw [e', if_neg (by decide), if_neg e, Int.zero_mul]
      have hx' : x ∈ nms.take i ∨ x = u := by
        rw [List.take_add_one, q] at hx
        rcases List.mem_append.mp hx with h | h
        · exact .inl h
        · exact .inr (by simpa using h)
      unfold wayStep
      rw [e1, H.last s hs u]
      by_cases z : u = s
      · rw [if_pos z, vAt_put, vAt_put]
        by_cases xu : x = u
        · rw [if_pos xu, xu, z, H.self s hs]
        · rw [if_neg xu, if_neg xu]
          exact due_ways i x (hx'.resolve_right xu)
      · rw [if_neg z, if_neg z, vAt_put]
        by_cases xu : x = u
        · rw [if_pos xu, xu]
        · rw [if_neg xu]
          exact due_ways i x (hx'.resolve_right xu)
end due
theorem due_sizes {U : Us} (hord : ∀ p ∈ U, ltS p.1 p.2.1) {wd : List (Str × Int)} {sz : Str → Int} (hz : ∀ u ∈ nms, sz u = vAt wd u + S (cu U u) (fun p => sz p.2.1)) : ∀ i, ∀ x ∈ rvn.take i, vAt (sizesOf wd U (rvn.take i)) x = sz x
  | 0, x, hx => nomatch hx
  | i + 1, x, hx => by
    cases q : rvn[i]? with
    | none =>
      have : rvn.take (i + 1) = rvn.take i := by rw [List.take_add_one, q]; simp
      rw [this] at hx ⊢; exact due_sizes hord hz i x hx
    | some u =>
      have hu : u ∈ nms := rvn_nms (List.mem_of_getElem? q)
      rw [sizes_next q]
      have hx' : x ∈ rvn.take i ∨ x = u := by
        rw [List.take_add_one, q] at hx
        rcases List.mem_append.mp hx with h | h
        · exact .inl h
        · exact .inr (by simpa using h)
      unfold sizeStep
      rw [vAt_put]
      by_cases xu : x = u
      · rw [if_pos xu, xu, hz u hu]
        congr 1
        show S (U.filter (fun p => p.1 == u)) (fun p => vAt (sizesOf wd U (rvn.take i)) p.2.1) = _
        refine S_congr fun p hp => ?_
        have hp' := mem_cu.mp hp
        exact due_sizes hord hz i p.2.1 ((hord p hp'.1).rvn (hp'.2 ▸ q))
      · rw [if_neg xu]
        exact due_sizes hord hz i x (hx'.resolve_right xu)
noncomputable def dueRow (tx : List (Str × List Nat)) (wd sz ws : List (Str × Int)) (us : Us) (x : Str) (n : Int) : Row := ⟨n * ((((look tx x).getD []).count 10 : Nat) : Int), n, n * vAt wd x, n * vAt sz x, calOf ws us x⟩
theorem due_look {tx : List (Str × List Nat)} {wd sz ws : List (Str × Int)} {us : Us} (x : Str) : ∀ (l : List (Str × Int)) (d : Tab), Nd l → Nd d → Nd (l.foldl (dueStep tx wd sz ws us) d) ∧
    look (l.foldl (dueStep tx wd sz ws us) d) x = if 0 < vAt l x then some (dueRow tx wd sz ws us x (vAt l x)) else look d x
  | [], d, _, hd => ⟨hd, rfl⟩
  | p :: l, d, h, hd => by
    have h' : p.1 ∉ l.map (·.1) ∧ Nd l := List.nodup_cons.mp h
    have hd' : Nd (dueStep tx wd sz ws us d p) := by
      unfold dueStep; split
      · exact hd.put
      · exact hd
    obtain ⟨a, b⟩ := due_look (tx := tx) (wd := wd) (sz := sz) (ws := ws) (us := us) x l (dueStep tx wd sz ws us d p) h'.2 hd'
    refine ⟨a, ?_⟩
    rw [List.foldl_cons, b]
    by_cases e : x = p.1
    · subst e
      have e1 : vAt l p.1 = 0 := by unfold vAt; rw [look_none h'.1]; rfl
      have e2 : vAt (p :: l) p.1 = p.2 := by simp [vAt, look]
      rw [e1, e2, if_neg (by decide)]
      unfold dueStep
      by_cases z : 0 < p.2
      · rw [if_pos z, if_pos z, look_put, if_pos rfl]; rfl
      · rw [if_neg z, if_neg z]
    · have e' : ¬ p.1 = x := fun q => e q.symm
      have e2 : vAt (p :: l) x = vAt l x := by simp [vAt, look, e']
      rw [e2]
      have e3 : look (dueStep tx wd sz ws us d p) x = look d x := by
        unfold dueStep; split
        · rw [look_put, if_neg e]
        · rfl
      rw [e3]
theorem cal_at {ws : List (Str × Int)} {u : Str} (k : Str) : ∀ (us : Us) (cal : List (Str × Int)), NP cal → (∀ p ∈ us, 0 ≤ vAt ws p.1) → NP (us.foldl (calStep ws u) cal) ∧
    vAt (us.foldl (calStep ws u) cal) k = vAt cal k + S us (fun q => (if q.2.1 = u then (if k = leadS q.1 q.2.2 then 1 else 0) else 0) * vAt ws q.1)
  | [], cal, h, _ => ⟨h, by simp [S_nil]⟩
  | p :: us, cal, h, hw => by
    have hp := hw p (.head _)
    have h1 : NP (calStep ws u cal p) := by
      unfold calStep; split
      · rename_i z; exact h.put (by have := h.ge (leadS p.1 p.2.2); have := z.2; omega)
      · exact h
    obtain ⟨a, b⟩ := cal_at k us (calStep ws u cal p) h1 fun q hq => hw q (.tail _ hq)
    refine ⟨a, ?_⟩
    rw [List.foldl_cons, b, S_cons]
    unfold calStep
    by_cases z : p.2.1 = u
    · by_cases y : 0 < vAt ws p.1
      · rw [if_pos ⟨z, y⟩, vAt_put, if_pos z]
        by_cases e : k = leadS p.1 p.2.2
        · subst e; rw [if_pos rfl, if_pos rfl]; omega
        · rw [if_neg e, if_neg e]; omega
      · have y0 : vAt ws p.1 = 0 := by omega
        rw [if_neg (fun q => y q.2), y0, Int.mul_zero]; omega
    · rw [if_neg (fun q => z q.1), if_neg z, Int.zero_mul]; omega
theorem cal_same {l l' : List (Str × Int)} (h : NP l) (h' : NP l') (e : ∀ k, vAt l k = vAt l' k) : l.length = l'.length ∧ ∀ p ∈ l, look l' p.1 = some p.2 := by
  have e1 : ∀ k, (look l k).isSome = (look l' k).isSome := fun k => by
    rw [Bool.eq_iff_iff, h.at, h'.at, e k]
  refine ⟨len_eq h.nd h'.nd e1, fun p hp => ?_⟩
  have hl := h.nd.look (k := p.1) (a := p.2) hp
  have hs : (look l' p.1).isSome = true := by rw [← e1, hl]; rfl
  obtain ⟨b, hb⟩ := Option.isSome_iff_exists.mp hs
  have ev := e p.1
  unfold vAt at ev
  rw [hl, hb] at ev
  simp only [Option.getD_some] at ev
  rw [hb, ev]
/-! ### the law's own texts -/
noncomputable def itemsX (xs : List Int) : List It := (ownL ++ xs.take 10).map itemOf
noncomputable def itsX (xs : List Int) (u : Str) : List It := ofName u (itemsX xs)
theorem items_ok (xs : List Int) : ∀ it ∈ itemsX xs, it.ok := fun it h => by
  obtain ⟨x, _, rfl⟩ := List.mem_map.mp h
  exact itemOf_ok x
theorem its_sub {xs : List Int} {u : Str} {it : It} (h : it ∈ itsX xs u) : it ∈ itemsX xs ∧ it.nm = u := by
  unfold itsX ofName at h
  rw [List.mem_filter] at h
  exact ⟨h.1, by simpa using h.2⟩
theorem its_ok (xs : List Int) (u : Str) : ∀ it ∈ itsX xs u, it.ok := fun it h => items_ok xs it (its_sub h).1
theorem items_len (xs : List Int) : (itemsX xs).length ≤ 21 := by
  unfold itemsX
  have e : ownL.length = 11 := rfl
  simp; omega
theorem its_len (xs : List Int) (u : Str) : (itsX xs u).length ≤ 21 := Nat.le_trans (List.length_filter_le _ _) (items_len xs)
theorem itemOf_lt {x : Int} {a v : Str} {q nl : Bool} (h : itemOf x = .use a v q nl) : ltS a v := by
  unfold itemOf at h
  simp only at h
  have h5 := fmod5 x
  split at h
  · rename_i c
    have hp : (0 : Int) < ((4 - (x.fmod 5).toNat : Nat) : Int) := by omega
    have h1 := Int.fmod_nonneg_of_pos ((x.fdiv 30).fdiv 2) hp
    have h2 := Int.fmod_lt_of_pos ((x.fdiv 30).fdiv 2) hp
    injection h with e1 e2
    subst e1; subst e2
    exact ⟨(x.fmod 5).toNat, (x.fmod 5).toNat + 1 + (((x.fdiv 30).fdiv 2).fmod ((4 - (x.fmod 5).toNat : Nat) : Int)).toNat, by omega, by omega, nms_get (by omega), nms_get (by omega)⟩
  · split at h <;> cases h
theorem its_lt {xs : List Int} {u a v : Str} {q nl : Bool} (h : It.use a v q nl ∈ itsX xs u) : ltS u v := by
  obtain ⟨h1, h2⟩ := its_sub h
  obtain ⟨x, _, e⟩ := List.mem_map.mp h1
  have := itemOf_lt e
  rw [← h2]; exact this
theorem tx0 (u : Str) : txOf bd0 u = [] := List.length_eq_zero_iff.mp (Nat.le_zero.mp (bd0_ok.ln u))
theorem wd0 (u : Str) : wdOf bd0 u = 0 := by
  unfold wdOf look bd0
  cases q : (nms.map fun n => (n, (0 : Int))).find? (fun kv => decide (kv.1 = u)) with
  | none => rfl
  | some p =>
    obtain ⟨n, _, rfl⟩ := List.mem_map.mp (List.mem_of_find?_eq_some q)
    rfl
theorem built_tx (xs : List Int) (u : Str) : txOf (built xs) u = renL (itsX xs u) := by
  have := tx_fold u (itemsX xs) bd0
  rw [tx0, List.nil_append] at this
  exact this
theorem built_wd (xs : List Int) (u : Str) : wdOf (built xs) u = wordsOf (itsX xs u) := by
  have := wd_fold u (itemsX xs) bd0
  rw [wd0, Int.zero_add] at this
  exact this
theorem built_us (xs : List Int) (u : Str) : cu (built xs).us u = usesOf u 1 (itsX xs u) := by
  have := us_fold u (itemsX xs) bd0 (items_ok xs)
  rw [tx0] at this
  exact this
theorem built_ok (xs : List Int) : BdOk (built xs) (itemsX xs).length := by
  have := BdOk.fold (itemsX xs) bd0 0 bd0_ok (items_ok xs)
  rw [Nat.zero_add] at this
  exact this
theorem uses_mem {u : Str} : ∀ {l : List It} {ln : Nat} {p : Str × Str × Int}, p ∈ usesOf u ln l → p.1 = u ∧ (∃ a q nl, It.use a p.2.1 q nl ∈ l) ∧ 0 ≤ p.2.2 ∧ p.2.2 ≤ ln + l.length
  | [], ln, p, h => nomatch h
  | it :: l, ln, p, h => by
    cases it with
    | use a v q nl =>
      rcases List.mem_cons.mp h with rfl | h
      · refine ⟨rfl, ⟨a, q, nl, .head _⟩, by show (0 : Int) ≤ ((ln + NQ.nlN nl : Nat) : Int); omega, ?_⟩
        have : NQ.nlN nl ≤ 1 := by cases nl <;> decide
        show ((ln + NQ.nlN nl : Nat) : Int) ≤ _
        simp only [List.length_cons]; omega
      · obtain ⟨h1, ⟨a', q', nl', h2⟩, h3, h4⟩ := uses_mem h
        have : NQ.nlN nl ≤ 1 := by cases nl <;> decide
        exact ⟨h1, ⟨a', q', nl', .tail _ h2⟩, h3, by simp only [List.length_cons]; omega⟩
    | word a k nl =>
      obtain ⟨h1, ⟨a', q', nl', h2⟩, h3, h4⟩ := uses_mem (ln := ln + (It.word a k nl).nlN) h
      have := @ln_bound (It.word a k nl)
      exact ⟨h1, ⟨a', q', nl', .tail _ h2⟩, h3, by simp only [List.length_cons]; omega⟩
    | rem a =>
      obtain ⟨h1, ⟨a', q', nl', h2⟩, h3, h4⟩ := uses_mem (ln := ln + (It.rem a).nlN) h
      have := @ln_bound (It.rem a)
      exact ⟨h1, ⟨a', q', nl', .tail _ h2⟩, h3, by simp only [List.length_cons]; omega⟩
theorem us_all {xs : List Int} {p : Str × Str × Int} (h : p ∈ (built xs).us) : ltS p.1 p.2.1 ∧ 0 ≤ p.2.2 ∧ p.2.2 ≤ 22 := by
  have hm : p ∈ cu (built xs).us p.1 := mem_cu.mpr ⟨h, rfl⟩
  rw [built_us] at hm
  obtain ⟨_, ⟨a, q, nl, h2⟩, h3, h4⟩ := uses_mem hm
  have := its_len xs p.1
  exact ⟨its_lt h2, h3, by omega⟩
/-! ### the tables, stage by stage -/
section
variable (its : Str → List It)
theorem whole_old : ∀ (j i : Nat), i ≤ j → ∀ v ∈ rvn.take i, tabAt (wholeOf its (rvn.take j)) v = tabAt (wholeOf its (rvn.take i)) v
  | 0, i, h, v, hv => by
    have : i = 0 := by omega
    subst this; rfl
  | j + 1, i, h, v, hv => by
    by_cases e : i = j + 1
    · subst e; rfl
    · cases q : rvn[j]? with
      | none =>
        have : rvn.take (j + 1) = rvn.take j := by rw [List.take_add_one, q]; simp
        rw [this]; exact whole_old j i (by omega) v hv
      | some u =>
        rw [whole_next q, ← whole_old j i (by omega) v hv]
        have hne : v ≠ u := fun z => by
          obtain ⟨k, hk, e'⟩ := of_mem_take hv
          rw [z] at e'
          have hl := (List.getElem?_eq_some_iff.mp e').1
          have := (List.getElem?_inj hl rvn_nodup).mp (e'.trans q.symm)
          omega
        unfold tabAt
        rw [look_put, if_neg hne]
theorem whole_at {i : Nat} {u : Str} (h : rvn[i]? = some u) : tabAt (wholeOf its rvn) u = tabOf (wholeOf its (rvn.take i)) u (its u) := by
  have i5 := rvn_len h
  have e := whole_old its 5 (i + 1) (by omega) u (mem_take h (Nat.lt_succ_self _))
  rw [show rvn.take 5 = rvn from rfl] at e
  rw [e, whole_next h]
  unfold tabAt
  rw [look_put, if_pos rfl]; rfl
theorem whole_below {i : Nat} (hi : i ≤ 5) {v : Str} (hv : v ∈ rvn.take i) : tabAt (wholeOf its (rvn.take i)) v = tabAt (wholeOf its rvn) v := (whole_old its 5 i hi v hv).symm
end
noncomputable abbrev whX (xs : List Int) : List (Str × Tab) := wholeOf (itsX xs) rvn
noncomputable def RX (xs : List Int) (u x : Str) : Row := rowAt (tabAt (whX xs) u) x
theorem tab_ok (xs : List Int) : ∀ u ∈ nms, NT (tabAt (whX xs) u) ∧ (look (tabAt (whX xs) u) u).isSome = true := nms_ind _ fun u hu ih => by
  obtain ⟨i, hi⟩ := List.mem_iff_getElem?.mp (nms_rvn hu)
  have i5 := rvn_len hi
  rw [whole_at (itsX xs) hi]
  have hv : ∀ c v q nl, It.use c v q nl ∈ itsX xs u → NT (tabAt (wholeOf (itsX xs) (rvn.take i)) v) ∧ (look (tabAt (wholeOf (itsX xs) (rvn.take i)) v) v).isSome = true := fun c v q nl hm => by
    have hl := its_lt hm
    rw [whole_below (itsX xs) (by omega) (hl.rvn hi)]
    exact ih v hl
  obtain ⟨a, _⟩ := acc_all add_nc (wh := wholeOf (itsX xs) (rvn.take i)) (u := u) u (itsX xs u) acc0 .nil (its_ok xs u) hv
  constructor
  · exact a.put (by show (0 : Int) < 1; decide) .nil
  · unfold tabOf; rw [look_put, if_pos rfl]; rfl
theorem tab_eq (xs : List Int) {φ : Row → Int} (F : Addv φ) {u : Str} (hu : u ∈ nms) (x : Str) :
    (x ≠ u → φ (RX xs u x) = S (cu (built xs).us u) (fun p => φ (RX xs p.2.1 x) + if x = p.2.1 then φ (unitR p.1 p.2.2) else 0)) ∧
    RX xs u u = ⟨((renL (itsX xs u)).count 10 : Nat), 1, wordsOf (itsX xs u), wordsOf (itsX xs u) + S (cu (built xs).us u) (fun p => (RX xs p.2.1 p.2.1).ct), []⟩ := by
  obtain ⟨i, hi⟩ := List.mem_iff_getElem?.mp (nms_rvn hu)
  have i5 := rvn_len hi
  have hv : ∀ c v q nl, It.use c v q nl ∈ itsX xs u → NT (tabAt (wholeOf (itsX xs) (rvn.take i)) v) ∧ (look (tabAt (wholeOf (itsX xs) (rvn.take i)) v) v).isSome = true := fun c v q nl hm => by
    have hl := its_lt hm
    rw [whole_below (itsX xs) (by omega) (hl.rvn hi)]
    exact tab_ok xs v hl.right
  obtain ⟨_, b, c, d, e⟩ := acc_all F (wh := wholeOf (itsX xs) (rvn.take i)) (u := u) x (itsX xs u) acc0 .nil (its_ok xs u) hv
  have hb : ∀ p ∈ usesOf u 1 (itsX xs u), tabAt (wholeOf (itsX xs) (rvn.take i)) p.2.1 = tabAt (whX xs) p.2.1 ∧ p.1 = u := fun p hp => by
    obtain ⟨h1, ⟨a, q, nl, h2⟩, _, _⟩ := uses_mem hp
    exact ⟨whole_below (itsX xs) (by omega) ((its_lt h2).rvn hi), h1⟩
  constructor
  · intro hx
    unfold RX
    rw [whole_at (itsX xs) hi]
    unfold tabOf
    rw [rowAt_put, if_neg hx, b, built_us]
    have z : φ (rowAt acc0.rows x) = 0 := F.zero
    rw [z, Int.zero_add]
    refine S_congr fun p hp => ?_
    obtain ⟨h1, h2⟩ := hb p hp
    rw [h1, h2]
  · unfold RX
    rw [whole_at (itsX xs) hi]
    unfold tabOf
    rw [rowAt_put, if_pos rfl, c, d, e, built_us]
    have hsum : S (usesOf u acc0.ln (itsX xs u)) (fun p => (rowAt (tabAt (wholeOf (itsX xs) (rvn.take i)) p.2.1) p.2.1).ct) = S (usesOf u 1 (itsX xs u)) (fun p => (rowAt (tabAt (whX xs) p.2.1) p.2.1).ct) :=
      S_congr fun p hp => by rw [(hb p hp).1]
    rw [hsum]
    have e0 : acc0.own = 0 := rfl
    have e1 : acc0.size = 0 := rfl
    have e2 : acc0.ln = 1 := rfl
    rw [e0, e1, e2, Int.zero_add, Int.zero_add]
    congr 1
    omega
noncomputable def WX (xs : List Int) (u x : Str) : Int := (RX xs u x).nc
theorem ways_X (xs : List Int) : Ways (built xs).us (WX xs) where
  ord p hp := (us_all hp).1
  self u hu := by unfold WX; rw [(tab_eq xs add_nc hu u).2]
  step u hu x hx := by
    unfold WX
    rw [(tab_eq xs add_nc hu x).1 hx]
    refine S_congr fun p hp => ?_
    have : (unitR p.1 p.2.2).nc = 0 := rfl
    rw [this, ite_self]; omega
theorem mul_X (xs : List Int) {φ : Row → Int} (F : Addv φ) (h0 : ∀ u ln, φ (unitR u ln) = 0) : ∀ u ∈ nms, ∀ x, φ (RX xs u x) = WX xs u x * φ (RX xs x x) :=
  (ways_X xs).mul (c := fun x => φ (RX xs x x)) (A := fun u x => φ (RX xs u x)) (fun u _ => rfl) fun u hu x hx => by
    rw [(tab_eq xs F hu x).1 hx]
    refine S_congr fun p hp => ?_
    rw [h0, ite_self]; omega
theorem cal_X (xs : List Int) (k : Str) : ∀ u ∈ nms, ∀ x, vAt (RX xs u x).cal k = S (built xs).us (fun q => (if q.2.1 = x then (if k = leadS q.1 q.2.2 then 1 else 0) else 0) * WX xs u q.1) :=
  (ways_X xs).cal (C := fun u x => vAt (RX xs u x).cal k) (k := fun q => if k = leadS q.1 q.2.2 then 1 else 0) (fun u hu => by rw [(tab_eq xs add_nc hu u).2]; rfl) fun u hu x hx => by
    rw [(tab_eq xs (add_cal k) hu x).1 hx]
    refine S_congr fun p hp => ?_
    have : vAt (unitR p.1 p.2.2).cal k = if k = leadS p.1 p.2.2 then 1 else 0 := by
      by_cases e : k = leadS p.1 p.2.2
      · rw [if_pos e]; subst e; simp [vAt, look]
      · have e' : ¬ leadS p.1 p.2.2 = k := fun z => e z.symm
        rw [if_neg e]; simp [vAt, look, e']
    rw [this]
theorem sum_X (xs : List Int) : ∀ u ∈ nms, ∀ x, sumC (RX xs u x).cal = if x = u then 0 else WX xs u x :=
  (ways_X xs).sum (Q := fun u x => sumC (RX xs u x).cal) (fun u hu => by rw [(tab_eq xs add_nc hu u).2]; rfl) fun u hu x hx => by
    rw [(tab_eq xs add_sum hu x).1 hx]
    refine S_congr fun p hp => ?_
    have : sumC (unitR p.1 p.2.2).cal = 1 := rfl
    rw [this]
theorem RX_look {xs : List Int} {u x : Str} {r : Row} (h : look (tabAt (whX xs) u) x = some r) : RX xs u x = r := getD_some h
theorem vAt_mem {l : List (Str × Int)} (h : Nd l) {p : Str × Int} (hp : p ∈ l) : vAt l p.1 = p.2 := getD_some (h.look (k := p.1) (a := p.2) hp)
theorem facts (xs : List Int) : ∃ its ld, Facts xs its ld := by
  have B := built_ok xs
  have L := items_len xs
  have HW := ways_X xs
  refine ⟨itsX xs, rvn.flatMap (fun u => leadsOf u 1 (itsX xs u)), ?_⟩
  have ktx : ∀ u ∈ nms, ∃ t, look (built xs).tx u = some t := fun u hu => look_some (by rw [B.kt]; exact hu)
  have kwd : ∀ u ∈ nms, ∃ t, look (built xs).wd u = some t := fun u hu => look_some (by rw [B.kw]; exact hu)
  have hul : (built xs).us.length ≤ 21 := Nat.le_trans B.lu L
  have htx : ∀ u ∈ nms, look (built xs).tx u = some (renL (itsX xs u)) := fun u hu => by
    obtain ⟨t, e⟩ := ktx u hu
    have e2 : txOf (built xs) u = t := getD_some e
    rw [e, ← e2, built_tx]
  have hord : ∀ p ∈ (built xs).us, ltS p.1 p.2.1 := fun p hp => (us_all hp).1
  have kws : ∀ s, (waysOf s (built xs).us nms).map (·.1) = nms := fun s => keys_waysT s (built xs).us 5
  have hws : ∀ s ∈ nms, ∀ x ∈ nms, vAt (waysOf s (built xs).us nms) x = WX xs s x := fun s hs x hx => due_ways HW hs 5 x hx
  have hwn : ∀ s, Nd (waysOf s (built xs).us nms) := fun s => by unfold Nd; rw [kws s]; exact nms_nodup
  refine ⟨fun u hu => htx u (rvn_nms hu), its_ok xs, fun i u hi a v q nl hm => (its_lt hm).rvn hi, fun u => Nat.le_trans (its_len xs u) (by decide), fun u hu x hx => List.mem_flatMap.mpr ⟨u, hu, hx⟩, ?_, ktx, kwd,
    fun i u hi p hp e => (hord p hp).nms (e ▸ hi), fun i u hi p hp e => (hord p hp).rvn (e ▸ hi), fun p hp => ⟨(hord p hp).left, (us_all hp).2.1, by have := (us_all hp).2.2; omega⟩, by omega, ?_, ?_⟩
  · have h1 : ∀ u, (leadsOf u 1 (itsX xs u)).length ≤ 21 := fun u => Nat.le_trans (leadsOf_len u _ _) (its_len xs u)
    have a1 := h1 s_e2
    have a2 := h1 s_dd
    have a3 := h1 s_c_c
    have a4 := h1 s_b1
    have a5 := h1 s_main
    simp only [rvn, List.flatMap_cons, List.flatMap_nil, List.length_append, List.length_nil]
    omega
  · intro s hs p hp
    have hx : p.1 ∈ nms := by rw [← kws s]; exact List.mem_map.mpr ⟨p, hp, rfl⟩
    have e := (vAt_mem (hwn s) hp).symm.trans (hws s hs p.1 hx)
    rw [e]
    refine ⟨HW.nonneg s hs p.1, Int.lt_of_le_of_lt (HW.le (by omega) p.1 5 s (nms_rvn hs)) (by decide)⟩
  · rintro ⟨u, t⟩ hp
    have hkw : (whX xs).map (·.1) = rvn := keys_whole (itsX xs) (i := 5)
    have hu : u ∈ nms := rvn_nms (hkw ▸ List.mem_map.mpr ⟨_, hp, rfl⟩)
    have hnw : Nd (whX xs) := by unfold Nd; rw [hkw]; exact rvn_nodup
    have hl : look (whX xs) u = some t := hnw.look hp
    have et : tabAt (whX xs) u = t := getD_some hl
    obtain ⟨nt, _⟩ := tab_ok xs u hu
    have hgood := (whole_good (itsX xs) (rvn.flatMap (fun u => leadsOf u 1 (itsX xs u))) (its_ok xs) (fun u hu x hx => List.mem_flatMap.mpr ⟨u, hu, hx⟩) 5).1 u
    have hkeys : ∀ p ∈ t, p.1 ∈ nms := fun p hp => rvn_nms ((hgood p (by show p ∈ tabAt (whX xs) u; rw [et]; exact hp)).1)
    have hrow : ∀ p ∈ t, RX xs u p.1 = p.2 := fun p hp => RX_look (by rw [et]; exact (et ▸ nt).nd.look (k := p.1) (a := p.2) hp)
    have ksz : ∀ x ∈ nms, vAt (sizesOf (built xs).wd (built xs).us rvn) x = (RX xs x x).ct := fun x hx =>
      due_sizes hord (sz := fun x => (RX xs x x).ct) (fun v hv => by
        have e1 := congrArg Row.ct (tab_eq xs add_nc hv v).2
        rw [e1]
        show wordsOf (itsX xs v) + _ = vAt (built xs).wd v + _
        rw [show vAt (built xs).wd v = wordsOf (itsX xs v) from built_wd xs v]) 5 x (nms_rvn hx)
    have dl := fun x => due_look (tx := (built xs).tx) (wd := (built xs).wd) (sz := sizesOf (built xs).wd (built xs).us rvn) (ws := waysOf u (built xs).us nms) (us := (built xs).us) x (waysOf u (built xs).us nms) [] (hwn u) .nil
    have dlook : ∀ x ∈ nms, look (dueOf u (built xs).tx (built xs).wd (built xs).us) x = if 0 < WX xs u x then some (dueRow (built xs).tx (built xs).wd (sizesOf (built xs).wd (built xs).us rvn) (waysOf u (built xs).us nms) (built xs).us x (WX xs u x)) else none := fun x hx => by
      have := (dl x).2
      rw [hws u hu x hx] at this
      exact this
    have dnone : ∀ x, x ∉ nms → look (dueOf u (built xs).tx (built xs).wd (built xs).us) x = none := fun x hx => by
      have e0 : vAt (waysOf u (built xs).us nms) x = 0 := by unfold vAt; rw [look_none (by rw [kws u]; exact hx)]; rfl
      have := (dl x).2
      rw [e0, if_neg (by decide)] at this
      exact this
    have hat : ∀ x, (look t x).isSome = true ↔ 0 < WX xs u x := fun x => by
      rw [← et]; exact nt.at
    refine ⟨⟨len_eq (et ▸ nt).nd (dl u).1 fun x => ?_, fun p hp => ?_⟩, fun p hp => ?_⟩
    · show (look t x).isSome = (look (dueOf u (built xs).tx (built xs).wd (built xs).us) x).isSome
      by_cases hx : x ∈ nms
      · rw [dlook x hx, Bool.eq_iff_iff, hat]
        by_cases z : 0 < WX xs u x
        · rw [if_pos z]; simp [z]
        · rw [if_neg z]; simp [z]
      · rw [dnone x hx]
        cases e : look t x with
        | none => rfl
        | some r => exact absurd (hkeys _ (look_mem e)) hx
    · have hx := hkeys p hp
      have er := hrow p hp
      have hpos : 0 < WX xs u p.1 := (hat p.1).mp (isSome_key.mpr (List.mem_map.mpr ⟨p, hp, rfl⟩))
      refine ⟨_, by show look (dueOf u (built xs).tx (built xs).wd (built xs).us) p.1 = _; rw [dlook p.1 hx, if_pos hpos], ?_⟩
      have self := (tab_eq xs add_nc hx p.1).2
      have c0 := (cal_at (ws := waysOf u (built xs).us nms) (u := p.1) p.1 (built xs).us [] .nil (fun q hq => by rw [hws u hu q.1 (hord q hq).left]; exact HW.nonneg u hu q.1)).1
      have cal := cal_same (l := p.2.cal) (l' := calOf (waysOf u (built xs).us nms) (built xs).us p.1) ((et ▸ nt).row p hp).2 c0 fun k => by
        have c1 := (cal_at (ws := waysOf u (built xs).us nms) (u := p.1) k (built xs).us [] .nil (fun q hq => by rw [hws u hu q.1 (hord q hq).left]; exact HW.nonneg u hu q.1)).2
        rw [← er, cal_X xs k u hu p.1]
        show _ = vAt ((built xs).us.foldl (calStep (waysOf u (built xs).us nms) p.1) []) k
        rw [c1]
        have z : vAt [] k = 0 := rfl
        rw [z, Int.zero_add]
        exact S_congr fun q hq => by rw [hws u hu q.1 (hord q hq).left]
      refine ⟨?_, ?_, ?_, ?_, cal.1, cal.2⟩
      · rw [← er, mul_X xs add_cc (fun _ _ => rfl) u hu p.1, self]
        show _ = WX xs u p.1 * _
        rw [htx p.1 hx]; rfl
      · rw [← er]; rfl
      · rw [← er, mul_X xs add_tt (fun _ _ => rfl) u hu p.1, self]
        show WX xs u p.1 * wordsOf (itsX xs p.1) = WX xs u p.1 * vAt (built xs).wd p.1
        rw [show vAt (built xs).wd p.1 = wordsOf (itsX xs p.1) from built_wd xs p.1]
      · rw [← er, mul_X xs add_ct (fun _ _ => rfl) u hu p.1]
        show _ = WX xs u p.1 * vAt _ p.1
        rw [ksz p.1 hx]
    · have er := hrow p hp
      rw [← er, sum_X xs u hu p.1]; rfl
theorem walk_all (hF : ∀ xs : List Int, xs.length ≤ 63 → ∃ its ld, Facts xs its ld) : WalkO qV looseV (XL qV []) hook.says rwT.row.toRowW dLaw [] (fun f vs => PySem.call f vs) := by
  intro w s₀ s₁ mg mb G Y fa o pm cd doc dV kV ho hd hcd hD hmg hg args vals as hpre hlay hrd hwl hlo
  have KX := kIn_of Y
  have T := G.T
  wrow_args hpre hlay hrd hwl hlo
  rename List Int => xs
  rename IntsAre _ _ => hI
  rename Heap.IsList _ _ _ => hL
  rename Well _ _ _ _ => hW
  rename ¬ _ => hlen
  have hlen' : xs.length ≤ 63 := by omega
  rename_i as1 as2 sc svs as3 _ _ _ _
  have Gw : Gr w s₁.heap := ⟨KX, ⟨mg, T.g⟩, ⟨mb, T.b, T.builtins⟩, T.nolimit, T.nodigits⟩
  have hfa : fa = 780 := by
    have e1 : mg dLaw.name = some (.ref 780) := mg_of KX T.g (by kernel_rfl)
    rw [e1] at hmg
    injection hmg with e2
    injection e2 with e3
    exact e3.symm
  subst hfa
  obtain ⟨its, ld, F⟩ := hF xs hlen'
  have hsc : s₁.heap.get? sc = some (lstO svs) := by
    obtain ⟨o', g', c', n', d'⟩ := hL
    cases hW with
    | list e _ =>
      rw [e] at g'
      cases g'
      injection d' with d1 d2
      rw [e, d1]
  refine W.run ((c780 (P := fun v h' => v = .bool true ∧ Ext s₁.heap h') Gw hsc hI (by omega) F (by decide +kernel) rfl (by decide +kernel) fun h' x => ⟨rfl, x⟩).call) rfl .rfl' fun v s' l p => ?_
  obtain ⟨rfl, x⟩ := p
  refine GoodW.toG ⟨.inl ⟨.bool true, .bool true, [], rfl, ?_, ?_, ?_, ?_⟩, x, l.2.2, l.1.trans hg⟩
  · intro cls
    rfl
  · exact .bool true
  · kernel_rfl
  · exact fun _ => ⟨List.nodup_nil, fun _ h => (nomatch h)⟩
end NQ
theorem PySem.Challenge.cw_nq0200_01_holds : PySem.Challenge.rw_nq0200_01.Holds :=
  NQ.holds_of_walk (NQ.walk_all fun xs _ => NQ.facts xs)
