import PyProof.Rows.All
import Wide.All
import OpenK.AllK
import Wide.FinOn
import PyProof.FactsBase
import PyProof.TableTree
import PyProof.FactsTree
import PyProof.PlainAttrs
import PyProof.IsiBase
import PyProof.AttrMissHeap
import PyProof.CallType
import PyProof.EnumStmt
import KE.KEqSeq
import PySem.Challenge.RW_in0284_01
set_option rowWalk.seconds 0
set_option Elab.async false
set_option linter.all false
local macro_rules | `(tactic| walk_at $s:str) => do let k := Lean.Syntax.mkStrLit ("my " ++ s.getString); `(tactic| k_extra $k)
local macro_rules | `(tactic| k_steps) => `(tactic| k_extra "my steps")
local macro_rules | `(tactic| k_room) => `(tactic| k_extra "my room")
local macro_rules | `(tactic| k_mem) => `(tactic| k_extra "my mem")
local macro_rules | `(tactic| k_all) => `(tactic| k_extra "my all")
local macro_rules | `(tactic| kn_posts) => `(tactic| k_extra "my posts")
section
open PySem PySem.W PyProof.Rows
set_option maxRecDepth 100000
set_option maxHeartbeats 8000000
namespace Mine
theorem nought {a b : Prop} (_ : a) (h : False) : b := h.elim
end Mine
local macro_rules | `(tactic| o_law) => `(tactic| refine holds_law (by decide +kernel) fun said => ?_)
local macro_rules | `(tactic| o_head $_) => `(tactic| refine Mine.nought (a := (OpenRow.toRowW (PySem.Challenge.rw_in0284_01.row)).promised) ?hw ?hc)
namespace Mine
open_top hd0 for PySem.Challenge.rw_in0284_01
end Mine
end
section
open PySem PySem.W PySem.Calls PyProof.Rows
set_option maxRecDepth 100000
namespace Mine
noncomputable def fillB : List Obj → Nat → BT → Option BT
  | [], _, t => some t
  | o :: l, n, t => match ((t.ins n o).get n).isSome with
    | true => fillB l (n + 1) (t.ins n o)
    | false => none
theorem fillB_abs (life : Life) : ∀ (l : List Obj) (n : Nat) (t t' : BT) (h : Heap), fillB l n t = some t' → absHeap t n life = h → absHeap t' (n + l.length) life = ⟨h.objs ++ l.toArray, h.life⟩
  | [], n, t, t', h, e, a => by
    obtain rfl : t = t' := Option.some.inj e
    simp [a]
  | o :: l, n, t, t', h, e, a => by
    unfold fillB at e
    cases g : ((t.ins n o).get n).isSome with
    | false => rw [g] at e; cases e
    | true =>
      rw [g] at e
      have k := fillB_abs life l (n + 1) (t.ins n o) t' _ e (absHeap_ins g)
      rw [a] at k
      rw [show n + (o :: l).length = n + 1 + l.length by simp only [List.length_cons]; omega, k]
      simp [Heap.push]
noncomputable def fillS (s : Shared) : Option SharedT := (fillB s.heap.objs.toList 0 .nil).map fun t => ⟨t, s.heap.objs.size, s.heap.life, s.gens, s.drawn, s.toks, s.os⟩
theorem fillS_abs {s : Shared} {a : SharedT} (e : fillS s = some a) : a.abs = s := by
  obtain ⟨t, h, rfl⟩ := Option.map_eq_some_iff.mp e
  obtain ⟨⟨objs, life⟩, gens, drawn, toks, os⟩ := s
  have k := fillB_abs life objs.toList 0 .nil t ⟨#[], life⟩ h rfl
  unfold SharedT.abs
  rw [show 0 + objs.toList.length = objs.size by simp] at k
  dsimp only
  rw [k]
  simp

variable {α : Type}
noncomputable def endsF (ax : Thread → Option (List α)) (st : SharedT → Thread → Option (SharedT × Thread)) : Nat → SharedT → Thread → Option SharedT
  | 0, _, _ => none
  | n + 1, s, t => match ax t with
    | some [] => some s
    | some (_ :: _) => none
    | none => match st s t with
      | some (s', t') => endsF ax st n s' t'
      | none => none
theorem endsF_of {tb : String → Option Builtin} {p : Program} {w : World} : ∀ {n : Nat} {s s' : SharedT} {t : Thread}, endsF Thread.atExitBegin (stepT (denote tb) p w) n s t = some s' → importEnds tb p w n s.abs t = some s'.abs
  | 0, _, _, _, h => by cases h
  | n + 1, s, s', t, h => by
    unfold endsF at h
    unfold importEnds
    cases he : t.atExitBegin with
    | some x =>
      rw [he] at h
      cases x with
      | nil => cases h; rfl
      | cons => cases h
    | none =>
      rw [he] at h
      cases hs : stepT (denote tb) p w s t with
      | none => rw [hs] at h; cases h
      | some r => obtain ⟨s₂, t₂⟩ := r; rw [hs] at h; dsimp only; rw [stepT_spec hs]; exact endsF_of h
noncomputable def topF (ok th : Thread → Bool) (st : SharedT → Thread → Option (SharedT × Thread)) : Nat → SharedT → Thread → Option SharedT
  | 0, _, _ => none
  | n + 1, s, t => match th t with
    | true => some s
    | false => match ok t with
      | false => none
      | true => match st s t with
        | some (s', t') => topF ok th st n s' t'
        | none => none
theorem topF_of {tb : String → Option Builtin} {p : Program} {w : World} {n₀ : Nat} {ann : Option Value} : ∀ {n : Nat} {s s' : SharedT} {t : Thread}, topF (stepOk n₀ ann) through (stepT (denote tb) p w) n s t = some s' → topRun tb p w n₀ ann n s.abs t = some s'.abs
  | 0, _, _, _, h => by cases h
  | n + 1, s, s', t, h => by
    unfold topF at h
    unfold topRun
    cases he : through t with
    | true => rw [he] at h; cases h; rfl
    | false =>
      rw [he] at h
      cases ho : stepOk n₀ ann t with
      | false => rw [ho] at h; cases h
      | true =>
        rw [ho] at h
        cases hs : stepT (denote tb) p w s t with
        | none => rw [hs] at h; cases h
        | some r => obtain ⟨s₂, t₂⟩ := r; rw [hs] at h; dsimp only; rw [stepT_spec hs]; exact topF_of h

noncomputable def openF (st : (String → Option Builtin) → Program → World → SharedT → Thread → Option (SharedT × Thread)) (ax : Thread → Option (List α)) (ok : Nat → Option Value → Thread → Bool) (fence : Program → Shared → Option Shared) (nm : Heap → Addr → Str → Option Value)
    (tb : String → Option Builtin) (p : Program) (w : World) (N : Nat) : Option (Shared × SharedT) :=
  (fillS (start (opening p)).1).bind fun a => (endsF ax (st tb (opening p) w) N a (start (opening p)).2).bind fun b => (fence p b.abs).bind fun s₀ =>
    match s₀.heap.isNs mainGlobals && s₀.gens.size == 0 with
    | true => (fillS s₀).bind fun c => (topF (ok s₀.heap.objs.size (nm s₀.heap mainGlobals "__annotations__")) through (st tb p w) N c (topStub p)).map fun d => (s₀, d)
    | false => none
noncomputable def lastOk (mods : List Str) (p : Program) (x : Shared × SharedT) : Bool := staticsOk mods x.1.heap x.2.abs.heap && namesBound p x.2.abs.heap && gensDone x.2.abs && laidKept x.1.heap x.2.abs.heap
theorem openF_of {p : Program} {w : World} {N : Nat} {β : Type} {f : Shared → β} {v : β}
    (h : (openF (fun tb => stepT (denote tb)) Thread.atExitBegin stepOk fenceModules? Heap.nsMap treeTable p w N).map (fun x => (lastOk (importedModules p.main.body) p x, f x.2.abs)) = some (true, v)) : (openEnds treeTable p w N).map f = some v := by
  obtain ⟨⟨s₀, d⟩, h, k⟩ := Option.map_eq_some_iff.mp h
  obtain ⟨k1, k2⟩ := Prod.mk.inj k
  obtain ⟨a, h1, h⟩ := Option.bind_eq_some_iff.mp h
  obtain ⟨b, h2, h⟩ := Option.bind_eq_some_iff.mp h
  obtain ⟨s, h3, h⟩ := Option.bind_eq_some_iff.mp h
  cases g : (s.heap.isNs mainGlobals && s.gens.size == 0) with
  | false => rw [g] at h; cases h
  | true =>
    rw [g] at h
    obtain ⟨c, h4, h⟩ := Option.bind_eq_some_iff.mp h
    obtain ⟨d', h5, h⟩ := Option.map_eq_some_iff.mp h
    obtain ⟨rfl, rfl⟩ := Prod.mk.inj h
    have e1 := endsF_of h2
    rw [fillS_abs h1] at e1
    have e2 := topF_of h5
    rw [fillS_abs h4] at e2
    unfold openEnds fencedOpening
    rw [e1]
    show (Option.bind (fenceModules? p b.abs) (topFrom treeTable p w N)).map f = some v
    rw [h3]
    show (topFrom treeTable p w N s).map f = some v
    unfold topFrom
    rw [g]
    dsimp only
    rw [e2]
    show (match (staticsOk _ _ _ && _ && _ && _ : Bool) with | true => some d'.abs | false => none).map f = some v
    have k1' : (staticsOk (importedModules p.main.body) s.heap d'.abs.heap && namesBound p d'.abs.heap && gensDone d'.abs && laidKept s.heap d'.abs.heap) = true := k1
    rw [k1']
    exact congrArg some k2
end Mine
end
section
open PySem PySem.W PySem.Calls PyProof.Rows PySem.W.Fast
set_option maxRecDepth 100000
set_option maxHeartbeats 0
namespace Mine
noncomputable abbrev openQ (p : Program) (w : World) (N : Nat) := openF (fun tb => tw10156331382660048174 (tw11892475500146522536 tb)) tw3805553451399329143 tw6613529449190102663 tw14289696077712309145 tw8920871248978507458 tw14364793385576792824 p w N
noncomputable abbrev prg : Program := PySem.Challenge.rw_in0284_01.row.prog
noncomputable def keptStmt (s : Stmt) : Bool := match s with
  | .Assign [.Name x _] _ _ => !(x == Str.ofString "__name__")
  | _ => true
noncomputable def vw : Program := let p := PySem.Challenge.rw_in0284_01.row.prog; { p with main := { p.main with body := p.main.body.filter keptStmt } }
noncomputable abbrev vLoose : List Str := [Str.ofString "_filemode_table", Str.ofString "_twin_re_1", Str.ofString "_special_chars_map"]
noncomputable abbrev wp (n : Int) (c : Nat) : WData := .tuple [.int n, .str ⟨#[c]⟩]
noncomputable abbrev vLv : List (Str × WData) := [(Str.ofString "_filemode_table", .tuple [.tuple [wp 40960 108, wp 49152 115, wp 32768 45, wp 24576 98, wp 16384 100, wp 8192 99, wp 4096 112], .tuple [wp 256 114], .tuple [wp 128 119], .tuple [wp 2112 115, wp 2048 83, wp 64 120], .tuple [wp 32 114], .tuple [wp 16 119], .tuple [wp 1032 115, wp 1024 83, wp 8 120], .tuple [wp 4 114], .tuple [wp 2 119], .tuple [wp 513 116, wp 512 84, wp 1 120]])]
noncomputable abbrev asK : List Addr := [2, 3, 32, 34, 35, 37, 38, 39, 41, 42, 44, 45, 46, 48, 49, 51, 52, 53, 55, 56, 58, 59, 60, 62, 63, 65, 66, 67, 69, 70, 72, 73, 74, 76, 77, 79, 80, 81, 83, 84, 86, 87, 88, 89, 90, 91, 92, 93, 94, 95, 96, 97, 98, 99, 100, 101, 102, 103, 104, 105, 106, 107, 108, 109, 110, 111, 112, 113, 114, 115, 116, 117, 118, 119, 120, 121, 123, 124, 126, 127, 131, 132, 133, 135, 136, 138, 139, 141, 145, 147, 148, 150, 151, 152, 154, 155, 157, 158, 159, 161, 162, 164, 165, 173, 175, 176, 178, 179, 180, 182, 183, 185, 186, 187, 189, 190, 192, 193, 194, 196, 197, 199, 200, 201, 202, 203, 204, 205, 208, 210, 211, 213, 214, 215, 217, 218, 220, 221, 222, 224, 225, 227, 228, 229, 231, 232, 234, 235, 236, 238, 239, 241, 242, 243, 245, 246, 248, 249, 250, 253, 254]
theorem asK_eq : ∀ P, asK = (hd0.heap_1 P).map (·.1) := fun _ => by kernel_rfl
noncomputable abbrev hkK : Hook := kmHook hd0.heap_1 asK asK_eq [230, 153]
noncomputable abbrev vXt (s : Shared) : Bool := xlAt vw vLv s && recOk (RowW.records (PySem.Challenge.rw_in0284_01.row.toRowW)) s
noncomputable abbrev hlQ (w : World) : Prop := (openQ prg w 5472).map (fun x => (lastOk (tw5923862056798008813 prg.main.body) prg x, (tw4187177175401517315 vw vLoose (tw5923862056798008813 prg.main.body) vXt true x.2.abs, hkK.obs x.2.abs))) = some (true, (openGood vw vLoose, hkK.val w))
theorem hl_ff (w : World) : hlQ ((w.withFollow "special-get-raises" false).withFollow "comprehension-iter-twice" false) := by kernel_rfl
theorem hl_ft (w : World) : hlQ ((w.withFollow "special-get-raises" false).withFollow "comprehension-iter-twice" true) := by kernel_rfl
theorem hl_tf (w : World) : hlQ ((w.withFollow "special-get-raises" true).withFollow "comprehension-iter-twice" false) := by kernel_rfl
theorem hl_tt (w : World) : hlQ ((w.withFollow "special-get-raises" true).withFollow "comprehension-iter-twice" true) := by kernel_rfl
theorem hlO {w : World} (h : hlQ w) : (openEnds treeTable prg w 5472).map (fun s => (openSeen vw vLoose (importedModules prg.main.body) vXt true s, hkK.obs s)) = some (openGood vw vLoose, hkK.val w) := by
  refine openF_of (f := fun s => (openSeen vw vLoose (importedModules prg.main.body) vXt true s, hkK.obs s)) ?_
  rw [te10156331382660048174, te11892475500146522536, te3805553451399329143, te6613529449190102663, te14289696077712309145, te8920871248978507458, te14364793385576792824, te5923862056798008813, te4187177175401517315]
  exact h
theorem hl : LeftO prg vw vLoose vXt hkK.obs hkK.val 5472 := by
  refine byRow2 "comprehension-iter-twice" ?_ ?_ <;> refine byRow2 "special-get-raises" ?_ ?_
  · exact fun w => hlO (hl_ff w)
  · exact fun w => hlO (hl_tf w)
  · exact fun w => hlO (hl_ft w)
  · exact fun w => hlO (hl_tt w)
end Mine
end
section
open PySem PySem.W PyProof.Rows PySem.Calls PySem.Spec
set_option maxRecDepth 100000
namespace Mine
noncomputable abbrev Led := List (Addr × Obj)
noncomputable abbrev NoE : Value → Shared → Prop := fun _ _ => False
/-- the walk halts here -/
noncomputable def Stop (P : Prop) : Prop := P
theorem Stop.mk {P : Prop} (h : P) : Stop P := h
theorem Stop.out {P : Prop} (h : Stop P) : P := h

section
variable {prog : Program} {w : World} {A : Around} {env : Env} {R : Result → Shared → Prop} {s : Shared}

theorem lift {α : Type} {M : Model} {A : Around} {t : Sem α} {Q : α → Shared → Prop} {E : Value → Shared → Prop} {s : Shared} (h : wpAny M A t Q NoE s) : wpAny M A t Q E s :=
  wpAny_mono h (fun _ _ x => x) fun _ _ x => x.elim

theorem for_step {target : Expr} {it : Value} {body orelse : List Stmt}
    (h : wpAny (model prog w) A (pyNext it) (fun r s₁ => match r with
      | none => wpAny (model prog w) A (execs orelse env) (fun f s₃ => R (.ok f) s₃) NoE s₁
      | some v => wpAny (model prog w) A (letOwnedTupleGo target it v) (fun _ s₁' =>
          wpAny (model prog w) A (assign target env v) (fun _ s₂ => wpAny (model prog w) A (execs body env) (fun f s₃ => match f with
            | .next | .cont => codeAny (model prog w) A (.forLoop target it body orelse env) R s₃
            | .brk => R (.ok .next) s₃
            | .ret v => R (.ok (.ret v)) s₃) NoE s₂) NoE s₁') NoE s₁) NoE s) : codeAny (model prog w) A (.forLoop target it body orelse env) R s := by
  refine codeAny_of_tree ?_
  show wpAny _ A ((forTurn target it body orelse env).onRaise (fun x => do noteFrame x env; theTreesLotGoes x)) _ _ s
  refine wpAny_noted ?_
  simp only [forTurn]
  refine wpAny_bind (wpAny_standAt (wpAny_bind (wpAny_onRaise (wpAny_mono h (fun r s₁ h₁ => ?_) fun _ _ h' => h'.elim))))
  cases r with
  | none => exact wpAny_pure ⟨rfl, codeAny_block (lift h₁)⟩
  | some v =>
    refine wpAny_bind (wpAny_mono h₁ (fun _ s₁' h₁' => ?_) fun _ _ h' => h'.elim)
    refine wpAny_bind (wpAny_mono h₁' (fun _ s₂ h₂ => wpAny_bind (wpAny_mono h₂ (fun f s₃ h₃ => ?_) fun _ _ h' => h'.elim)) fun _ _ h' => h'.elim)
    cases f with
    | next => exact wpAny_pure ⟨rfl, h₃⟩
    | cont => exact wpAny_pure ⟨rfl, h₃⟩
    | brk => exact wpAny_pure h₃
    | ret v => exact wpAny_pure h₃

theorem for_exec {target iter : Expr} {body orelse : List Stmt} {pos : Pos} {Q : Flow → Shared → Prop}
    (h : wpAny (model prog w) A (eval iter env) (fun x s₁ => wpAny (model prog w) A (pyIter x) (fun it s₂ =>
      codeAny (model prog w) A (.forLoop target it body orelse env) (fun r s' => match r with | .ok f => Q f s' | .error _ => False) s₂) NoE s₁) NoE s)
    (hs : ∀ x, foldedSetIterable iter env x = pure x := by intro _; rfl) :
    wpAny (model prog w) A (exec (.For target iter body orelse pos) env) Q NoE s := by
  refine wpAny_For (wpAny_mono h (fun x s₁ h₁ => wpAny_mono h₁ (fun it s₂ h₂ => ?_) fun _ _ h => h) fun _ _ h => h) hs
  refine codeAny_mono h₂ fun r s' h => ?_
  cases r with
  | ok f => exact h
  | error e => exact h.elim

theorem while_step {test : Expr} {body orelse : List Stmt}
    (h : wpAny (model prog w) A (isTrue test env (eval test env)) (fun b s₂ =>
        if b then wpAny (model prog w) A (execs body env) (fun f s₃ => match f with
            | .next | .cont => codeAny (model prog w) A (.whileLoop test body orelse env) R s₃
            | .brk => R (.ok .next) s₃
            | .ret v => R (.ok (.ret v)) s₃) NoE s₂
        else wpAny (model prog w) A (execs orelse env) (fun f s₃ => R (.ok f) s₃) NoE s₂) NoE s) : codeAny (model prog w) A (.whileLoop test body orelse env) R s := by
  refine codeAny_of_tree ?_
  show wpAny _ A ((whileTurn test body orelse env).onRaise (fun x => do noteFrame x env; theTreesLotGoes x)) _ _ s
  refine wpAny_noted ?_
  simp only [whileTurn]
  refine wpAny_bind (wpAny_mono h (fun b s₂ h₂ => ?_) fun _ _ h' => h'.elim)
  cases b with
  | false =>
    simp only [Bool.false_eq_true, if_false] at h₂ ⊢
    exact wpAny_bind (wpAny_mono h₂ (fun f s₃ h₃ => wpAny_pure h₃) fun _ _ h' => h'.elim)
  | true =>
    simp only [if_true] at h₂ ⊢
    refine wpAny_bind (wpAny_mono h₂ (fun f s₃ h₃ => ?_) fun _ _ h' => h'.elim)
    cases f with
    | next => exact wpAny_pure ⟨rfl, h₃⟩
    | cont => exact wpAny_pure ⟨rfl, h₃⟩
    | brk => exact wpAny_pure h₃
    | ret v => exact wpAny_pure h₃

theorem while_exec {test : Expr} {body orelse : List Stmt} {pos : Pos} {Q : Flow → Shared → Prop}
    (h : codeAny (model prog w) A (.whileLoop test body orelse env) (fun r s' => match r with | .ok f => Q f s' | .error _ => False) s) :
    wpAny (model prog w) A (exec (.While test body orelse pos) env) Q NoE s := by
  refine wpAny_While (codeAny_mono h fun r s' h => ?_)
  cases r with
  | ok f => exact h
  | error e => exact h.elim
end
end Mine
end
section
open PySem PySem.W PyProof.Rows PySem.Calls PySem.Spec
set_option maxRecDepth 100000
namespace Mine
section
variable {prog : Program} {w : World} {A : Around} {E : Value → Shared → Prop} {s : Shared} {h₀ : Heap} {L I : Addr} {m : Str → Option Value} {news : Led} {o : Obj}

theorem head_change {h h' : Heap} {o' : Obj} (F : Fr h₀ L h m) (N : News h₀ L h ((I, o) :: news)) (hne : ∀ p ∈ news, p.1 ≠ I) (hk : Heap.ExtBut I h h') (ho' : h'.get? I = some o') :
    Fr h₀ L h' m ∧ News h₀ L h' ((I, o') :: news) := by
  have z := N (I, o) (.head _)
  refine ⟨⟨F.ns.extBut hk (Ne.symm z.2.1), fun b x e => hk b x (fun q => ?_) (F.keep b x e), F.above⟩, fun p hp => ?_⟩
  · rw [q, z.2.2] at e; cases e
  · rcases List.mem_cons.mp hp with rfl | hp
    · exact ⟨ho', z.2⟩
    · have y := N p (.tail _ hp)
      exact ⟨hk _ _ (hne p hp) y.1, y.2⟩
theorem head_drop {h h' : Heap} (F : Fr h₀ L h m) (N : News h₀ L h ((I, o) :: news)) (hne : ∀ p ∈ news, p.1 ≠ I) (hk : Heap.ExtBut I h h') :
    Fr h₀ L h' m ∧ News h₀ L h' news := by
  have z := N (I, o) (.head _)
  refine ⟨⟨F.ns.extBut hk (Ne.symm z.2.1), fun b x e => hk b x (fun q => ?_) (F.keep b x e), F.above⟩, fun p hp => ?_⟩
  · rw [q, z.2.2] at e; cases e
  · have y := N p (.tail _ hp)
    exact ⟨hk _ _ (hne p hp) y.1, y.2⟩

noncomputable def StrIt (x : Str) (t : Tok) (i : Nat) (o : Obj) : Prop := o.cls = .type (strIterType x) ∧ o.data = .fields #[.str x t, .int i 0]
noncomputable def TupIt (a : Addr) (i : Nat) (o : Obj) : Prop := o.cls = .type "tuple_iterator" ∧ o.data = .fields #[.ref a, .int i 0]
noncomputable def LstIt (a : Addr) (i : Nat) (o : Obj) : Prop := o.cls = .type "list_iterator" ∧ o.data = .fields #[.ref a, .int i 0]
noncomputable abbrev ranIt (x left : Int) : Obj := { cls := .type "range_iterator", data := .fields #[rawInt x, rawInt left, rawInt 1] }

theorem iter_str {x : Str} {t : Tok} {Q : Value → Shared → Prop} (F : Fr h₀ L s.heap m) (N : News h₀ L s.heap news)
    (h : ∀ I o h', StrIt x t 0 o → Fr h₀ L h' m → News h₀ L h' ((I, o) :: news) → (∀ p ∈ news, p.1 ≠ I) → Q (.ref I) { s with heap := h' }) : wpAny (model prog w) A (pyIter (.str x t)) Q E s :=
  wpAny_pyIter_strU (h _ _ _ ⟨rfl, rfl⟩ (F.push _) (N.push F _) fun _ hp => Nat.ne_of_lt (Heap.lt_size (N _ hp).1))
theorem next_str {x : Str} {t : Tok} {i c : Nat} {Q : Option Value → Shared → Prop} (F : Fr h₀ L s.heap m) (N : News h₀ L s.heap ((I, o) :: news)) (hne : ∀ p ∈ news, p.1 ≠ I) (hs : StrIt x t i o) (hx : x.cps[i]? = some c)
    (h : ∀ h' tk u o', StrIt x t (i + 1) o' → Fr h₀ L h' m → News h₀ L h' ((I, o') :: news) → Q (some (.str ⟨#[c]⟩ u)) { s with heap := h', toks := tk }) : wpAny (model prog w) A (pyNext (.ref I)) Q E s := by
  have go : ∀ h', h'.IsStrIter I (strIterType x) x t (i + 1) → Heap.SameBut I s.heap h' → Q (some (.str ⟨#[c]⟩ s.toks)) { s with heap := h', toks := s.toks + 1 } := fun h' ⟨o', ho', r⟩ hk => by
    obtain ⟨F', N'⟩ := head_change F N hne hk.extBut ho'
    exact h h' _ _ o' r F' N'
  have hit : s.heap.IsStrIter I (strIterType x) x t i := ⟨o, (N _ (.head _)).1, hs⟩
  unfold strIterType at go hit
  cases ha : x.cps.all (· < 128) <;> rw [ha] at go hit
  · exact wpAny_pyNext_wide_item hit hx go
  · exact wpAny_pyNext_ascii_item hit hx go
theorem next_str_end {x : Str} {t : Tok} {i : Nat} {Q : Option Value → Shared → Prop} (hh : A.handled = none) (F : Fr h₀ L s.heap m) (N : News h₀ L s.heap ((I, o) :: news)) (hne : ∀ p ∈ news, p.1 ≠ I) (hs : StrIt x t i o) (hx : x.cps[i]? = none)
    (h : ∀ h', Fr h₀ L h' m → News h₀ L h' news → Q none { s with heap := h' }) : wpAny (model prog w) A (pyNext (.ref I)) Q E s := by
  have go : ∀ h', Heap.ExtBut I s.heap h' → Q none { s with heap := h' } := fun h' hk => (head_drop F N hne hk).elim (h h')
  have hit : s.heap.IsStrIter I (strIterType x) x t i := ⟨o, (N _ (.head _)).1, hs⟩
  unfold strIterType at hit
  cases ha : x.cps.all (· < 128) <;> rw [ha] at hit
  · exact wpAny_pyNext_wide_end hh hit hx go
  · exact wpAny_pyNext_ascii_end hh hit hx go

theorem iter_tup {a : Addr} {its : Array Value} {Q : Value → Shared → Prop} (F : Fr h₀ L s.heap m) (N : News h₀ L s.heap news) (ha : s.heap.IsTuple a its)
    (h : ∀ I o h', TupIt a 0 o → Fr h₀ L h' m → News h₀ L h' ((I, o) :: news) → (∀ p ∈ news, p.1 ≠ I) → Q (.ref I) { s with heap := h' }) : wpAny (model prog w) A (pyIter (.ref a)) Q E s :=
  wpAny_pyIter_tuple ha (h _ _ _ ⟨rfl, rfl⟩ (F.push _) (N.push F _) fun _ hp => Nat.ne_of_lt (Heap.lt_size (N _ hp).1))
theorem next_tup {a : Addr} {its : Array Value} {i : Nat} {v : Value} {Q : Option Value → Shared → Prop} (F : Fr h₀ L s.heap m) (N : News h₀ L s.heap ((I, o) :: news)) (hne : ∀ p ∈ news, p.1 ≠ I) (hs : TupIt a i o) (ha : s.heap.IsTuple a its) (hx : its[i]? = some v)
    (h : ∀ h' o', TupIt a (i + 1) o' → Fr h₀ L h' m → News h₀ L h' ((I, o') :: news) → Q (some v) { s with heap := h' }) : wpAny (model prog w) A (pyNext (.ref I)) Q E s :=
  wpAny_pyNext_tuple_item ⟨o, (N _ (.head _)).1, hs⟩ ha hx fun h' ⟨o', ho', r⟩ hk => (head_change F N hne hk.extBut ho').elim (h h' o' r)
theorem next_tup_end {a : Addr} {its : Array Value} {i : Nat} {Q : Option Value → Shared → Prop} (hh : A.handled = none) (F : Fr h₀ L s.heap m) (N : News h₀ L s.heap ((I, o) :: news)) (hne : ∀ p ∈ news, p.1 ≠ I) (hs : TupIt a i o) (ha : s.heap.IsTuple a its) (hx : its[i]? = none)
    (h : ∀ h', Fr h₀ L h' m → News h₀ L h' news → Q none { s with heap := h' }) : wpAny (model prog w) A (pyNext (.ref I)) Q E s :=
  wpAny_pyNext_tuple_end hh ⟨o, (N _ (.head _)).1, hs⟩ ha hx fun h' hk => (head_drop F N hne hk).elim (h h')

theorem iter_lst {a : Addr} {its : Array Value} {Q : Value → Shared → Prop} (F : Fr h₀ L s.heap m) (N : News h₀ L s.heap news) (ha : s.heap.IsList a its)
    (h : ∀ I o h', LstIt a 0 o → Fr h₀ L h' m → News h₀ L h' ((I, o) :: news) → (∀ p ∈ news, p.1 ≠ I) → Q (.ref I) { s with heap := h' }) : wpAny (model prog w) A (pyIter (.ref a)) Q E s :=
  wpAny_pyIter_list ha (h _ _ _ ⟨rfl, rfl⟩ (F.push _) (N.push F _) fun _ hp => Nat.ne_of_lt (Heap.lt_size (N _ hp).1))
theorem next_lst {a : Addr} {its : Array Value} {i : Nat} {v : Value} {Q : Option Value → Shared → Prop} (F : Fr h₀ L s.heap m) (N : News h₀ L s.heap ((I, o) :: news)) (hne : ∀ p ∈ news, p.1 ≠ I) (hs : LstIt a i o) (ha : s.heap.IsList a its) (hx : its[i]? = some v)
    (h : ∀ h' o', LstIt a (i + 1) o' → Fr h₀ L h' m → News h₀ L h' ((I, o') :: news) → Q (some v) { s with heap := h' }) : wpAny (model prog w) A (pyNext (.ref I)) Q E s :=
  wpAny_pyNext_list_item ⟨o, (N _ (.head _)).1, hs⟩ ha hx fun h' ⟨o', ho', r⟩ hk => (head_change F N hne hk.extBut ho').elim (h h' o' r)
theorem next_lst_end {a : Addr} {its : Array Value} {i : Nat} {Q : Option Value → Shared → Prop} (hh : A.handled = none) (F : Fr h₀ L s.heap m) (N : News h₀ L s.heap ((I, o) :: news)) (hne : ∀ p ∈ news, p.1 ≠ I) (hs : LstIt a i o) (ha : s.heap.IsList a its) (hx : its[i]? = none)
    (h : ∀ h', Fr h₀ L h' m → News h₀ L h' news → Q none { s with heap := h' }) : wpAny (model prog w) A (pyNext (.ref I)) Q E s :=
  wpAny_pyNext_list_end hh ⟨o, (N _ (.head _)).1, hs⟩ ha hx fun h' hk => (head_drop F N hne hk).elim (h h')

theorem iter_ran {a : Addr} {x y : Int} {t u v : Tok} {Q : Value → Shared → Prop} (F : Fr h₀ L s.heap m) (N : News h₀ L s.heap news) (ha : IsRange s.heap a x y 1 t u v) (hsm : Builtin.Range.small x y 1 = true)
    (h : ∀ I h', Fr h₀ L h' m → News h₀ L h' ((I, ranIt x (Builtin.Range.rangeSize x y 1)) :: news) → (∀ p ∈ news, p.1 ≠ I) → Q (.ref I) { s with heap := h' }) : wpAny (model prog w) A (pyIter (.ref a)) Q E s :=
  wpAny_pyIter_range ha hsm (h _ _ (F.push _) (N.push F _) fun _ hp => Nat.ne_of_lt (Heap.lt_size (N _ hp).1))
theorem next_ran {x left : Int} {Q : Option Value → Shared → Prop} (F : Fr h₀ L s.heap m) (N : News h₀ L s.heap ((I, ranIt x left) :: news)) (hne : ∀ p ∈ news, p.1 ≠ I) (hl : 0 < left)
    (h : ∀ h' tk u, Fr h₀ L h' m → News h₀ L h' ((I, ranIt (x + 1) (left - 1)) :: news) → Q (some (.int x u)) { s with heap := h', toks := tk }) : wpAny (model prog w) A (pyNext (.ref I)) Q E s :=
  wpAny_pyNext_range_item (N _ (.head _)).1 hl fun h' ho' hk => (head_change F N hne hk.extBut ho').elim (h h' _ _)
theorem next_ran_end {x left : Int} {Q : Option Value → Shared → Prop} (hh : A.handled = none) (F : Fr h₀ L s.heap m) (N : News h₀ L s.heap ((I, ranIt x left) :: news)) (hne : ∀ p ∈ news, p.1 ≠ I) (hl : left ≤ 0)
    (h : ∀ h', Fr h₀ L h' m → News h₀ L h' news → Q none { s with heap := h' }) : wpAny (model prog w) A (pyNext (.ref I)) Q E s :=
  wpAny_pyNext_range_end hh (N _ (.head _)).1 hl fun h' hk => (head_drop F N hne hk).elim (h h')
end
end Mine
end
section
open PySem PySem.W PyProof.Rows PySem.Calls PySem.Spec
set_option maxRecDepth 100000
namespace Mine
section
variable {prog : Program} {w : World} {A : Around} {E : Value → Shared → Prop} {s : Shared}

theorem nextOf_tup {it l : Addr} {i : Nat} {items : Array Value} {x : Value} {Q : Value → Shared → Prop} (hit : s.heap.IsTupleIter it l i) (hl : s.heap.IsTuple l items) (hx : items[i]? = some x)
    (hQ : ∀ h', h'.IsTupleIter it l (i + 1) → Heap.SameBut it s.heap h' → Q x { s with heap := h' }) : wpAny (model prog w) A (Builtin.SmallTypes.nextOf (.ref it)) Q E s := by
  obtain ⟨o, ho, hc, hd⟩ := id hit
  obtain ⟨ol, hol, _, nl, hdl⟩ := hl
  unfold Builtin.SmallTypes.nextOf
  refine wpAny_bind (wpAny_callSpecial?_slot (name := Str.ofString "__next__") hit.typeIs F.slot_tuple_iterator_next
    (wpAny_call_entry F.slot_tuple_iterator_next hit.typeIs F.entry_tuple_iterator_next ?_ (F.args_tuple_iterator_next_1 _)))
  show wpAny _ _ (field (.ref it) 0 >>= _) _ _ s
  refine wpAny_bind (wpAny_field ho hd (x := .ref l) rfl ?_)
  show wpAny _ _ (if (Value.ref l == Value.none) = true then _ else _) _ _ s
  rw [if_neg (show ¬ ((Value.ref l == Value.none) = true) from Bool.false_ne_true)]
  show wpAny _ _ (field (.ref it) 1 >>= _) _ _ s
  refine wpAny_bind (wpAny_field ho hd (x := .int i 0) rfl ?_)
  show wpAny _ _ (seqItems? (.ref l) >>= _) _ _ s
  refine wpAny_bind (wpAny_seqItems hol hdl ?_)
  simp only [Int.toNat_natCast, hx]
  refine wpAny_bind (wpAny_setField ho hd (by simp) (wpAny_pure ⟨x, rfl, wpAny_pure (hQ _ ?_ (Heap.SameBut.update ..))⟩))
  exact ⟨_, Heap.get?_update_self _ ho (Obj.isFreed_of_fields (Obj.data_mapFields hd _)), (Obj.cls_mapFields ..).trans hc, by
    rw [Obj.data_mapFields hd]; simp [rawInt]⟩
theorem nextOf_tup_end {it l : Addr} {i : Nat} {items : Array Value} {Q : Value → Shared → Prop} (hh : A.handled = none) (hit : s.heap.IsTupleIter it l i) (hl : s.heap.IsTuple l items) (hx : items[i]? = none)
    (hE : ∀ h' e, Heap.ExtBut it s.heap h' → (∃ o, h'.get? e = some o ∧ o.cls = .type "StopIteration") → E (.ref e) { s with heap := h' }) :
    wpAny (model prog w) A (Builtin.SmallTypes.nextOf (.ref it)) Q E s := by
  obtain ⟨o, ho, hc, hd⟩ := id hit
  obtain ⟨ol, hol, _, nl, hdl⟩ := hl
  unfold Builtin.SmallTypes.nextOf
  refine wpAny_bind (wpAny_callSpecial?_slot (name := Str.ofString "__next__") hit.typeIs F.slot_tuple_iterator_next
    (wpAny_call_entry F.slot_tuple_iterator_next hit.typeIs F.entry_tuple_iterator_next ?_ (F.args_tuple_iterator_next_1 _)))
  show wpAny _ _ (field (.ref it) 0 >>= _) _ _ s
  refine wpAny_bind (wpAny_field ho hd (x := .ref l) rfl ?_)
  show wpAny _ _ (if (Value.ref l == Value.none) = true then _ else _) _ _ s
  rw [if_neg (show ¬ ((Value.ref l == Value.none) = true) from Bool.false_ne_true)]
  show wpAny _ _ (field (.ref it) 1 >>= _) _ _ s
  refine wpAny_bind (wpAny_field ho hd (x := .int i 0) rfl ?_)
  show wpAny _ _ (seqItems? (.ref l) >>= _) _ _ s
  refine wpAny_bind (wpAny_seqItems hol hdl ?_)
  simp only [Int.toNat_natCast, hx]
  refine wpAny_bind (wpAny_rule (wpAny_bind (wpAny_setField ho hd (by simp) ?_)))
  show wpAny _ _ (newExc (.type "StopIteration") [] >>= _) _ _ _
  refine wpAny_bind ?_
  simp only [newExc, newTuple]
  refine wpAny_bind (wpAny_newObj_type ?_ (by size_fits))
  refine wpAny_bind (m := firstArgMember _ _) (wpAny_of_eq (a := Value.none) (by first | rfl | (simp only [firstArgMember]; rfl)) ?_)
  refine wpAny_newObj_type ?_ (by size_fits)
  simp only [raiseNew]
  refine wpAny_bind (wpAny_handled ?_)
  first | rw [show A.in1.handled = none from hh] | rw [hh]
  refine wpAny_bind (wpAny_pure (wpAny_throw ?_))
  exact hE _ _ (((Heap.SameBut.update ..).extBut.push _).push _) ⟨_, Heap.get?_push_size _ rfl, rfl⟩

theorem draws_tup (hh : A.handled = none) (it l : Addr) (hne : l ≠ it) (items : Array Value) :
    Draws prog w A it [it, l] items.size (fun i v => items[i]? = some v) (fun i h => h.IsTupleIter it l i ∧ h.IsTuple l items) where
  live := fun _ _ st => let ⟨o, ho, _⟩ := st.1; ⟨o, ho⟩
  frame := fun _ _ _ st hk => ⟨st.1.at fun o e => hk it (by simp) o e, st.2.at fun o e => hk l (by simp) o e⟩
  item := fun i s Q E hi st hQ => by
    refine nextOf_tup st.1 st.2 (x := items[i]) (by simp [hi]) fun h' hit' hs' => ?_
    exact hQ _ h' s.toks (by simp [hi]) ⟨hit', st.2.extBut hs'.extBut hne⟩ hs'
  done := fun s Q E st hE => nextOf_tup_end hh st.1 st.2 (by simp) hE

open AutoSeq1 (wpAny_loadPart') in
theorem enum_newT (l : Addr) (items : Array Value) (n : Nat) (dct : Option Addr) (sl : Array (Option Value)) :
    Meets (Builtin.«enumerate.__new__» ⟨[.type "enumerate", .ref l], []⟩) (fun _ R s => s.heap.get? l = some { cls := .type "tuple", dict := dct, data := .seq items n, slots := sl } ∧
      R (.ok (.ret (.ref (s.heap.push { cls := .type "tuple_iterator", data := .fields #[.ref l, .int 0 0] }).objs.size)))
        { s with heap := (s.heap.push { cls := .type "tuple_iterator", data := .fields #[.ref l, .int 0 0] }).push { cls := .type "enumerate", data := .fields #[.none, .bool false, .ref s.heap.objs.size, rawInt 0, .none, .none] } }) :=
  .of_wp fun prog w A R s h => by
    obtain ⟨hp, g, d, tk, os⟩ := s; obtain ⟨hl, h⟩ := h
    have hsub := sub_enumerate
    have hL : Heap.IsTuple (Shared.heap ⟨hp, g, d, tk, os⟩) l items := ⟨_, hl, rfl, n, rfl⟩
    wp_walk using wpAny_loadPart' hl
    refine wpAny_stack_any fun st => wpAny_pure ?_
    split
    · rename_i c _ _ _ _ _
      cases (c == Value.type "enumerate")
      · wp_walk using wpAny_loadPart' hl, wpAny_pyIter_tuple hL
        exact ⟨_, rfl, h⟩
      · wp_walk using wpAny_loadPart' hl, wpAny_pyIter_tuple hL
        exact ⟨_, rfl, h⟩
    · wp_walk using wpAny_loadPart' hl, wpAny_pyIter_tuple hL
      exact ⟨_, rfl, h⟩

theorem call_enum_tup {l : Addr} {items : Array Value} {Q : Value → Shared → Prop} (hL : s.heap.IsTuple l items)
    (h : ∀ h', IsEnum h' (s.heap.objs.size + 1) s.heap.objs.size 0 .none → h'.IsTupleIter s.heap.objs.size l 0 →
      (∀ b o, s.heap.get? b = some o → h'.get? b = some o) → Q (.ref (s.heap.objs.size + 1)) { s with heap := h' }) :
    wpAny (model prog w) A (call (.type "enumerate") [.ref l]) Q E s := by
  obtain ⟨⟨c, dct, dt, sl⟩, hl, hc, n, hd⟩ := hL
  replace hc : c = .type "tuple" := hc
  replace hd : dt = .seq items n := hd
  subst hc hd
  refine callType_new F.called_enumerate (by decide) (F.typeCall_enumerate_1 _) (F.newCall_enumerate_1 _) (fun obj => F.args_object_init_2 obj _) F.entry_enumerate_new
    (enum_newT l items n dct sl) ⟨hl, ?_⟩
  have hz : (s.heap.push { cls := .type "tuple_iterator", data := .fields #[.ref l, .int 0 0] }).objs.size = s.heap.objs.size + 1 := Heap.size_push ..
  show _ ∧ _
  rw [hz]
  have he : IsEnum ((s.heap.push { cls := .type "tuple_iterator", data := .fields #[.ref l, .int 0 0] }).push
      { cls := .type "enumerate", data := .fields #[.none, .bool false, .ref s.heap.objs.size, rawInt 0, .none, .none] }) (s.heap.objs.size + 1) s.heap.objs.size 0 .none := by
    have := Heap.get?_push_size (s.heap.push { cls := .type "tuple_iterator", data := .fields #[.ref l, .int 0 0] })
      (o := { cls := .type "enumerate", data := .fields #[.none, .bool false, .ref s.heap.objs.size, rawInt 0, .none, .none] }) rfl
    rw [hz] at this; exact this
  exact ⟨⟨_, he, rfl⟩, h _ he ⟨_, Heap.get?_push_of_some _ (Heap.get?_push_size _ rfl), rfl, rfl⟩ fun b o x => Heap.get?_push_of_some _ (Heap.get?_push_of_some _ x)⟩
end

noncomputable abbrev enumO (it : Addr) (i : Int) (old : Value) : Obj := { cls := .type "enumerate", data := .fields #[.none, .bool false, .ref it, rawInt i, .none, old] }
noncomputable abbrev tupO (vs : List Value) : Obj := { cls := .type "tuple", data := .seq vs.toArray }

section
variable {prog : Program} {w : World} {A : Around} {E : Value → Shared → Prop} {s : Shared} {h₀ : Heap} {L e it : Addr} {m : Str → Option Value} {news : Led} {oi : Obj}
theorem call_enum {l : Addr} {items : Array Value} {Q : Value → Shared → Prop} (F : Fr h₀ L s.heap m) (N : News h₀ L s.heap news) (hL : s.heap.IsTuple l items)
    (h : ∀ e it oi h', TupIt l 0 oi → Fr h₀ L h' m → News h₀ L h' ((e, enumO it 0 .none) :: (it, oi) :: news) → e ≠ it → (∀ p ∈ news, p.1 ≠ it) → (∀ p ∈ news, p.1 ≠ e) → Q (.ref e) { s with heap := h' }) :
    wpAny (model prog w) A (call (.type "enumerate") [.ref l]) Q E s := by
  refine call_enum_tup hL fun h' he hi hk => ?_
  obtain ⟨oi, ho, hi⟩ := hi
  have fresh : ∀ b, s.heap.objs.size ≤ b → b ≠ L ∧ h₀.get? b = none := fun b hb => ⟨Nat.ne_of_gt (Nat.lt_of_lt_of_le F.ns.lt hb), Heap.get?_none_of_le (Nat.le_trans (Nat.le_of_lt (Nat.lt_of_le_of_lt F.above F.ns.lt)) hb)⟩
  refine h _ _ oi h' hi ⟨F.ns.keeps hk, fun b o q => hk b o (F.keep b o q), F.above⟩ (fun p hp => ?_) (Nat.succ_ne_self _) (fun p hp => Nat.ne_of_lt (Heap.lt_size (N p hp).1)) (fun p hp => Nat.ne_of_lt (Nat.lt_succ_of_lt (Heap.lt_size (N p hp).1)))
  rcases List.mem_cons.mp hp with rfl | hp
  · exact ⟨he, fresh _ (Nat.le_succ _)⟩
  · rcases List.mem_cons.mp hp with rfl | hp
    · exact ⟨ho, fresh _ (Nat.le_refl _)⟩
    · exact ⟨hk _ _ (N p hp).1, (N p hp).2⟩

/-- one turn's draw: the pair -/
theorem next_enum {l : Addr} {items : Array Value} {i : Nat} {v old : Value} {elts : List Expr} {k : Nat} {pos : Pos} {Q : Value → Shared → Prop} {Qn : Shared → Prop} (hh : A.handled = none) (F : Fr h₀ L s.heap m) (N : News h₀ L s.heap ((e, enumO it i old) :: (it, oi) :: news))
    (hei : e ≠ it) (hn1 : ∀ p ∈ news, p.1 ≠ it) (hn2 : ∀ p ∈ news, p.1 ≠ e) (hi : TupIt l i oi) (hl : l ≠ it) (hle : l ≠ e) (hL : s.heap.IsTuple l items) (hx : items[i]? = some v)
    (h : ∀ T u h' tk old' oi', TupIt l (i + 1) oi' → Fr h₀ L h' m → News h₀ L h' ((T, tupO [.int i u, v]) :: (e, enumO it ((i + 1 : Nat) : Int) old') :: (it, oi') :: news) → Q (.ref T) { s with heap := h', toks := tk }) :
    wpAny (model prog w) A (pyNext (.ref e)) (fun r s₁ => match r with
      | none => Qn s₁
      | some v => wpAny (model prog w) A (letOwnedTupleGo (.Tuple elts k pos) (.ref e) v) (fun _ s₂ => Q v s₂) E s₁) E s := by
  have Pe := N _ (.head _)
  have Pi := N _ (.tail _ (.head _))
  have hlt : i < items.size := (Array.getElem?_eq_some_iff.mp hx).1
  refine wpAny_pyNext_enum_itemD (D := (draws_tup (prog := prog) (w := w) (A := A.in1) hh it l hl items)) Pe.1 ⟨⟨oi, Pi.1, hi⟩, hL⟩ hlt hei (by simp [hei, Ne.symm hle]) fun x h' tk hP ho hst hT hsz hk => ?_
  have hP' : items[i]? = some x := hP
  rw [hx] at hP'
  cases hP'
  refine wpAny_letOwnedTupleGo_enum ho fun h2 he2 hs2 => ?_
  obtain ⟨oi', hoi', hi'⟩ := hst.1
  have eL : e < s.heap.objs.size := Heap.lt_size Pe.1
  have keep : ∀ b o, b ≠ e → b ≠ it → s.heap.get? b = some o → h2.get? b = some o := fun b o a c q => (hs2.2 b a).trans (hk b o a c q)
  have old0 : ∀ b o, h₀.get? b = some o → b ≠ e ∧ b ≠ it := fun b o q => ⟨fun z => (by rw [z, Pe.2.2] at q; cases q), fun z => (by rw [z, Pi.2.2] at q; cases q)⟩
  have F2 : Fr h₀ L h2 m := by
    obtain ⟨oL, es, ep, hoL, r⟩ := F.ns
    exact ⟨⟨oL, es, ep, keep L oL (Ne.symm Pe.2.1) (Ne.symm Pi.2.1) hoL, r⟩, fun b o q => keep b o (old0 b o q).1 (old0 b o q).2 (F.keep b o q), F.above⟩
  refine h s.heap.objs.size tk h2 (tk + 1) v oi' hi' F2 ?_
  intro p hp
  rcases List.mem_cons.mp hp with rfl | hp
  · exact ⟨(hs2.2 _ (Nat.ne_of_gt eL)).trans hT, Nat.ne_of_gt F.ns.lt, Heap.get?_none_of_le (Nat.le_of_lt (Nat.lt_of_le_of_lt F.above F.ns.lt))⟩
  rcases List.mem_cons.mp hp with rfl | hp
  · exact ⟨he2, Pe.2⟩
  rcases List.mem_cons.mp hp with rfl | hp
  · exact ⟨(hs2.2 _ (Ne.symm hei)).trans hoi', Pi.2⟩
  · have z := N p (.tail _ (.tail _ hp))
    exact ⟨keep _ _ (hn2 p hp) (hn1 p hp) z.1, z.2⟩
theorem next_enum_end {l : Addr} {items : Array Value} {i : Nat} {old : Value} {Q : Option Value → Shared → Prop} (hh : A.handled = none) (F : Fr h₀ L s.heap m) (N : News h₀ L s.heap ((e, enumO it i old) :: (it, oi) :: news))
    (hn1 : ∀ p ∈ news, p.1 ≠ it) (hi : TupIt l i oi) (hl : l ≠ it) (hL : s.heap.IsTuple l items) (hx : i = items.size)
    (h : ∀ h', Fr h₀ L h' m → News h₀ L h' news → Q none { s with heap := h' }) :
    wpAny (model prog w) A (pyNext (.ref e)) Q E s := by
  subst hx
  have Pe := N _ (.head _)
  have Pi := N _ (.tail _ (.head _))
  refine wpAny_pyNext_enum_endD (D := (draws_tup (prog := prog) (w := w) (A := A.in1) hh it l hl items)) Pe.1 ⟨⟨oi, Pi.1, hi⟩, hL⟩ fun h' hk => ?_
  have N2 : News h₀ L s.heap ((it, oi) :: news) := fun p hp => by
    rcases List.mem_cons.mp hp with rfl | hp
    · exact Pi
    · exact N p (.tail _ (.tail _ hp))
  exact (head_drop F N2 hn1 hk).elim (h h')
end
end Mine
end
section
open PySem PySem.W PyProof.Rows PySem.Calls PySem.Spec
set_option maxRecDepth 100000
namespace Mine
section
variable (prog : Program) (w : World) (K : Frag) (p : Program) (loose : List Str) (mean : ExcName → Option Value) (mg mb : Str → Option Value)
/-- the call of a def, from within any def's frame: own₀ is what it may turn, rd what it may ask of the rest -/
noncomputable def Does (r : Nat) (f : Addr) (vs : List Value) (own₀ : Led) (rd : Led → Prop) (post : Value → Led → Prop) : Prop :=
  ∀ (dp un : Nat) (gd : Option (List Code)) (cn : Str) (cs : Scope) (a : Addr) (ccd : Value) (cl : List (Str × Addr)) (outer : List Env) (A₀ : Around) (base h₀ : Heap) (L : Addr) (m : Str → Option Value) (news : Led) (s : Shared) (Q : Value → Shared → Prop),
    Below A₀ base outer h₀ → Fr h₀ L s.heap m → K.In h₀ → News h₀ L s.heap (own₀ ++ news) → (∀ p ∈ own₀, ∀ q ∈ news, q.1 ≠ p.1) → rd news → Top p loose mean mg mb h₀ → cs.kind = .function → dp + r < recursionLimit → un + 10 * r < cLine →
    (∀ v own h' tk', post v own → Fr h₀ L h' m → News h₀ L h' (own ++ news) → (∀ p ∈ own, ∀ q ∈ news, q.1 ≠ p.1) → Q v { s with heap := h', toks := tk' }) →
    wpAny (model prog w) (ktrTop dp un gd cn cs L a ccd cl outer) (call (.ref f) vs) Q NoE s
end

/-- a def's end: what its caller takes -/
noncomputable def Ends (h₀ : Heap) (L : Addr) (m : Str → Option Value) (Q : Value → Shared → Prop) (r : Result) (s' : Shared) : Prop := match r with
  | .ok (.ret v) => Q v s'
  | _ => False

section
variable {prog : Program} {w : World} {K : Frag} {p : Program} {loose : List Str} {mean : ExcName → Option Value} {mg mb : Str → Option Value}
variable {dp un : Nat} {gd : Option (List Code)} {cn : Str} {cs : Scope} {a : Addr} {ccd : Value} {cl : List (Str × Addr)} {outer : List Env} {A₀ : Around} {base h₀ : Heap} {L : Addr} {m : Str → Option Value} {news : Led} {s : Shared} {Q : Value → Shared → Prop}

theorem enter {name qual : Str} {params : Arguments} {body : List Stmt} {scope : Scope} {dV kV doc pm cdv ct oc : Value} {an od : Option Addr} {osl : Array (Option Value)} {f : Addr} {vs : List Value} {binds : List (Str × Value)}
    (ho : K.lookup f = some ⟨oc, od, .func (fnOf name qual params body scope dV kV doc pm an cdv ct), osl⟩) (hcd : codeIn K cdv qual = true)
    (hbind : BindsTo s (fnOf name qual params body scope dV kV doc pm an cdv ct) ⟨vs, []⟩ binds) (hloc : ∀ y ∈ binds, scope.names.lookup y.1 = some .local)
    (hco : scope.isCoroutine = false) (hgen : scope.isGenerator = false) (hkf : scope.kind = .function) (hcell : ∀ x ∈ scope.names, x.2 ≠ .cell)
    (B : Below A₀ base outer h₀) (F : Fr h₀ L s.heap m) (X : K.In h₀) (N : News h₀ L s.heap news) (T : Top p loose mean mg mb h₀) (hk : cs.kind = .function) (hd : dp < recursionLimit)
    (h : ∀ g L' h₁ tk, Fr g L' h₁ (fun y => binds.reverse.lookup y) → News g L' h₁ news → Below (ktrTop dp un gd cn cs L a ccd cl outer) base (envX cn cs L a ccd cl :: outer) g → K.In g → Top p loose mean mg mb g →
      wpAny (model prog w) (ktrTop (dp + 1) (un + 3) gd qual scope L' f cdv [] (envX cn cs L a ccd cl :: outer)) (execs body (envX qual scope L' f cdv []))
        (fun fl s' => LeaveK h₀ L m g (Ends h₀ L m Q) (match fl with | .ret v => v | _ => .none) s') NoE { s with heap := h₁, toks := tk }) :
    wpAny (model prog w) (ktrTop dp un gd cn cs L a ccd cl outer) (call (.ref f) vs) Q NoE s := by
  refine wpAny_call (codeAny_mono (code_def (R := Ends h₀ L m Q) B F X N T rfl rfl hk ho hcd hd hbind hloc (fun g L' h₁ _ F' N' B' X' T' => ?_) hco hgen hkf hcell) fun r s' e => ?_)
  · exact lift (h g L' h₁ _ F' N' B' X' T')
  · cases r with
    | error e => exact e.elim
    | ok f => cases f with
      | ret v => exact e
      | _ => exact e.elim
theorem does_use {r : Nat} {f : Addr} {vs : List Value} {own₀ : Led} {rd : Led → Prop} {post : Value → Led → Prop} (D : Does prog w K p loose mean mg mb r f vs own₀ rd post)
    (B : Below A₀ base outer h₀) (F : Fr h₀ L s.heap m) (X : K.In h₀) (N : News h₀ L s.heap (own₀ ++ news)) (ap : ∀ p ∈ own₀, ∀ q ∈ news, q.1 ≠ p.1) (hrd : rd news) (T : Top p loose mean mg mb h₀) (hk : cs.kind = .function) (hd : dp + r < recursionLimit) (hu : un + 10 * r < cLine)
    (h : ∀ v own h' tk', post v own → Fr h₀ L h' m → News h₀ L h' (own ++ news) → (∀ p ∈ own, ∀ q ∈ news, q.1 ≠ p.1) → Q v { s with heap := h', toks := tk' }) :
    wpAny (model prog w) (ktrTop dp un gd cn cs L a ccd cl outer) (call (.ref f) vs) Q NoE s := D _ _ _ _ _ _ _ _ _ _ _ _ _ _ _ _ _ B F X N ap hrd T hk hd hu h
/-- a def that makes nothing to be kept -/
theorem does_pure {r : Nat} {f : Addr} {vs : List Value} {rd : Led → Prop} {post : Value → Prop} (D : Does prog w K p loose mean mg mb r f vs [] rd (fun v own => post v ∧ own = []))
    (B : Below A₀ base outer h₀) (F : Fr h₀ L s.heap m) (X : K.In h₀) (N : News h₀ L s.heap news) (hrd : rd news) (T : Top p loose mean mg mb h₀) (hk : cs.kind = .function) (hd : dp + r < recursionLimit) (hu : un + 10 * r < cLine)
    (h : ∀ v h' tk', post v → Fr h₀ L h' m → News h₀ L h' news → Q v { s with heap := h', toks := tk' }) :
    wpAny (model prog w) (ktrTop dp un gd cn cs L a ccd cl outer) (call (.ref f) vs) Q NoE s :=
  does_use D B F X N (fun _ h => nomatch h) hrd T hk hd hu fun v own h' tk' hp F' N' _ => by
    obtain ⟨hp, rfl⟩ := hp
    exact h v h' tk' hp F' N'
/-- the same, of a def that hands back one kind of value -/
theorem does_val {r : Nat} {f : Addr} {vs : List Value} {rd : Led → Prop} {mk : Tok → Value} (D : Does prog w K p loose mean mg mb r f vs [] rd (fun v own => (∃ u, v = mk u) ∧ own = []))
    (B : Below A₀ base outer h₀) (F : Fr h₀ L s.heap m) (X : K.In h₀) (N : News h₀ L s.heap news) (hrd : rd news) (T : Top p loose mean mg mb h₀) (hk : cs.kind = .function) (hd : dp + r < recursionLimit) (hu : un + 10 * r < cLine)
    (h : ∀ u h' tk', Fr h₀ L h' m → News h₀ L h' news → Q (mk u) { s with heap := h', toks := tk' }) :
    wpAny (model prog w) (ktrTop dp un gd cn cs L a ccd cl outer) (call (.ref f) vs) Q NoE s :=
  does_pure (post := fun v => ∃ u, v = mk u) D B F X N hrd T hk hd hu fun v h' tk' hp F' N' => by
    obtain ⟨u, rfl⟩ := hp
    exact h u h' tk' F' N'
end
end Mine
end
section
open PySem PySem.W PyProof.Rows PySem.Calls PySem.Spec
set_option maxRecDepth 100000
namespace Mine
/-- a turn's end: on, out, back -/
noncomputable def After (J : Heap → Prop) (s₀ : Shared) (R : Result → Shared → Prop) (f : Flow) (s : Shared) : Prop := match f with
  | .next => ∃ h tk, s = { s₀ with heap := h, toks := tk } ∧ J h
  | .cont => ∃ h tk, s = { s₀ with heap := h, toks := tk } ∧ J h
  | .brk => R (.ok .next) s
  | .ret v => R (.ok (.ret v)) s
theorem After.next {J : Heap → Prop} {s₀ : Shared} {R : Result → Shared → Prop} {h : Heap} {tk : Nat} (j : J h) : After J s₀ R .next { s₀ with heap := h, toks := tk } := ⟨h, tk, rfl, j⟩
theorem After.cont {J : Heap → Prop} {s₀ : Shared} {R : Result → Shared → Prop} {h : Heap} {tk : Nat} (j : J h) : After J s₀ R .cont { s₀ with heap := h, toks := tk } := ⟨h, tk, rfl, j⟩
/-- the loop's whole end -/
noncomputable def Fin (Q : Flow → Shared → Prop) (r : Result) (s : Shared) : Prop := match r with
  | .ok f => Q f s
  | .error _ => False
section
variable {prog : Program} {w : World} {A : Around} {env : Env} {R : Result → Shared → Prop} {s : Shared}

/-- a for over a target of any shape: what holds of what is left -/
theorem for_ind {α : Type} {target : Expr} {it : Value} {body orelse : List Stmt} (J : List α → Heap → Prop) (l : List α) (h0 : J l s.heap)
    (turn : ∀ a r h tk, J (a :: r) h → wpAny (model prog w) A (pyNext it) (fun res s₁ => match res with
      | none => False
      | some v => wpAny (model prog w) A (letOwnedTupleGo target it v) (fun _ s₁' => wpAny (model prog w) A (assign target env v) (fun _ s₂ => wpAny (model prog w) A (execs body env) (After (J r) s R) NoE s₂) NoE s₁') NoE s₁) NoE { s with heap := h, toks := tk })
    (done : ∀ h tk, J [] h → wpAny (model prog w) A (pyNext it) (fun res s₁ => res = none ∧ wpAny (model prog w) A (execs orelse env) (fun f s₃ => R (.ok f) s₃) NoE s₁) NoE { s with heap := h, toks := tk }) :
    codeAny (model prog w) A (.forLoop target it body orelse env) R s := by
  suffices H : ∀ (l : List α) (h : Heap) (tk : Nat), J l h → codeAny (model prog w) A (.forLoop target it body orelse env) R { s with heap := h, toks := tk } from H l s.heap s.toks h0
  intro l
  induction l with
  | nil =>
    intro h tk j
    refine for_step (wpAny_mono (done h tk j) (fun res s₁ e => ?_) fun _ _ e => e)
    obtain ⟨rfl, e⟩ := e
    exact e
  | cons a r ih =>
    intro h tk j
    refine for_step (wpAny_mono (turn a r h tk j) (fun res s₁ e => ?_) fun _ _ e => e)
    cases res with
    | none => exact e.elim
    | some v =>
      refine wpAny_mono e (fun _ _ e => wpAny_mono e (fun _ _ e => wpAny_mono e (fun f s₃ e => ?_) fun _ _ e => e) fun _ _ e => e) fun _ _ e => e
      cases f with
      | next => obtain ⟨h', tk', rfl, j'⟩ := e; exact ih h' tk' j'
      | cont => obtain ⟨h', tk', rfl, j'⟩ := e; exact ih h' tk' j'
      | brk => exact e
      | ret v => exact e
theorem for_indN {α : Type} {x : Str} {px : Pos} {it : Value} {body orelse : List Stmt} (J : List α → Heap → Prop) (l : List α) (h0 : J l s.heap)
    (turn : ∀ a r h tk, J (a :: r) h → wpAny (model prog w) A (pyNext it) (fun res s₁ => match res with
      | none => False
      | some v => wpAny (model prog w) A (assign (.Name x px) env v) (fun _ s₂ => wpAny (model prog w) A (execs body env) (After (J r) s R) NoE s₂) NoE s₁) NoE { s with heap := h, toks := tk })
    (done : ∀ h tk, J [] h → wpAny (model prog w) A (pyNext it) (fun res s₁ => res = none ∧ wpAny (model prog w) A (execs orelse env) (fun f s₃ => R (.ok f) s₃) NoE s₁) NoE { s with heap := h, toks := tk }) :
    codeAny (model prog w) A (.forLoop (.Name x px) it body orelse env) R s := by
  refine for_ind J l h0 (fun a r h tk j => wpAny_mono (turn a r h tk j) (fun res s₁ e => ?_) fun _ _ e => e) done
  cases res with
  | none => exact e
  | some v => exact wpAny_pure e
theorem for_do {target iter : Expr} {body orelse : List Stmt} {pos : Pos} {Q : Flow → Shared → Prop}
    (h : wpAny (model prog w) A (eval iter env) (fun x s₁ => wpAny (model prog w) A (pyIter x) (fun it s₂ => codeAny (model prog w) A (.forLoop target it body orelse env) (Fin Q) s₂) NoE s₁) NoE s)
    (hs : ∀ x, foldedSetIterable iter env x = pure x := by intro _; rfl) :
    wpAny (model prog w) A (exec (.For target iter body orelse pos) env) Q NoE s :=
  for_exec (wpAny_mono h (fun _ _ h => wpAny_mono h (fun _ _ h => codeAny_mono h fun r s' e => by cases r <;> exact e) fun _ _ h => h) fun _ _ h => h) hs
/-- a while: what holds ahead of each test, and a measure -/
theorem while_ind {test : Expr} {body orelse : List Stmt} (J : Nat → Heap → Prop) (n : Nat) (h0 : J n s.heap)
    (turn : ∀ n h tk, J n h → wpAny (model prog w) A (isTrue test env (eval test env)) (fun b s₂ =>
        if b then wpAny (model prog w) A (execs body env) (After (fun h => ∃ m, m < n ∧ J m h) s R) NoE s₂
        else wpAny (model prog w) A (execs orelse env) (fun f s₃ => R (.ok f) s₃) NoE s₂) NoE { s with heap := h, toks := tk }) :
    codeAny (model prog w) A (.whileLoop test body orelse env) R s := by
  suffices H : ∀ (n : Nat) (h : Heap) (tk : Nat), J n h → codeAny (model prog w) A (.whileLoop test body orelse env) R { s with heap := h, toks := tk } from H n s.heap s.toks h0
  intro n
  induction n using Nat.strongRecOn with
  | ind n ih =>
    intro h tk j
    refine while_step (wpAny_mono (turn n h tk j) (fun b s₂ e => ?_) fun _ _ e => e)
    cases b with
    | false => exact e
    | true =>
      refine wpAny_mono e (fun f s₃ e => ?_) fun _ _ e => e
      cases f with
      | next => obtain ⟨h', tk', rfl, m, hm, j'⟩ := e; exact ih m hm h' tk' j'
      | cont => obtain ⟨h', tk', rfl, m, hm, j'⟩ := e; exact ih m hm h' tk' j'
      | brk => exact e
      | ret v => exact e
theorem while_do {test : Expr} {body orelse : List Stmt} {pos : Pos} {Q : Flow → Shared → Prop}
    (h : codeAny (model prog w) A (.whileLoop test body orelse env) (Fin Q) s) : wpAny (model prog w) A (exec (.While test body orelse pos) env) Q NoE s :=
  while_exec (codeAny_mono h fun r s' e => by cases r <;> exact e)
end
theorem fr_put {h₀ h : Heap} {L : Addr} {m : Str → Option Value} {x : Str} {v : Value} (F : Fr h₀ L h m) (e : m x = some v) : Fr h₀ L h (fun y => if y = x then some v else m y) := by
  have : (fun y => if y = x then some v else m y) = m := by
    funext y
    by_cases q : y = x
    · rw [if_pos q, q, e]
    · rw [if_neg q]
  rw [this]; exact F
theorem fr_puts {h₀ h : Heap} {L : Addr} {m : Str → Option Value} (F : Fr h₀ L h m) : ∀ ps : List (Str × Value), (∀ p ∈ ps, m p.1 = some p.2) → Fr h₀ L h (kstB m ps) := fun ps hp => by
  have : kstB m ps = m := by
    funext y
    exact kstB_eq hp fun _ => rfl
  rw [this]; exact F
theorem news_sub {h₀ h : Heap} {L : Addr} {l l' : Led} (N : News h₀ L h l) (hs : ∀ p ∈ l', p ∈ l) : News h₀ L h l' := fun p hp => N p (hs p hp)
theorem isList_of {h₀ h : Heap} {L a : Addr} {l : Led} {its : Array Value} {n : Nat} (N : News h₀ L h l) (hm : (a, listOf its n) ∈ l) : h.IsList a its := ⟨_, (N _ hm).1, rfl, n, rfl⟩
theorem news_ne {h₀ h : Heap} {L : Addr} {l : Led} (N : News h₀ L h l) {a b : Addr} {o o' : Obj} (ha : (a, o) ∈ l) (hb : (b, o') ∈ l) (hc : o.cls ≠ o'.cls) : a ≠ b := fun e => by
  have h1 := (N _ ha).1
  have h2 := (N _ hb).1
  rw [show (a, o).1 = (b, o').1 from e, h2] at h1
  exact hc (congrArg Obj.cls (Option.some.inj h1)).symm
theorem app_led {prog : Program} {w : World} {A : Around} {E : Value → Shared → Prop} {s : Shared} {h₀ : Heap} {L D : Addr} {m : Str → Option Value} {pre post : Led} {its : Array Value} {n : Nat} {x : Value} {Q : Value → Shared → Prop}
    (F : Fr h₀ L s.heap m) (N : News h₀ L s.heap (pre ++ (D, listOf its n) :: post)) (h1 : ∀ p ∈ pre, p.2.cls ≠ .type "list" ∨ p.1 ≠ D) (h2 : ∀ p ∈ post, p.1 ≠ D) (hsz : its.size ≤ 1048576)
    (h : ∀ h', Fr h₀ L h' m → News h₀ L h' (pre ++ (D, listOf (its.push x) (n + 1)) :: post) → Q .none { s with heap := h' }) : wpAny (model prog w) A (call (.builtin "list.append") [.ref D, x]) Q E s := by
  have z := N (D, listOf its n) (List.mem_append.mpr (.inr (.head _)))
  have h1' : ∀ p ∈ pre, p.1 ≠ D := fun p hp => (h1 p hp).elim (fun hc => news_ne N (a := p.1) (o := p.2) (List.mem_append_left _ hp) (List.mem_append.mpr (.inr (.head _))) hc) id
  refine append_at (hsz := by rw [sizeLine_eq]; omega) z.1 fun h' hs ho' => h h' (F.change hs z.2.1 z.2.2) (news_set N h1' h2 hs ho')
end Mine
end
section
open PySem PySem.W PyProof.Rows PySem.Calls PySem.Spec
set_option maxRecDepth 100000
namespace Mine
noncomputable def S (l : List Nat) : Str := ⟨l.toArray⟩
theorem S_inj {a b : List Nat} (h : S a = S b) : a = b := by
  have := congrArg (fun x => x.cps.toList) h
  simpa [S] using this
theorem S_eq {a b : List Nat} : S a = S b ↔ a = b := ⟨S_inj, fun h => h ▸ rfl⟩
theorem S_of (x : Str) : S x.cps.toList = x := by cases x; simp [S]
theorem S_append (a b : List Nat) : S a ++ S b = S (a ++ b) := by
  show Str.append _ _ = _
  simp [Str.append, S]
theorem S_length (a : List Nat) : (S a).length = a.length := by simp [S, Str.length]
theorem S_size (a : List Nat) : (S a).cps.size = a.length := by simp [S]
theorem S_cps (a : List Nat) : (S a).cps = a.toArray := rfl
theorem S_get (a : List Nat) (i : Nat) : (S a).cps[i]? = a[i]? := by simp [S]
theorem join_S : ∀ ls : List (List Nat), Txt.join (S []) (ls.map S) = S ls.flatten := by
  intro ls
  show Builtin.Str.glued _ _ = _
  rw [StrLaws.glued_eq_join]
  induction ls with
  | nil => rfl
  | cons a r ih =>
    cases r with
    | nil => show S a = _; simp
    | cons b r =>
      show S a ++ S [] ++ Str.join (S []) ((b :: r).map S) = _
      rw [ih, S_append, S_append]; simp
theorem joinOk_S {ls : List (List Nat)} (h : ls.flatten.length ≤ 1048576) : JoinOk (S []) (ls.map S) = true := by
  unfold JoinOk
  have : (ls.map S).toArray.foldl (fun x1 x2 => x1 + x2.length + (S []).length) 0 = ls.flatten.length := by
    rw [StrLaws.joinTotal]
    simp [S_length, Function.comp_def, List.length_flatten]
  rw [this]
  have : ¬ ls.flatten.length > sizeLine := by rw [sizeLine_eq]; omega
  unfold Builtin.Str.tooLong
  rw [decide_eq_false this]; rfl
theorem strs_append (ps : List (Str × Tok)) (x : Str) (t : Tok) : (strValues ps).toArray.push (.str x t) = (strValues (ps ++ [(x, t)])).toArray := by simp [strValues]
theorem join_led {prog : Program} {w : World} {A : Around} {E : Value → Shared → Prop} {s : Shared} {x : Str} {t : Tok} {Q : Value → Shared → Prop} {D : Addr} {l : List (Str × Tok)} {ls : List (List Nat)} (hx : x = S []) (hl : s.heap.IsList D (strValues l).toArray) (ht : l.map (·.1) = ls.map S) (hb : ls.flatten.length ≤ 1048576)
    (hq : ∀ t' k, Q (.str (S ls.flatten) t') { s with toks := k }) : wpAny (model prog w) A (call (.builtin "str.join") [.str x t, .ref D]) Q E s := by
  subst hx
  exact SC.join hl ht (joinOk_S hb) fun t' k => by rw [join_S]; exact hq t' k
theorem flat_ones (l : List Nat) : (l.map fun c => [c]).flatten = l := by induction l with
  | nil => rfl
  | cons c r ih => simp [ih]
end Mine
end
section
open PySem PySem.W PyProof.Rows PySem.Calls PySem.Spec
set_option maxRecDepth 100000
namespace Mine
theorem txt_item {l : List Nat} {i : Int} {c : Nat} (h0 : 0 ≤ i) (hx : l[i.toNat]? = some c) : Txt.item (S l) i = S [c] := by
  obtain ⟨hi, hc⟩ := List.getElem?_eq_some_iff.mp hx
  unfold Txt.item Txt.charAt
  have : seqIndex? i (S l).length = some i.toNat := by
    unfold seqIndex?
    rw [S_length]
    split <;> simp_all <;> omega
  rw [this]
  simp [S_get, hx, S]
theorem item_S {prog : Program} {w : World} {A : Around} {E : Value → Shared → Prop} {s : Shared} {value slice : Expr} {l : List Nat} {t u : Tok} {i : Int} {c : Nat} {Q : Value → Shared → Prop} (h0 : 0 ≤ i) (hx : l[i.toNat]? = some c) (hb : l.length ≤ 1048576)
    (h : Q (.str (S [c]) s.toks) { s with toks := s.toks + 1 })
    (hs : subscripted slice false (.str (S l) t) (.int i u) = operate [.str (S l) t, .int i u] (getItem (.str (S l) t) (.int i u)) := by with_unfolding_all rfl)
    (ht : ∀ r, letTemporaryGo value (.str (S l) t) r = pure () := by intro _; with_unfolding_all rfl) :
    wpAny (model prog w) A (subscriptTail value slice (.str (S l) t) (.int i u)) Q E s := by
  obtain ⟨hi, hc⟩ := List.getElem?_eq_some_iff.mp hx
  have hlt : i < ((S l).length : Int) := by rw [S_length]; omega
  refine item_str (fitsSsize_of (N := 9223372036854775808) (by omega) (by rw [S_length] at hlt; omega) (Int.le_refl _)) (by omega) hlt (fun _ => ?_) hs ht
  rw [txt_item h0 hx]; exact h
end Mine
end
section
open PySem PySem.W PyProof.Rows PySem.Calls PySem.Spec
set_option maxRecDepth 100000
namespace Mine
section
variable {prog : Program} {w : World} {A : Around} {E : Value → Shared → Prop} {s : Shared} {Q : Value → Shared → Prop} {x y : Str} {t u : Tok} {a b : List Nat}
theorem add_S (hx : x = S a) (hy : y = S b) (hsz : a.length + b.length ≤ 1048576) (h : ∀ t' k, Q (.str (S (a ++ b)) t') { s with toks := k }) : wpAny (model prog w) A (binaryOp .Add (.str x t) (.str y u)) Q E s := by
  subst hx hy
  refine PyProof.Rows.add_str (fun t' k => ?_) (by rw [S_length, S_length, sizeLine_eq]; omega)
  rw [S_append]; exact h t' k
theorem iadd_S (hx : x = S a) (hy : y = S b) (hsz : a.length + b.length ≤ 1048576) (h : ∀ t' k, Q (.str (S (a ++ b)) t') { s with toks := k }) : wpAny (model prog w) A (inplaceOp .Add (.str x t) (.str y u)) Q E s := by
  subst hx hy
  refine PyProof.Rows.iadd_str (fun t' k => ?_) (by rw [S_length, S_length, sizeLine_eq]; omega)
  rw [S_append]; exact h t' k

theorem sub_S (l : List Nat) (i j : Nat) : Builtin.Str.strSub (S l) i j = S ((l.drop i).take (j - i)) := by
  apply Str.ext'
  apply Array.ext'
  rw [StrLaws.strSub_toList]; rfl
/-- what rstrip leaves -/
noncomputable def rstripL (g : Nat → Bool) (l : List Nat) : List Nat := l.take (l.length - (l.reverse.takeWhile g).length)
theorem S_contains (c : List Nat) : (S c).cps.contains = c.contains := by funext n; simp [S]
theorem drop_while : ∀ (g : Nat → Bool) (l : List Nat), l.drop (l.takeWhile g).length = l.dropWhile g := by
  intro g l
  induction l with
  | nil => rfl
  | cons a r ih => simp only [List.takeWhile_cons, List.dropWhile_cons]; split <;> simp [*]
theorem rstrip_S (l c : List Nat) : Txt.rstripChars (S l) (S c) = S (rstripL c.contains l) := by
  unfold Txt.rstripChars
  rw [S_contains, W.stripBy_eq]
  show Builtin.Str.strSub (S l) 0 ((S l).length - ((l.drop 0).reverse.takeWhile _).length) = _
  rw [sub_S, S_length]
  simp [rstripL]
theorem lstrip_S (l c : List Nat) : Txt.lstripChars (S l) (S c) = S (l.dropWhile c.contains) := by
  unfold Txt.lstripChars
  rw [S_contains, W.stripBy_eq]
  show Builtin.Str.strSub (S l) (l.takeWhile _).length (S l).length = _
  rw [sub_S, S_length, List.take_of_length_le (by simp), drop_while]
theorem call_rstrip {c : List Nat} (hx : x = S a) (hy : y = S c) (hsz : a.length ≤ 1048576) (h : ∀ t' k, Q (.str (S (rstripL c.contains a)) t') { s with toks := k }) : wpAny (model prog w) A (call (.builtin "str.rstrip") [.str x t, .str y u]) Q E s := by
  subst hx hy
  exact SC.rstripChars (fun t' k => by rw [rstrip_S]; exact h t' k) (by rw [S_length, sizeLine_eq]; omega)
theorem call_lstrip {c : List Nat} (hx : x = S a) (hy : y = S c) (hsz : a.length ≤ 1048576) (h : ∀ t' k, Q (.str (S (a.dropWhile c.contains)) t') { s with toks := k }) : wpAny (model prog w) A (call (.builtin "str.lstrip") [.str x t, .str y u]) Q E s := by
  subst hx hy
  exact SC.lstripChars (fun t' k => by rw [lstrip_S]; exact h t' k) (by rw [S_length, sizeLine_eq]; omega)
theorem slice_S {l : List Nat} {i j : Nat} (hij : i ≤ j) (hj : j ≤ l.length) : Txt.slice (S l) (some (i : Int)) (some (j : Int)) = S ((l.drop i).take (j - i)) :=
  StrLaws.sliceText_nat (S l) hij (by rw [S_length]; exact hj)
theorem slice_S_to {l : List Nat} {j : Nat} (hj : j ≤ l.length) : Txt.slice (S l) none (some (j : Int)) = S (l.take j) := by
  have e : Txt.slice (S l) none (some (j : Int)) = Txt.slice (S l) (some ((0 : Nat) : Int)) (some (j : Int)) := by unfold Txt.slice; rw [StrLaws.sliceIdx_none_lo]; rfl
  rw [e, slice_S (Nat.zero_le _) hj]; simp
theorem slice_S_from {l : List Nat} {i : Nat} (hi : i ≤ l.length) : Txt.slice (S l) (some (i : Int)) none = S (l.drop i) := by
  have e : Txt.slice (S l) (some (i : Int)) none = Txt.slice (S l) (some (i : Int)) (some ((l.length : Nat) : Int)) := by unfold Txt.slice; rw [StrLaws.sliceIdx_none_hi, S_length]
  rw [e, slice_S hi (Nat.le_refl _), List.take_of_length_le (by simp)]
/-- the first one from a place on -/
theorem find3_S {pre mid post : List Nat} {c : Nat} (h : c ∉ mid) : Txt.find3 (S (pre ++ mid ++ c :: post)) (S [c]) (pre.length : Int) = ((pre.length + mid.length : Nat) : Int) := by
  have hx : (S (pre ++ mid ++ c :: post)).length = pre.length + mid.length + (post.length + 1) := by rw [S_length]; simp; omega
  have hf : fromIndex (S (pre ++ mid ++ c :: post)).length (pre.length : Int) = pre.length := by
    unfold fromIndex; rw [hx]; simp; try omega
  have hg : ∀ v, (S (pre ++ mid ++ c :: post)).cps.getD v 0 = (pre ++ mid ++ c :: post).getD v 0 := fun v => by simp [S]
  have hc0 : (pre ++ mid ++ c :: post).getD (pre.length + mid.length) 0 = c := by simp
  rcases StrLaws.find3_spec (S (pre ++ mid ++ c :: post)) c (pre.length : Int) with ⟨_, hn⟩ | ⟨k, hk, h1, h2, h3, h4⟩
  · exact absurd (by rw [hg]; exact hc0) (hn (pre.length + mid.length) (by omega) (by omega))
  · refine hk.trans ?_
    rw [hf] at h1 h4
    have hle : ¬ (pre.length + mid.length < k) := fun hlt => h4 _ (by omega) hlt (by rw [hg]; exact hc0)
    have hge : ¬ (k < pre.length + mid.length) := fun hlt => by
      rw [hg] at h3
      refine h (?_ : c ∈ mid)
      have : (pre ++ mid ++ c :: post)[k]? = mid[k - pre.length]? := by
        rw [List.append_assoc, List.getElem?_append_right h1, List.getElem?_append_left (by omega)]
      rw [List.getD_eq_getElem?_getD, this, List.getElem?_eq_getElem (by omega)] at h3
      exact h3 ▸ List.getElem_mem _
    have : k = pre.length + mid.length := by omega
    rw [this]
theorem lit_e : Str.ofString "" = S [] := by decide +kernel
theorem lit_q : Str.ofString "?" = S [63] := by decide +kernel
theorem lit_n : Str.ofString "[!" = S [91, 33] := by decide +kernel
theorem lit_c : Str.ofString "]" = S [93] := by decide +kernel
theorem lit_k : Str.ofString "[?]" = S [91, 63, 93] := by decide +kernel
theorem lit_s : Str.ofString "*" = S [42] := by decide +kernel
end
end Mine
end
section
open PySem PySem.W PyProof.Rows PySem.Calls PySem.Spec
set_option maxRecDepth 100000
namespace Mine
section
variable {prog : Program} {w : World} {A : Around} {E : Value → Shared → Prop} {s : Shared} {d : Addr} {f : Int → Option Value} {c : Nat}
theorem keyErr_sub : isSubtype (.type "KeyError") (.type "LookupError") = pure true := by rw [isSubtype_type]; kernel_rfl
theorem tl_hit {x : Str} {t : Tok} {Q : Builtin.Str.Mapped → Shared → Prop} (hm : s.heap.MapOf (intKind prog w) d f) (hv : f c = some (.str x t)) (h : ∀ k, Q (.text x) { s with toks := k }) :
    wpAny (model prog w) A (Builtin.Str.tableLookup (.ref d) c) Q E s := by
  unfold Builtin.Str.tableLookup
  refine wpAny_bind (wpAny_attempt (wpAny_bind (wpAny_mkInt (wpAny_getItem_of (k := (c : Int)) (knd := intKind prog w) (by simp [intKind, Value.isInt]) hm hv ?_))))
  show wpAny _ _ (asInt? (.str x t) >>= _) _ _ _
  refine wpAny_bind (wpAny_of_eq (a := none) rfl ?_)
  show wpAny _ _ (asStr? (.str x t) >>= _) _ _ _
  exact wpAny_bind (wpAny_of_eq (a := some x) rfl (wpAny_pure (h _)))
theorem tl_miss {Q : Builtin.Str.Mapped → Shared → Prop} (hh : A.handled = none) (hd : (d == sysModules) = false) (hm : s.heap.MapOf (intKind prog w) d f) (hv : f c = none) (h : ∀ h' k, (∀ b o, s.heap.get? b = some o → h'.get? b = some o) → Q .keep { s with heap := h', toks := k }) :
    wpAny (model prog w) A (Builtin.Str.tableLookup (.ref d) c) Q E s := by
  unfold Builtin.Str.tableLookup
  refine wpAny_bind (wpAny_attempt (wpAny_bind (wpAny_mkInt (wpAny_getItem_missing_of (k := (c : Int)) (knd := intKind prog w) (by simp [intKind, Value.isInt]) hd hh hm hv ?_))))
  intro h' e hx
  refine wpAny_bind (wpAny_isInstance (T := "KeyError") (b := true) ?_ keyErr_sub ?_)
  · obtain ⟨ob, t, h1, h2, _⟩ := hx.there
    exact ⟨ob, h1, h2⟩
  · exact wpAny_bind (wpAny_rule (wpAny_pure (h _ _ hx.keeps)))
theorem trans_hit {x : Str} {t u : Tok} {Q : Value → Shared → Prop} (hm : s.heap.MapOf (intKind prog w) d f) (hc : c < 128) (hv : f c = some (.str x t)) (hx : (x.length == 1 && x.cps.all (· < 128)) = false) (hx2 : x.length ≤ 1000) (h : ∀ t' k, Q (.str x t') { s with toks := k }) :
    wpAny (model prog w) A (call (.builtin "str.translate") [.str (S [c]) u, .ref d]) Q E s := by
  refine wpAny_call_entry F.slot_str_translate (typeIs_str _ _ _) F.entry_str_translate ?_ (F.args_str_translate_2 _ _)
  unfold Builtin.«str.translate»
  refine wpAny_bind (wpAny_of_eq (a := (.str (S [c]) u, S [c], .ref d)) rfl ?_)
  have h1 : ((S [c]).length == 0) = false := by rw [S_length]; rfl
  have h2 : ((S [c]).cps.all fun x => decide (x < 128)) = true := by simp [S, hc]
  have h3 : Builtin.Str.tooLong 0 = false := by decide +kernel
  dsimp only
  rw [if_neg (by rw [h1]; decide), h2]
  refine wpAny_bind ?_
  rw [S_cps, List.forIn_toArray, List.forIn_cons]
  dsimp only
  refine wpAny_bind ?_
  rw [if_neg (by rw [h3]; decide)]
  simp only [if_true, List.lookup_nil, Bool.false_eq_true, if_false]
  refine wpAny_bind (tl_hit hm hv fun k => ?_)
  simp only [hx, Bool.false_eq_true, if_false]
  refine wpAny_bind (wpAny_pure ?_)
  refine wpAny_bind (wpAny_rule ?_)
  refine wpAny_bind (tl_hit (f := f) hm hv fun k => ?_)
  dsimp only
  refine wpAny_pure ?_
  dsimp only
  rw [List.forIn_nil]
  refine wpAny_pure ?_
  dsimp only
  rw [if_neg (by unfold Builtin.Str.tooLong; rw [decide_eq_false (by rw [sizeLine_eq]; omega)]; decide)]
  have hq : (⟨([x] : List Str).reverse.foldl (fun acc p => acc ++ p.cps) #[]⟩ : Str) = x := by simp
  rw [hq]
  exact wpAny_bind (wpAny_mkStr (wpAny_pure ⟨_, rfl, h _ _⟩) (by rw [sizeLine_eq]; omega))
theorem trans_miss {u : Tok} {Q : Value → Shared → Prop} (hh : A.handled = none) (hd : (d == sysModules) = false) (hm : s.heap.MapOf (intKind prog w) d f) (hc : c < 128) (hv : f c = none) (h : ∀ h' t' k, (∀ b o, s.heap.get? b = some o → h'.get? b = some o) → Q (.str (S [c]) t') { s with heap := h', toks := k }) :
    wpAny (model prog w) A (call (.builtin "str.translate") [.str (S [c]) u, .ref d]) Q E s := by
  refine wpAny_call_entry F.slot_str_translate (typeIs_str _ _ _) F.entry_str_translate ?_ (F.args_str_translate_2 _ _)
  unfold Builtin.«str.translate»
  refine wpAny_bind (wpAny_of_eq (a := (.str (S [c]) u, S [c], .ref d)) rfl ?_)
  have h1 : ((S [c]).length == 0) = false := by rw [S_length]; rfl
  have h2 : ((S [c]).cps.all fun x => decide (x < 128)) = true := by simp [S, hc]
  have h3 : Builtin.Str.tooLong 0 = false := by decide +kernel
  have h4 : Builtin.Str.tooLong (0 + 1) = false := by decide +kernel
  dsimp only
  rw [if_neg (by rw [h1]; decide), h2]
  refine wpAny_bind ?_
  rw [S_cps, List.forIn_toArray, List.forIn_cons]
  dsimp only
  refine wpAny_bind ?_
  rw [if_neg (by rw [h3]; decide)]
  simp only [if_true, List.lookup_nil, Bool.false_eq_true, if_false]
  refine wpAny_bind (tl_miss hh hd hm hv fun h' k hk => ?_)
  dsimp only
  refine wpAny_bind (wpAny_pure ?_)
  dsimp only
  refine wpAny_pure ?_
  dsimp only
  rw [List.forIn_nil]
  refine wpAny_pure ?_
  dsimp only
  rw [if_neg (by rw [h4]; decide)]
  exact wpAny_bind (wpAny_mkStr (wpAny_pure ⟨_, rfl, h _ _ _ hk⟩) (by rw [sizeLine_eq]; simp [Str.length]))
end
end Mine
end
section
open PySem PySem.W PyProof.Rows PySem.Calls PySem.Spec
set_option maxRecDepth 100000
namespace Mine
theorem slot_sub : Slot "re.Pattern" "sub" "re.Pattern.sub" :=
  .of (owner := "re.Pattern") (n := "sub") (by rw [typeLookup_type, builtinLookup_eq_fast]; kernel_rfl) (by decide +kernel) (by decide +kernel) (by decide +kernel)
    (by first | exact .inl (by decide +kernel) | exact .inr (by decide +kernel)) (by rw [isSubtype_type]; kernel_rfl)
theorem type_sub : typeOf (.builtin "re.Pattern.sub") = pure (.type "method_descriptor") := by show builtinType _ = _; rw [builtinType_eq_fast]; kernel_rfl
theorem entry_sub : entryFor table "re.Pattern.sub" = some Builtin.«re.Pattern.sub» := entryFor_of_tree (by kernel_rfl)
theorem entry_loop : entryFor table "re.Pattern.sub.loop" = some Builtin.«re.Pattern.sub.loop» := entryFor_of_tree (by kernel_rfl)
theorem args_sub (a b c : Value) : argsOk "re.Pattern.sub" ⟨[a, b, c], []⟩ := by
  unfold argsOk; kernel_rfl

/-- the machine's run, in the model's turns -/
noncomputable def runs : Nat → Sre.M → Sre.M
  | 0, m => m.runFor 4
  | k + 1, m => if (m.runFor 4).outcome.isSome then m.runFor 4 else runs k (m.runFor 4)
section
variable {prog : Program} {w : World} {A : Around} {E : Value → Shared → Prop} {s : Shared}
theorem drive {Q : Sre.M → Shared → Prop} : ∀ (k n : Nat) (m : Sre.M), k < n → (runs k m).outcome.isSome = true → Q (runs k m) s → wpAny (model prog w) A (Builtin.Re.reDrive n m) Q E s
  | _, 0, _, h, _, _ => absurd h (Nat.not_lt_zero _)
  | 0, n + 1, m, _, ho, h => by
    show wpAny _ _ (if (m.runFor 4).outcome.isSome = true then _ else _) _ _ _
    change (m.runFor 4).outcome.isSome = true at ho
    rw [if_pos ho]; exact wpAny_pure h
  | k + 1, n + 1, m, hk, ho, h => by
    show wpAny _ _ (if (m.runFor 4).outcome.isSome = true then _ else _) _ _ _
    by_cases hc : (m.runFor 4).outcome.isSome = true
    · have e : runs (k + 1) m = m.runFor 4 := if_pos hc
      rw [if_pos hc]; rw [e] at h; exact wpAny_pure h
    · have e : runs (k + 1) m = runs k (m.runFor 4) := if_neg hc
      rw [if_neg hc]; rw [e] at h ho
      exact wpAny_bind (wpAny_rule (drive k n _ (by omega) ho h))
theorem run_none {m : Sre.M} {k : Nat} {Q : Option Sre.M → Shared → Prop} (hk : k < 1000) (ho : (runs k m).outcome = some .failed) (h : Q none s) : wpAny (model prog w) A (Builtin.Re.reRunToEnd m) Q E s := by
  unfold Builtin.Re.reRunToEnd
  refine wpAny_bind (drive k _ m (Nat.lt_trans hk (by decide)) (by rw [ho]; rfl) ?_)
  refine wpAny_bind ?_
  refine wpAny_forIn_list _ (fun _ _ s' => s' = s) _ ?_ ?_ _ _ rfl
  · rintro x rest b s' rfl
    split
    · exact wpAny_bind (wpAny_rule (wpAny_pure rfl))
    · exact wpAny_pure rfl
  · rintro b s' rfl
    rw [ho]
    exact wpAny_pure h

/-- the fields of a text's pattern -/
structure PatAt (h : Heap) (P C : Addr) (vs : Array Value) : Prop where
  obj : ∃ o p g, h.get? P = some o ∧ o.cls = .type "re.Pattern" ∧ o.data = .fields #[p, g, .int 1 0, .none, .none, .ref C, .int 0 0]
  code : ∃ o n, h.get? C = some o ∧ o.data = .seq vs n
theorem PatAt.keeps {h h' : Heap} {P C : Addr} {vs : Array Value} (x : PatAt h P C vs) (k : ∀ b o, h.get? b = some o → h'.get? b = some o) : PatAt h' P C vs :=
  ⟨let ⟨o, p, g, a, b, c⟩ := x.obj; ⟨o, p, g, k _ _ a, b, c⟩, let ⟨o, n, a, b⟩ := x.code; ⟨o, n, k _ _ a, b⟩⟩
noncomputable abbrev codeOf (vs : Array Value) : Array Nat := (vs.map Builtin.Re.reRawOf).map (·.toNat)
noncomputable abbrev targetOf (P C : Addr) (l : List Nat) (t : Tok) (vs : Array Value) : Builtin.Re.ReTarget :=
  { pattern := .ref P, string := .str (S l) t, code := codeOf vs, text := l.toArray, kind := 0, groups := 1, pos := 0, lim := l.toArray.size }
theorem whole {P C : Addr} {vs : Array Value} {l : List Nat} {t : Tok} {Q : Builtin.Re.ReTarget → Shared → Prop} (x : PatAt s.heap P C vs) (h : Q (targetOf P C l t vs) s) :
    wpAny (model prog w) A (Builtin.Re.reWholeTarget (.ref P) (.str (S l) t)) Q E s := by
  obtain ⟨o, p, g, ho, hc, hd⟩ := x.obj
  obtain ⟨oc, n, hoc, hdc⟩ := x.code
  unfold Builtin.Re.reWholeTarget
  refine wpAny_bind (m := fieldsOf _) (wpAny_bind (wpAny_load ho ?_))
  rw [hd]
  refine wpAny_pure ?_
  refine wpAny_bind (wpAny_of_eq (a := (l.toArray, 0)) rfl ?_)
  show wpAny _ _ (Builtin.Re.reNoCollectionInside (.str (S l) t) 0 >>= _) _ _ _
  refine wpAny_bind (wpAny_of_eq (a := ()) rfl ?_)
  show wpAny _ _ (Builtin.Re.reRawItems (.ref C) >>= _) _ _ _
  refine wpAny_bind (m := Builtin.Re.reRawItems _) (wpAny_bind (wpAny_seqItems hoc hdc (wpAny_pure ?_)))
  exact wpAny_pure h
theorem fn_call : typeLookup (.type "function") (Str.ofString "__call__") = pure (some (.builtin "function.__call__")) := by rw [typeLookup_type, builtinLookup_eq_fast]; kernel_rfl
theorem str_not_bytearray : isSubtype (.type "str") (.type "bytearray") = pure false := by rw [isSubtype_type]; kernel_rfl

/-- the loop, when nothing is found -/
theorem loop_none {P C lam D : Addr} {vs : Array Value} {l : List Nat} {t : Tok} {k : Nat} (hk : k < 1000) (hl : l ≠ []) (hl2 : l.length ≤ 1000)
    (ho : (runs k (Sre.forSearch (codeOf vs) l.toArray 1 0 l.toArray.size false)).outcome = some .failed) :
    Meets (Builtin.«re.Pattern.sub.loop» ⟨[.ref P, .str (S l) t, .ref lam, rawInt 1, rawInt 0, rawInt 0, rawInt 0, rawInt 0, .bool false, .ref D, .bool false], []⟩)
      (fun _ R s => PatAt s.heap P C vs ∧ s.heap.get? D = some { cls := .type "list", data := .seq #[] } ∧ ∀ h' t' k, Heap.SameBut D s.heap h' → R (.ok (.ret (.str (S l) t'))) { s with heap := h', toks := k }) := by
  intro prog w A R s ⟨hP, hD, h⟩
  unfold Builtin.«re.Pattern.sub.loop»
  dsimp only
  refine wpAny_bind (whole hP ?_)
  dsimp only
  rw [if_neg (by decide)]
  refine wpAny_bind ?_
  rw [if_neg (by decide)]
  show wpAny _ _ (Builtin.Re.reRunToEnd (Sre.forSearch (codeOf vs) l.toArray 1 0 l.toArray.size false)) _ _ _
  refine run_none hk ho ?_
  dsimp only
  have hpos : 0 < l.length := List.length_pos_iff.mpr hl
  rw [if_pos (by simpa using hpos)]
  have e1 : (⟨l.toArray.extract (Int.toNat 0) l.toArray.size⟩ : Str) = S l := by simp [S]
  have e2 : (⟨l.toArray.extract 0 0⟩ : Str) = S [] := by simp [S]
  refine wpAny_bind (m := Builtin.Re.reSlice _ _ _ _) ?_
  show wpAny _ _ (mkStr ⟨l.toArray.extract (Int.toNat 0) l.toArray.size⟩) _ _ _
  rw [e1]
  refine wpAny_mkStr ?_ (by rw [S_length, sizeLine_eq]; omega)
  refine wpAny_bind (wpAny_updateSeq (o := { cls := .type "list", data := .seq #[] }) (xs := #[]) (n := 0) hD rfl ?_ (Nat.zero_le _) (by simp))
  refine wpAny_bind (m := Builtin.Re.reSlice _ _ _ _) ?_
  show wpAny _ _ (mkStr ⟨l.toArray.extract 0 0⟩) _ _ _
  rw [e2]
  refine wpAny_mkStr ?_ (by rw [S_length, sizeLine_eq]; simp)
  have hup : ∀ x, ∃ n, (s.heap.update D (Obj.mapSeq (·.push x))).get? D = some { cls := .type "list", data := .seq #[x] n } := fun x => ⟨_, by
    rw [Heap.get?_update_self _ hD rfl]; rfl⟩
  obtain ⟨n, hn⟩ := hup (.str (S l) s.toks)
  refine wpAny_bind (wpAny_seqItems (o := { cls := .type "list", data := .seq #[.str (S l) s.toks] n }) hn rfl ?_)
  rw [if_neg (by simp)]
  refine wpAny_bind (SC.join (l := [(S l, s.toks)]) (texts := [S l]) ⟨_, hn, rfl, n, rfl⟩ rfl (joinOk_S (ls := [l]) (by simp; omega)) fun t' k => ?_)
  rw [show Txt.join (S []) [S l] = S l by simpa using join_S [l]]
  rw [if_neg (by decide)]
  exact wpAny_pure (h _ _ _ (Heap.SameBut.update ..))
theorem sub_meets {P C lam : Addr} {vs : Array Value} {l : List Nat} {t : Tok} {k : Nat} (hk : k < 1000) (hl : l ≠ []) (hl2 : l.length ≤ 1000)
    (ho : (runs k (Sre.forSearch (codeOf vs) l.toArray 1 0 l.toArray.size false)).outcome = some .failed) :
    Meets (Builtin.«re.Pattern.sub» ⟨[.ref P, .ref lam, .str (S l) t], []⟩)
      (fun _ R s => PatAt s.heap P C vs ∧ s.TypeIs (.ref lam) "function" ∧ ∀ h' t' k, (∀ b o, s.heap.get? b = some o → h'.get? b = some o) → R (.ok (.ret (.str (S l) t'))) { s with heap := h', toks := k }) := by
  intro prog w A R s ⟨hP, hL, h⟩
  unfold Builtin.«re.Pattern.sub» Builtin.Re.reSubstitute
  dsimp only
  refine wpAny_bind (wpAny_of_eq (a := [some (.ref lam), some (.str (S l) t), none]) rfl ?_)
  dsimp only
  refine wpAny_bind (wpAny_pure ?_)
  refine wpAny_bind (wpAny_specialOf hL fn_call ?_)
  refine wpAny_bind (wpAny_of_eq (a := false) rfl ?_)
  refine wpAny_bind (wpAny_of_eq (a := (.ref lam, 1)) rfl ?_)
  dsimp only
  refine wpAny_bind (wpAny_holding (whole hP ?_))
  rw [if_pos (by decide)]
  refine wpAny_bind (m := Builtin.Re.reNotHeld _ _) ?_
  refine wpAny_bind (wpAny_isInstance (T := "str") (typeIs_str _ _ _) str_not_bytearray ?_)
  refine wpAny_of_eq (a := ()) rfl ?_
  refine wpAny_bind (wpAny_newList ?_ (by rw [sizeLine_eq]; simp))
  refine wpAny_pure ⟨plainId_quiet (by decide +kernel) _, codeAny_builtin entry_loop ?_⟩
  rw [Around.under_plainId (by decide +kernel)]
  refine loop_none hk hl hl2 ho prog w A R _ ⟨hP.keeps fun b o q => Heap.get?_push_of_some _ q, Heap.get?_push_size _ rfl, fun h' t' k hs => h _ _ _ fun b o q => ?_⟩
  exact (hs.2 b (Nat.ne_of_lt (Heap.lt_size q))).trans (Heap.get?_push_of_some _ q)
theorem call_sub {P C lam : Addr} {vs : Array Value} {l : List Nat} {t : Tok} {Q : Value → Shared → Prop} (k : Nat) (hk : k < 1000) (hl : l ≠ []) (hl2 : l.length ≤ 1000)
    (hP : PatAt s.heap P C vs) (hL : s.TypeIs (.ref lam) "function")
    (ho : (runs k (Sre.forSearch (codeOf vs) l.toArray 1 0 l.toArray.size false)).outcome = some .failed)
    (h : ∀ h' t' k, (∀ b o, s.heap.get? b = some o → h'.get? b = some o) → Q (.str (S l) t') { s with heap := h', toks := k }) :
    wpAny (model prog w) A (call (.builtin "re.Pattern.sub") [.ref P, .ref lam, .str (S l) t]) Q E s :=
  call_meets slot_sub (let ⟨o, _, _, a, b, _⟩ := hP.obj; ⟨o, a, b⟩) entry_sub (args_sub _ _ _) (sub_meets hk hl hl2 ho) ⟨hP, hL, h⟩
theorem fr_keeps {h₀ h h' : Heap} {L : Addr} {m : Str → Option Value} (F : Fr h₀ L h m) (k : ∀ b o, h.get? b = some o → h'.get? b = some o) : Fr h₀ L h' m := ⟨F.ns.keeps k, fun b o q => k b o (F.keep b o q), F.above⟩
theorem news_keeps {h₀ h h' : Heap} {L : Addr} {news : Led} (N : News h₀ L h news) (k : ∀ b o, h.get? b = some o → h'.get? b = some o) : News h₀ L h' news := fun p hp => ⟨k _ _ (N p hp).1, (N p hp).2⟩
end
noncomputable def reCode : Array Nat := #[14, 14, 4, 1, 1, 9, 0, 64, 0, 1342177280, 0, 0, 0, 0, 0, 17, 0, 13, 11, 9, 0, 64, 0, 1342177280, 0, 0, 0, 0, 0, 17, 1, 1]
noncomputable def isFailed : Option Sre.Outcome → Bool
  | some .failed => true
  | _ => false
theorem of_failed {o : Option Sre.Outcome} (h : isFailed o = true) : o = some .failed := by
  cases o with
  | none => cases h
  | some o => cases o <;> first | rfl | cases h
theorem nothing_found0 : ∀ c ∈ ([63, 112, 99, 100, 98, 108, 115, 114, 119, 120, 83, 116, 84] : List Nat), isFailed (runs 20 (Sre.forSearch reCode #[33, c] 1 0 2 false)).outcome = true := by decide +kernel
theorem nothing_found1 : isFailed (runs 20 (Sre.forSearch reCode #[33, 92, 45] 1 0 3 false)).outcome = true := by decide +kernel
theorem nothing_found2 : isFailed (runs 20 (Sre.forSearch reCode #[63] 1 0 1 false)).outcome = true := by decide +kernel
end Mine
end
section
open PySem PySem.W PyProof.Rows PySem.Calls PySem.Spec
set_option maxRecDepth 100000
set_option maxHeartbeats 8000000
namespace Mine
section
variable {w : World} {p : Program} {loose : List Str} {mean : ExcName → Option Value} {mg mb : Str → Option Value}
theorem lines_ES1 : True := by
  k_with_none
  k_with "my steps" => repeat' ((fail_if_success (with_reducible show wpAny _ _ (exec (Stmt.For _ _ _ _ _) _) _ _ _)); (fail_if_success (with_reducible show wpAny _ _ (exec (Stmt.While _ _ _ _) _) _ _ _)); first | walk1 | (dsimp only; walk1) | (leave1; walk_say "STEP leave1"; try dsimp only) | fail "no step")
  k_with "my ite" => first | (refine ite_neg (by simp only [decide_eq_true_eq, beq_iff_eq, bne_iff_ne, ne_eq]; omega) ?_) | (refine ite_pos (by simp only [decide_eq_true_eq, beq_iff_eq, bne_iff_ne, ne_eq]; omega) ?_)
  trivial
theorem gm_translate {M : Model} {A : Around} {E : Value → Shared → Prop} {s : Shared} {x : Str} {t : Tok} {pl : Sem Bool} {Q : Value × List Value → Shared → Prop} (h : Q (.builtin "str.translate", [.str x t]) s) : wpAny M A (getMethod (.str x t) "translate" pl) Q E s := by
  with_reducible exact GM.of (.str x t) (typeIs_str _ _ _) F.slot_str_translate F.type_str_translate GM.noRef h
theorem lines_ES2 : True := by
  k_with "my getMethod str" => refine gm_translate ?_
  k_with "my room" => ((try simp only [depth_under_make, depth_under_kw, depth_in1, depth_deeper, depth_caller]); (try dsimp only [ktrTop]); omega)
  trivial

noncomputable def escList (c : Nat) : List Nat := if c = 45 then [92, 45] else [c]
noncomputable abbrev plainSigns : List Nat := [112, 99, 100, 98, 108, 115, 114, 119, 120, 83, 116, 84]

noncomputable def keysOk (es : Array DictEntry) : Bool := es.all fun e => match e.key with | .int i _ => e.hash == hashInt i | _ => false
theorem map_of {prog : Program} {h : Heap} {a : Addr} {o : Obj} {es : Array DictEntry} {ep : Nat} (ho : h.get? a = some o) (hc : o.ExactDict) (hd : o.data = .dict es ep) (hk : keysOk es = true) : h.MapOf (intKind prog w) a (fun k => findBy Value.isInt es k) := by
  refine ⟨o, es, ep, ho, hc, hd, fun e he => ?_, fun _ => rfl⟩
  have := Array.all_eq_true_iff_forall_mem.mp hk e he
  cases hx : e.key with
  | int i t => rw [hx] at this; exact ⟨i, by simp [intKind, Value.isInt], eq_of_beq this⟩
  | _ => rw [hx] at this; cases this
theorem lit_esc : Str.ofString "\\-" = S [92, 45] := by decide +kernel
theorem map141 {prog : Program} {h : Heap} (hrow : PySem.Challenge.rw_in0284_01 = PySem.Challenge.rw_in0284_01) (X : (hd0.heap_1 w.params).In h) : ∃ f, h.MapOf (intKind prog w) 141 f ∧ (∃ t, f 45 = some (.str (S [92, 45]) t)) ∧ ∀ c ∈ plainSigns, f c = none := by
  revert X hrow
  k_fill
  intro _ X
  refine ⟨_, map_of (X _ _ (by k_is)) ⟨rfl, rfl, rfl⟩ rfl ?_, ?_, ?_⟩
  · decide +kernel
  · rw [← lit_esc]; exact ⟨_, rfl⟩
  · intro c hc
    simp only [plainSigns, List.mem_cons, List.not_mem_nil, or_false] at hc
    rcases hc with rfl | rfl | rfl | rfl | rfl | rfl | rfl | rfl | rfl | rfl | rfl | rfl <;> rfl
theorem pat132 {h : Heap} (hrow : PySem.Challenge.rw_in0284_01 = PySem.Challenge.rw_in0284_01) (X : (hd0.heap_1 w.params).In h) : ∃ vs, PatAt h 132 131 vs ∧ codeOf vs = reCode ∧ ∃ o, h.get? 132 = some o ∧ o.cls = .type "re.Pattern" ∧ o.dict = none := by
  revert X hrow
  k_fill
  intro _ X
  exact ⟨_, ⟨⟨_, _, _, X _ _ (by k_is), rfl, rfl⟩, ⟨_, _, X _ _ (by k_is), rfl⟩⟩, by decide +kernel, _, X _ _ (by k_is), rfl, rfl⟩

theorem d_escape (c : Nat) (t : Tok) (hc : c ∈ (45 :: plainSigns : List Nat)) : Does PySem.Challenge.rw_in0284_01.row.prog w (hd0.heap_1 w.params) p loose mean mg mb 8 151 [.str (S [c]) t] [] (fun _ => True) (fun v own => (∃ u, v = .str (S (escList c)) u) ∧ own = []) := by
  unfold Does
  k_fill
  intro dp un gd cn cs a ccd cl outer A₀ base h₀ L m news s Q B F X N hap hrd T hk hr hu hret
  refine enter (by k_is) (by k_is) (BindsTo.of_eq rfl) (locs rfl) rfl rfl rfl (by decide) B F X N T hk (by omega) ?_
  intro g L' h₁ tk0 F' N' B' X' T'
  rw [List.nil_append] at N'
  obtain ⟨f, hm, ⟨t5, h45⟩, hpl⟩ := map141 (w := w) (prog := PySem.Challenge.rw_in0284_01.row.prog) rfl X'
  k_steps
  have hm' : h₁.MapOf (intKind PySem.Challenge.rw_in0284_01.row.prog w) 141 f := let ⟨o, es, ep, ho, r⟩ := hm; ⟨o, es, ep, F'.keep _ _ ho, r⟩
  rcases List.mem_cons.mp hc with rfl | hc
  · refine trans_hit hm' (by decide) h45 (by decide +kernel) (by decide +kernel) ?_
    intro t9 k9
    k_steps
    rename Fr h₀ _ _ _ => F6
    rename News h₀ _ _ _ => N6
    exact hret _ [] _ _ ⟨⟨_, rfl⟩, rfl⟩ F6 N6 (fun _ h => nomatch h)
  · have hlt : c < 128 ∧ c ≠ 45 := by
      simp only [plainSigns, List.mem_cons, List.not_mem_nil, or_false] at hc
      omega
    refine trans_miss rfl (by decide) hm' hlt.1 (hpl c hc) ?_
    intro h9 t9 k9 hk9
    replace F' := fr_keeps F' hk9
    replace N' := news_keeps N' hk9
    k_steps
    rename Fr h₀ _ _ _ => F6
    rename News h₀ _ _ _ => N6
    exact hret _ [] _ _ ⟨⟨_, by unfold escList; rw [if_neg hlt.2]⟩, rfl⟩ F6 N6 (fun _ h => nomatch h)
end
end Mine
end
section
open PySem PySem.W PyProof.Rows PySem.Calls PySem.Spec
set_option maxRecDepth 100000
namespace Mine
inductive Pc where
  | any | bar (c : Nat) | ask (c : Nat)
noncomputable abbrev signs : List Nat := 63 :: 45 :: plainSigns
namespace Pc
noncomputable def src : Pc → List Nat
  | any => [63]
  | bar c => [91, 33, c, 93]
  | ask c => if c = 63 then [91, 63, 93] else [c]
noncomputable def tr : Pc → List Nat
  | any => [46]
  | bar c => if c = 45 then [91, 94, 92, 45, 93] else [91, 94, c, 93]
  | ask c => if c = 63 then [91, 63, 93] else escList c
noncomputable def Ok : Pc → Prop
  | any => True
  | bar c => c ∈ signs
  | ask c => c ∈ signs
end Pc
noncomputable def srcs (ps : List Pc) : List Nat := (ps.map Pc.src).flatten
end Mine
end
section
open PySem PySem.W PyProof.Rows PySem.Calls PySem.Spec
set_option maxRecDepth 100000
set_option maxHeartbeats 2000000
namespace Mine
noncomputable abbrev bmO (D : Addr) : Obj := { cls := .type "builtin_function_or_method", data := .fields #[.builtin "list.append", .ref D] }
theorem ty_append : typeOf (.builtin "list.append") = pure (.type "method_descriptor") := by show builtinType _ = _; rw [builtinType_eq_fast]; kernel_rfl
theorem lk_append : typeLookup (.type "list") (Str.ofString "append") = pure (some (.builtin "list.append")) := by rw [typeLookup_type, builtinLookup_eq_fast]; kernel_rfl
theorem slot_md_get : Slot "method_descriptor" "__get__" "method_descriptor.__get__" :=
  .of (owner := "method_descriptor") (n := "__get__") (by rw [typeLookup_type, builtinLookup_eq_fast]; kernel_rfl) (by decide +kernel) (by decide +kernel) (by decide +kernel)
    (by first | exact .inl (by decide +kernel) | exact .inr (by decide +kernel)) (by rw [isSubtype_type]; kernel_rfl)
theorem md_no_set : typeLookup (.type "method_descriptor") (Str.ofString "__set__") = pure none := by rw [typeLookup_type, builtinLookup_eq_fast]; kernel_rfl
theorem md_no_del : typeLookup (.type "method_descriptor") (Str.ofString "__delete__") = pure none := by rw [typeLookup_type, builtinLookup_eq_fast]; kernel_rfl
theorem entry_md_get : entryFor table "method_descriptor.__get__" = some Builtin.«method_descriptor.__get__» := entryFor_of_tree (by kernel_rfl)
theorem args_md_get (a b c : Value) : argsOk "method_descriptor.__get__" ⟨[a, b, c], []⟩ := by unfold argsOk; kernel_rfl
theorem told_append : Manifest.toldItsClass.contains "list.append" = false := by decide +kernel
theorem owner_append : (".".intercalate ("list.append".cutAt '.').dropLast) = "list" := by
  have e0 : "list.append".cutAt '.' = ["list", "append"] := by first | rfl | decide +kernel
  rw [e0]; decide +kernel
theorem sub_append_owner : isSubtype (.type "list") (.type (".".intercalate ("list.append".cutAt '.').dropLast)) = pure true := by
  rw [owner_append, isSubtype_type]; kernel_rfl
section
variable {prog : Program} {w : World} {A : Around} {E : Value → Shared → Prop} {h : Heap} {g : Array GenState} {d : Drawn} {t : Nat} {os : OsState} {a : Addr} {xs : Array Value} {k : Nat}
theorem append_get {R : Result → Shared → Prop} (hx : h.get? a = some (listOf xs k)) (hq : R (.ok (.ret (.ref h.objs.size))) ⟨h.push (bmO a), g, d, t, os⟩) :
    codeAny (model prog w) A (.call (.builtin "method_descriptor.__get__") ⟨[.builtin "list.append", .ref a, .type "list"], []⟩) R ⟨h, g, d, t, os⟩ := by
  have hT : (⟨h, g, d, t, os⟩ : Shared).TypeIs (.ref a) "list" := ⟨_, hx, rfl⟩
  have hT5 : (⟨h, g, d, t, os⟩ : Shared).TypeIs (.builtin "list.append") "method_descriptor" := ty_append
  have f8 := sub_append_owner
  have f9 := told_append
  refine codeAny_call_builtin slot_md_get.plain entry_md_get (slot_md_get.check _ _ _ _ _ _ _ _ hT5 (args_md_get _ _ _) ?_)
  repeat (any_goals (first | assumption | wp_step))

theorem append_entry {tk : Tok} {Q : PySem.Fin → Shared → Prop} (hx : h.get? a = some (listOf xs k)) (hq : Q (.done (.ret (.ref h.objs.size))) ⟨h.push (bmO a), g, d, t, os⟩) :
    wpAny (model prog w) A (Builtin.«object.__getattribute__» ⟨[.ref a, .str (Str.ofString "append") tk], []⟩) Q E ⟨h, g, d, t, os⟩ := by
  have hT : (⟨h, g, d, t, os⟩ : Shared).TypeIs (.ref a) "list" := ⟨_, hx, rfl⟩
  have hT5 : (⟨h, g, d, t, os⟩ : Shared).TypeIs (.builtin "list.append") "method_descriptor" := ty_append
  have f4 := lk_append
  have f5 := ty_append
  have f6 := slot_md_get.lookup
  have f7 := md_no_set
  have f8 := md_no_del
  have f9 : (["__module__", "__name__", "__qualname__", "__doc__", "__annotations__"] : List Str).contains (Str.ofString "append") = false := by decide +kernel
  unfold Builtin.«object.__getattribute__»
  repeat (any_goals (first | assumption | wp_step))
  refine append_get hx ?_
  repeat (any_goals (first | assumption | wp_step))
theorem append_call {tk : Tok} {R : Result → Shared → Prop} (hx : h.get? a = some (listOf xs k)) (hq : R (.ok (.ret (.ref h.objs.size))) ⟨h.push (bmO a), g, d, t, os⟩) :
    codeAny (model prog w) A (.call (.builtin "list.__getattribute__") ⟨[.ref a, .str (Str.ofString "append") tk], []⟩) R ⟨h, g, d, t, os⟩ :=
  codeAny_call_builtin F.slot_list_getattribute.plain am_entry_list_getattribute (F.slot_list_getattribute.check _ _ _ _ _ _ _ _ (show (⟨h, g, d, t, os⟩ : Shared).TypeIs (.ref a) "list" from ⟨_, hx, rfl⟩) (F.args_list_getattribute_2 _ _) (append_entry hx hq))
theorem get_append {Q : Value → Shared → Prop} (hx : h.get? a = some (listOf xs k)) (hq : ∀ t', Q (.ref h.objs.size) ⟨h.push (bmO a), g, d, t', os⟩) : wpAny (model prog w) A (getAttr (.ref a) (Str.ofString "append") true) Q E ⟨h, g, d, t, os⟩ := by
  have hT : (⟨h, g, d, t, os⟩ : Shared).TypeIs (.ref a) "list" := ⟨_, hx, rfl⟩
  have f2 := F.slot_list_getattribute.lookup
  have f3 := F.slot_list_getattribute.bind (.ref a)
  unfold getAttr getAttrBy
  repeat (any_goals (first | assumption | wp_step))
  refine append_call hx ?_
  exact wpAny_pure (hq _)
end
section
variable {prog : Program} {w : World} {M : Model} {A : Around} {E : Value → Shared → Prop} {s : Shared} {h₀ : Heap} {L : Addr} {m : Str → Option Value} {news : Led}
noncomputable def BmAt (q : Addr) (h : Heap) : Prop := ∃ D, h.get? q = some (bmO D)
theorem BmAt.of {q D : Addr} {h : Heap} (N : News h₀ L h news) (hm : (q, bmO D) ∈ news) : BmAt q h := ⟨D, (N _ hm).1⟩
theorem keeps_B {q : Addr} (h : Heap) (X : BmAt q h) : ∃ k, (k = Keeper.frame ∨ k = Keeper.machine ∨ k = Keeper.boundFrame) ∧ Looks M h (keeperOf (.ref q)) k :=
  let ⟨_, e⟩ := X; ⟨.machine, .inr (.inl rfl), (Looks.ld (part := none) e).andThen .now⟩
theorem callWith_B {env : Env} {pos : Pos} {q : Addr} {e : Expr} {rest : List Expr} {first : List Value} {Q : Value → Shared → Prop} (h : wpAny M A (spliced (backTo pos (starEach (e :: rest) env))) (fun vs s₁ => BmAt q s₁.heap ∧ wpAny M A (call (.ref q) (first ++ vs)) Q E s₁) E s)
    (he : starEach (e :: rest) env = (false, eval e env) :: starEach rest env := by rfl) (hplain : (backTo pos (starEach rest env)).any (·.1) = false := by rfl) :
    wpAny M A (callWith pos (.ref q) first (backTo pos (starEach (e :: rest) env)) []) Q E s := by
  rw [he] at h ⊢
  exact callWith_of (by show ((false || (backTo pos (starEach rest env)).any (·.1)) || false) = false; rw [hplain]; rfl) keeps_B (evalArgs_plain h)
theorem kind_append : builtinKind "list.append" = some .method := by kernel_rfl
theorem var_append : Manifest.varargsMethods.contains "list.append" = false := by decide +kernel
theorem sig_append : ∃ sig, Manifest.signature? "list.append" = some sig ∧ ∀ a b, Bind.checkArgs "list.append" { sig with full := s!"{Bind.lastOf "list"}.{Bind.lastOf "list.append"}" } ⟨[a, b], []⟩ = pure () := by
  rw [signature?_of (id := "list.append") (n := ['d', 'n', 'e', 'p', 'p', 'a']) (o := ['t', 's', 'i', 'l']) (by kernel_rfl) F.owner_list]
  refine ⟨_, rfl, fun a b => ?_⟩
  kernel_rfl
theorem list_not_module : isSubtype (.type "list") (.type "module") = pure false := by rw [isSubtype_type]; kernel_rfl
theorem check_append {D : Addr} {x : Value} {xs : Array Value} {n : Nat} {Q : Unit → Shared → Prop} (hD : s.heap.get? D = some (listOf xs n)) (h : Q () s) : wpAny (model prog w) A (checkBoundCall "list.append" ⟨[.ref D, x], []⟩) Q E s := by
  obtain ⟨sig, h1, h2⟩ := sig_append
  have hT : s.TypeIs (.ref D) "list" := ⟨_, hD, rfl⟩
  unfold checkBoundCall
  simp only [h1, kind_append]
  rw [if_neg (by decide)]
  refine wpAny_bind (wpAny_isInstance hT list_not_module ?_)
  rw [if_neg (by rw [var_append]; decide)]
  have f1 := h2 (.ref D) x
  repeat (any_goals (first | assumption | wp_step))
theorem call_B {q D : Addr} {x : Value} {xs : Array Value} {n : Nat} {Q : Value → Shared → Prop} (hb : s.heap.get? q = some (bmO D)) (hD : s.heap.get? D = some (listOf xs n)) (hsz : xs.size ≤ 1048576)
    (h : ∀ h', Heap.SameBut D s.heap h' → h'.get? D = some (listOf (xs.push x) (n + 1)) → Q .none { s with heap := h' }) :
    wpAny (model prog w) A (call (.ref q) [x]) Q E s := by
  refine wpAny_call (codeAny_of_tree ?_)
  show wpAny _ _ (callAny (.ref q) ⟨[x], []⟩) _ _ _
  simp only [callAny]
  refine wpAny_bind (wpAny_load hb ?_)
  show wpAny _ _ (checkBoundCall "list.append" ⟨[.ref D, x], []⟩ >>= _) _ _ _
  refine wpAny_bind (check_append hD ?_)
  refine wpAny_pure ⟨plainId_quiet (by decide +kernel) _, codeAny_builtin F.entry_list_append ?_⟩
  rw [Around.under_plainId (by decide +kernel)]
  show wpAny _ _ (updateSeq D (·.push x) >>= fun _ => ret .none) _ _ s
  refine wpAny_bind ?_
  refine wpAny_updateSeq hD rfl (wpAny_pure (h _ (Heap.SameBut.update ..) ?_)) (by rw [sizeLine_eq]; omega)
  rw [Heap.get?_update_self _ hD (by rw [mapSeq_push]; rfl), mapSeq_push]
theorem attr_append {D : Addr} {xs : Array Value} {k : Nat} {Q : Value → Shared → Prop} (F : Fr h₀ L s.heap m) (N : News h₀ L s.heap ((D, listOf xs k) :: news))
    (h : ∀ M h' tk, Fr h₀ L h' m → News h₀ L h' ((M, bmO D) :: (D, listOf xs k) :: news) → D ≠ M → (∀ p ∈ news, p.1 ≠ M) → Q (.ref M) { s with heap := h', toks := tk }) : wpAny (model prog w) A (getAttr (.ref D) (Str.ofString "append") true) Q E s :=
  get_append (N _ (.head _)).1 fun _ => h _ _ _ (F.push _) (N.push F _) (Nat.ne_of_lt (Heap.lt_size (N _ (.head _)).1)) fun p hp => Nat.ne_of_lt (Heap.lt_size (N p (.tail _ hp)).1)
theorem call_bm {D M : Addr} {xs : Array Value} {n : Nat} {x : Value} {post : Led} {Q : Value → Shared → Prop} (F : Fr h₀ L s.heap m) (N : News h₀ L s.heap ((M, bmO D) :: (D, listOf xs n) :: post)) (h2 : ∀ p ∈ post, p.1 ≠ D) (hsz : xs.size ≤ 1048576)
    (h : ∀ h', Fr h₀ L h' m → News h₀ L h' ((M, bmO D) :: (D, listOf (xs.push x) (n + 1)) :: post) → Q .none { s with heap := h' }) : wpAny (model prog w) A (call (.ref M) [x]) Q E s := by
  have z := N (D, listOf xs n) (.tail _ (.head _))
  have b := N (M, bmO D) (.head _)
  have hne : M ≠ D := fun e => by
    have := b.1
    rw [show (M, bmO D).1 = (D, listOf xs n).1 from e, z.1] at this
    have := congrArg Obj.cls (Option.some.inj this)
    exact absurd (show Value.type "list" = Value.type "builtin_function_or_method" from this) (by decide)
  refine call_B b.1 z.1 hsz fun h' hs ho' => h h' (F.change hs z.2.1 z.2.2) (news_set (pre := [(M, bmO D)]) N (fun p hp => by rw [List.mem_singleton.mp hp]; exact hne) h2 hs ho')
end
end Mine
end
section
open PySem PySem.W PyProof.Rows PySem.Calls PySem.Spec
set_option maxRecDepth 100000
namespace Mine
section
variable {prog : Program} {w : World} {A : Around} {E : Value → Shared → Prop} {s : Shared} {Q : Value → Shared → Prop} {x y : Str} {t u : Tok} {a b : List Nat}
theorem eqS {r : Bool} (hr : (x == y) = r) (h : Q (.bool r) s) : wpAny (model prog w) A (compareOp .Eq (.str x t) (.str y u)) Q E s := PyProof.Rows.eq_str (by rw [hr]; exact h)
theorem neS {r : Bool} (hr : (x != y) = r) (h : Q (.bool r) s) : wpAny (model prog w) A (compareOp .NotEq (.str x t) (.str y u)) Q E s := PyProof.Rows.ne_str (by rw [hr]; exact h)
theorem notInS {r : Bool} (hr : (!(!(Builtin.Str.occurrences x y 0 x.length 1).isEmpty)) = r) (h : Q (.bool r) s) : wpAny (model prog w) A (compareOp .NotIn (.str y u) (.str x t)) Q E s := PyProof.Rows.notIn_str (by rw [hr]; exact h)
theorem sgn_ne {ls : List Nat} {c d : Nat} {y : Str} (hc : c ∈ ls) (hy : y = S [d]) (hd : d ∉ ls) : (S [c] == y) = false := by
  subst hy
  rw [beq_eq_false_iff_ne]
  intro e
  have := S_inj e
  simp only [List.cons.injEq, and_true] at this
  exact hd (this ▸ hc)
theorem sgn_ne' {ls : List Nat} {c d : Nat} {y : Str} (hc : c ∈ ls) (hy : y = S [d]) (hd : d ∉ ls) : (S [c] != y) = true := by
  rw [bne, sgn_ne hc hy hd]; rfl
theorem lit_star : Str.ofString "*" = S [42] := by decide +kernel
theorem lit_open : Str.ofString "[" = S [91] := by decide +kernel
theorem lit_ex : Str.ofString "!" = S [33] := by decide +kernel
theorem lit_min : Str.ofString "-" = S [45] := by decide +kernel
theorem lit_hat : Str.ofString "^" = S [94] := by decide +kernel
theorem lit_bs : Str.ofString "\\" = S [92] := by decide +kernel
theorem lit_bs2 : Str.ofString "\\\\" = S [92, 92] := by decide +kernel
theorem lit_bm : Str.ofString "\\-" = S [92, 45] := by decide +kernel
theorem lit_dot : Str.ofString "." = S [46] := by decide +kernel
theorem plain_re : PlainAttrs "re.Pattern" where
  ga := by first | exact ⟨"re.Pattern.__getattribute__", by rw [typeLookup_type, builtinLookup_eq_fast]; kernel_rfl, by decide +kernel⟩ | exact ⟨"object.__getattribute__", by rw [typeLookup_type, builtinLookup_eq_fast]; kernel_rfl, by decide +kernel⟩
  noGetattr := by rw [typeLookup_type, builtinLookup_eq_fast]; kernel_rfl
theorem gm_sub {P : Addr} {pl : Sem Bool} {Q : Value × List Value → Shared → Prop} (hP : ∃ o, s.heap.get? P = some o ∧ o.cls = .type "re.Pattern" ∧ o.dict = none) (h : Q (.builtin "re.Pattern.sub", [.ref P]) s) : wpAny (model prog w) A (getMethod (.ref P) (Str.ofString "sub") pl) Q E s := by
  obtain ⟨o, h1, h2, h3⟩ := hP
  exact getMethod_builtin (T := "re.Pattern") ⟨o, h1, h2⟩ plain_re slot_sub type_sub (fun a e => by cases e; exact ⟨o, h1, h3⟩) h
/-- what lies at a place counted from another -/
noncomputable def AtOff (l : List Nat) (i k c : Nat) : Prop := l[i + k]? = some c
theorem AtOff.go {l : List Nat} {i k c : Nat} (h : AtOff l i k c) {z : Int} (e : z = (i : Int) + (k : Int)) : l[z.toNat]? = some c := by
  have : z.toNat = i + k := by omega
  rw [this]; exact h
theorem lenS (hx : x = S a) (hb : a.length ≤ 1048576) (h : Q (.int (a.length : Int) (s.toks + 1)) { s with toks := s.toks + 1 + 1 }) : wpAny (model prog w) A (call (.builtin "len") [.str x t]) Q E s := by
  subst hx
  refine SBL.len (by rw [S_length]; omega) ?_
  rw [S_length]; exact h
theorem truthyS {Q : Bool → Shared → Prop} (hx : x = S a) (hb : a.length ≤ 1048576) (h : Q ((a.length : Int) != 0) { s with toks := s.toks + 1 + 1 }) : wpAny (model prog w) A (truthy (.str x t)) Q E s := by
  subst hx
  refine SBL.truthy (by rw [S_length]; omega) ?_
  rw [S_length]; exact h
end
end Mine
end
section
open PySem PySem.W PyProof.Rows PySem.Calls PySem.Spec
set_option maxRecDepth 100000
namespace Mine
open Builtin Builtin.Str in
theorem replace_same {prog : Program} {w : World} {A : Around} {E : Value → Shared → Prop} {s : Shared} {x y z : Str} {t u v : Tok} {Q : Value → Shared → Prop} (he : (occurrences x y 0 x.length (x.length + 1)).isEmpty = true) (h : Q (.str x t) s) : wpAny (model prog w) A (call (.builtin "str.replace") [.str x t, .str y u, .str z v]) Q E s := by
  refine call_gives F.slot_str_replace (typeIs_str _ _ _) F.entry_str_replace (F.args_str_replace_3 _ _ _) (gives_str_replace x y z t u v fun hc => ?_) ?_
  · rw [he] at hc; cases hc
  · rw [he]; exact h
open Builtin Builtin.Str in
theorem replace_to {prog : Program} {w : World} {A : Around} {E : Value → Shared → Prop} {s : Shared} {x y z r : Str} {t u v : Tok} {Q : Value → Shared → Prop} (hr : Txt.replace x y z = r) (hyz : (y == z) = false) (hu : u ≠ 0) (hv : v ≠ 0) (huv : u ≠ v) (hb : x.length + (x.length + 1) * z.length ≤ 16777216) (h : ∀ t' k, Q (.str r t') { s with toks := k }) : wpAny (model prog w) A (call (.builtin "str.replace") [.str x t, .str y u, .str z v]) Q E s :=
  SC.replace hu hv huv hyz hb fun t' k => by rw [hr]; exact h t' k
/-- a piece of a text, at a place -/
noncomputable def SlOff (l : List Nat) (i k n : Nat) (r : List Nat) : Prop := i + k + n ≤ l.length ∧ (l.drop (i + k)).take n = r
section
variable {prog : Program} {w : World} {A : Around} {E : Value → Shared → Prop} {s : Shared} {h₀ : Heap} {L : Addr} {m : Str → Option Value} {news : Led} {value slice : Expr} {l r : List Nat} {t ui uj : Tok} {i k n : Nat} {zi zj : Int} {Q : Value → Shared → Prop}
theorem slice_off (F : Fr h₀ L s.heap m) (N : News h₀ L s.heap news) (hs : SlOff l i k n r) (ei : zi = (i : Int) + (k : Int)) (ej : zj = (i : Int) + ((k + n : Nat) : Int)) (hb : l.length ≤ 1048576) (h : ∀ h' t' k, Fr h₀ L h' m → News h₀ L h' news → Q (.str (S r) t') { s with heap := h', toks := k })
    (hs' : subscripted slice false (.str (S l) t) (.ref s.heap.objs.size) = operate [.ref s.heap.objs.size, .str (S l) t] (getItem (.str (S l) t) (.ref s.heap.objs.size)) := by with_unfolding_all rfl)
    (ht : ∀ r, letTemporaryGo value (.str (S l) t) r = pure () := by intro _; with_unfolding_all rfl) :
    wpAny (model prog w) A (subscriptTail value slice (.str (S l) t) (.ref s.heap.objs.size)) Q E { s with heap := s.heap.push { cls := .type "slice", data := .fields #[.int zi ui, .int zj uj, .none] } } := by
  have e1 : zi = ((i + k : Nat) : Int) := by omega
  have e2 : zj = ((i + k + n : Nat) : Int) := by omega
  subst e1 e2
  refine slice_strN_ss F N (fun h' t' k9 F' N' => ?_) hs' ht (by rw [S_length, sizeLine_eq]; omega)
  rw [slice_S (by omega) hs.1, show i + k + n - (i + k) = n by omega, hs.2]
  exact h h' t' k9 F' N'
theorem slice_to (F : Fr h₀ L s.heap m) (N : News h₀ L s.heap news) (hn : n ≤ l.length) (ej : zj = (n : Int)) (hb : l.length ≤ 1048576) (h : ∀ h' t' k, Fr h₀ L h' m → News h₀ L h' news → Q (.str (S (l.take n)) t') { s with heap := h', toks := k })
    (hs' : subscripted slice false (.str (S l) t) (.ref s.heap.objs.size) = operate [.ref s.heap.objs.size, .str (S l) t] (getItem (.str (S l) t) (.ref s.heap.objs.size)) := by with_unfolding_all rfl)
    (ht : ∀ r, letTemporaryGo value (.str (S l) t) r = pure () := by intro _; with_unfolding_all rfl) :
    wpAny (model prog w) A (subscriptTail value slice (.str (S l) t) (.ref s.heap.objs.size)) Q E { s with heap := s.heap.push { cls := .type "slice", data := .fields #[.none, .int zj uj, .none] } } := by
  subst ej
  refine slice_strN_ns F N (fun h' t' k9 F' N' => ?_) hs' ht (by rw [S_length, sizeLine_eq]; omega)
  rw [slice_S_to hn]
  exact h h' t' k9 F' N'
theorem slice_from (F : Fr h₀ L s.heap m) (N : News h₀ L s.heap news) (hn : n ≤ l.length) (ej : zi = (n : Int)) (hb : l.length ≤ 1048576) (h : ∀ h' t' k, Fr h₀ L h' m → News h₀ L h' news → Q (.str (S (l.drop n)) t') { s with heap := h', toks := k })
    (hs' : subscripted slice false (.str (S l) t) (.ref s.heap.objs.size) = operate [.ref s.heap.objs.size, .str (S l) t] (getItem (.str (S l) t) (.ref s.heap.objs.size)) := by with_unfolding_all rfl)
    (ht : ∀ r, letTemporaryGo value (.str (S l) t) r = pure () := by intro _; with_unfolding_all rfl) :
    wpAny (model prog w) A (subscriptTail value slice (.str (S l) t) (.ref s.heap.objs.size)) Q E { s with heap := s.heap.push { cls := .type "slice", data := .fields #[.int zi ui, .none, .none] } } := by
  subst ej
  refine slice_strN_sn F N (fun h' t' k9 F' N' => ?_) hs' ht (by rw [S_length, sizeLine_eq]; omega)
  rw [slice_S_from hn]
  exact h h' t' k9 F' N'
end
open Builtin Builtin.Str in
theorem gives_find4 (x y : Str) (i j : Int) (t u v v' : Tok) : Gives («str.find» ⟨[.str x t, .str y u, .int i v, .int j v'], []⟩) (.int (match occurrences x y (fromIndex x.length i) (min (fromIndex x.length j) x.length) 1 with | k :: _ => (k : Int) | [] => -1)) := by
  show Gives (match occurrences x y (fromIndex x.length i) (min (fromIndex x.length j) x.length) 1 with | k :: _ => retInt k | [] => (do rule "str.find.not-found"; retInt (-1))) _
  cases occurrences x y (fromIndex x.length i) (min (fromIndex x.length j) x.length) 1 with
  | nil => exact .rule (.of_eq rfl)
  | cons k _ => exact .of_eq rfl
open Builtin Builtin.Str in
theorem occ_empty (x y : Str) (n : Nat) (hy : 0 < y.length) : occurrences x y n n 1 = [] := by
  rw [StrLaws.occ_eq]
  have e : List.range' n (n + 1 - n) = [n] := by rw [show n + 1 - n = 1 by omega]; rfl
  rw [e, List.forIn_cons]
  unfold StrLaws.occBody
  rw [if_neg (by simp; omega)]
  rfl
theorem find4_none {prog : Program} {w : World} {A : Around} {E : Value → Shared → Prop} {s : Shared} {x y : Str} {t u v v' : Tok} {i j : Int} {Q : Value → Shared → Prop} (hij : i = j) (h0 : 0 ≤ i) (h1 : i ≤ x.length) (hy : 0 < y.length) (h : Q (.int (-1) s.toks) { s with toks := s.toks + 1 }) : wpAny (model prog w) A (call (.builtin "str.find") [.str x t, .str y u, .int i v, .int j v']) Q E s := by
  subst hij
  refine call_gives F.slot_str_find (typeIs_str _ _ _) F.entry_str_find (F.args_str_find_4 _ _ _ _) (gives_find4 x y i i t u v v') ?_
  have e : fromIndex x.length i = i.toNat := by unfold fromIndex; rw [if_neg (by omega)]; omega
  rw [e, show min i.toNat x.length = i.toNat by omega, occ_empty x y _ hy]
  exact h
theorem slOff_mid {l pre x post r : List Nat} {i k n : Nat} (h : l = pre ++ (x ++ post)) (hi : pre.length = i) (hk : k + n ≤ x.length) (hr : (x.drop k).take n = r) : SlOff l i k n r := by
  subst h hi hr
  refine ⟨by simp; omega, ?_⟩
  rw [← List.drop_drop, List.drop_left, List.drop_append_of_le_length (by omega), List.take_append_of_le_length (by simp; omega)]
end Mine
end
section
open PySem PySem.W PyProof.Rows PySem.Calls PySem.Spec
set_option maxRecDepth 100000
set_option maxHeartbeats 2000000
namespace Mine
/-- a code's table of lambdas, as far as it is needed -/
noncomputable def TabFine (ps : Array Value) : Prop := TriplesOk ps.toList ∧ ∀ pos v, codeAmong pos ps.toList = some v → ∃ c, v = .ref c
theorem updF_at {P : Addr} {o : Obj} : ∀ {pre post : Led}, (∀ p ∈ pre, p.1 ≠ P) → (∀ p ∈ post, p.1 ≠ P) → UpdF P o (pre ++ (P, o) :: post) (fun o' => pre ++ (P, o') :: post)
  | [], _, _, h2 => .head h2
  | _ :: _, _, h1, h2 => .tail (h1 _ (.head _)) (updF_at (fun p hp => h1 p (.tail _ hp)) h2)
theorem among_app {pos pos' : Pos} {c : Value} (l : List Value) (h : TriplesOk l) : codeAmong pos (l ++ [rawInt pos'.line, rawInt pos'.col, c]) = codeAmong pos l ∨ codeAmong pos (l ++ [rawInt pos'.line, rawInt pos'.col, c]) = some c ∨ codeAmong pos (l ++ [rawInt pos'.line, rawInt pos'.col, c]) = none := by
  fun_induction TriplesOk l with
  | case1 =>
    simp only [List.nil_append, rawInt, codeAmong]
    split <;> simp
  | case2 a t b u x rest ih =>
    simp only [List.cons_append, codeAmong]
    split
    · exact .inl rfl
    · exact ih h
  | case3 => exact h.elim
theorem TabFine.snoc {ps : Array Value} {pos : Pos} {c : Addr} (h : TabFine ps) : TabFine (ps ++ #[rawInt pos.line, rawInt pos.col, .ref c]) := by
  refine ⟨by rw [Array.toList_append]; exact TriplesOk_snoc _ _ _ _ h.1, fun pos' v e => ?_⟩
  rw [Array.toList_append] at e
  rcases among_app (pos := pos') (pos' := pos) (c := .ref c) ps.toList h.1 with q | q | q
  · exact h.2 pos' v (q ▸ e)
  · rw [q] at e; cases e; exact ⟨c, rfl⟩
  · rw [q] at e; cases e
section
variable {M : Model} {A : Around} {E : Value → Shared → Prop} {s : Shared} {h₀ : Heap} {L a c P : Addr} {m mg mb : Str → Option Value} {cn : Str} {cs : Scope} {ccd : Value} {cl : List (Str × Addr)}
  {p : Program} {loose : List Str} {mean : ExcName → Option Value} {params : Arguments} {body : Expr} {scope : Scope} {ps : Array Value} {pos : Pos} {clos : List (Str × Addr)}
/-- a lambda whose code is of no further use -/
theorem lam_any {pre post : Led} {Q : Value → Shared → Prop} (F : Fr h₀ L s.heap m) (N : News h₀ L s.heap (pre ++ (P, tabObj ps) :: post)) (T : Top p loose mean mg mb h₀) (C : CodeHd h₀ c P) (hcd : ccd = .ref c) (h1 : ∀ p ∈ pre, p.1 ≠ P) (h2 : ∀ p ∈ post, p.1 ≠ P) (ht : TabFine ps)
    (hdef : defaultsOf params (envX cn cs L a ccd cl) = ([], [])) (hcl : closureFor scope (envX cn cs L a ccd cl) = pure clos)
    (h : ∀ f o ps' h' tk, o.cls = .type "function" → TabFine ps' → Fr h₀ L h' m → News h₀ L h' ((f, o) :: (pre ++ (P, tabObj ps') :: post)) → Q (.ref f) { s with heap := h', toks := tk }) :
    wpAny M A (eval (.Lambda params body scope pos) (envX cn cs L a ccd cl)) Q E s := by
  refine kla_eval hdef ?_
  cases hx : codeAmong pos ps.toList with
  | none =>
    refine kla_nest F N T C hcd (updF_at h1 h2) ht.1 hx hcl fun f c' oc vs t ctv h' tk F' N' _ _ _ _ => ?_
    exact h f _ _ h' tk rfl ht.snoc F' fun q hq => by
      rcases List.mem_cons.mp hq with rfl | hq
      · exact N' _ (.head _)
      · exact N' q (.tail _ (.tail _ hq))
  | some v =>
    obtain ⟨c', rfl⟩ := ht.2 pos v hx
    exact kla_hit F N T C hcd (List.mem_append_right _ (.head _)) ht.1 hx hcl fun f ctv h' tk F' N' _ => h f _ ps h' tk rfl ht F' N'
end
end Mine
end
section
open PySem PySem.W PyProof.Rows PySem.Calls PySem.Spec
set_option maxRecDepth 100000
namespace Mine
section
variable {prog : Program} {w : World} {A : Around} {E : Value → Shared → Prop} {s : Shared} {h₀ : Heap} {L I : Addr} {m : Str → Option Value} {news : Led}
noncomputable abbrev ranC (x left c : Int) : Obj := { cls := .type "range_iterator", data := .fields #[rawInt x, rawInt left, rawInt c] }
theorem iter_ranC {a : Addr} {x y c : Int} {t u v : Tok} {Q : Value → Shared → Prop} (F : Fr h₀ L s.heap m) (N : News h₀ L s.heap news) (ha : IsRange s.heap a x y c t u v) (hsm : Builtin.Range.small x y c = true)
    (h : ∀ I h', Fr h₀ L h' m → News h₀ L h' ((I, ranC x (Builtin.Range.rangeSize x y c) c) :: news) → (∀ p ∈ news, p.1 ≠ I) → Q (.ref I) { s with heap := h' }) : wpAny (model prog w) A (pyIter (.ref a)) Q E s :=
  wpAny_pyIter_range ha hsm (h _ _ (F.push _) (N.push F _) fun _ hp => Nat.ne_of_lt (Heap.lt_size (N _ hp).1))
theorem next_ranC_end {x left c : Int} {Q : Option Value → Shared → Prop} (hh : A.handled = none) (F : Fr h₀ L s.heap m) (N : News h₀ L s.heap ((I, ranC x left c) :: news)) (hne : ∀ p ∈ news, p.1 ≠ I) (hl : left ≤ 0)
    (h : ∀ h', Fr h₀ L h' m → News h₀ L h' news → Q none { s with heap := h' }) : wpAny (model prog w) A (pyNext (.ref I)) Q E s :=
  wpAny_pyNext_range_end hh (N _ (.head _)).1 hl fun h' hk => (head_drop F N hne hk).elim (h h')
end
end Mine
end
section
open PySem PySem.W PyProof.Rows PySem.Calls PySem.Spec
set_option maxRecDepth 100000
namespace Mine
/-- a turn's end, where a generator may have run -/
noncomputable def AfterG (J : Heap → Prop) (s₀ : Shared) (R : Result → Shared → Prop) (f : Flow) (s : Shared) : Prop := match f with
  | .next => ∃ h gs dr tk, s = { heap := h, gens := gs, drawn := dr, toks := tk, os := s₀.os } ∧ AllBare gs ∧ J h
  | .cont => ∃ h gs dr tk, s = { heap := h, gens := gs, drawn := dr, toks := tk, os := s₀.os } ∧ AllBare gs ∧ J h
  | .brk => R (.ok .next) s
  | .ret v => R (.ok (.ret v)) s
theorem AfterG.next {J : Heap → Prop} {s₀ : Shared} {R : Result → Shared → Prop} {h : Heap} {gs : Array GenState} {dr : Drawn} {tk : Nat} (g : AllBare gs) (j : J h) : AfterG J s₀ R .next { heap := h, gens := gs, drawn := dr, toks := tk, os := s₀.os } := ⟨h, gs, dr, tk, rfl, g, j⟩
theorem AfterG.cont {J : Heap → Prop} {s₀ : Shared} {R : Result → Shared → Prop} {h : Heap} {gs : Array GenState} {dr : Drawn} {tk : Nat} (g : AllBare gs) (j : J h) : AfterG J s₀ R .cont { heap := h, gens := gs, drawn := dr, toks := tk, os := s₀.os } := ⟨h, gs, dr, tk, rfl, g, j⟩
section
variable {prog : Program} {w : World} {A : Around} {env : Env} {R : Result → Shared → Prop} {s : Shared}
theorem for_indG {α : Type} {target : Expr} {it : Value} {body orelse : List Stmt} (J : List α → Heap → Prop) (l : List α) (hg : AllBare s.gens) (h0 : J l s.heap)
    (turn : ∀ a r h gs dr tk, AllBare gs → J (a :: r) h → wpAny (model prog w) A (pyNext it) (fun res s₁ => match res with
      | none => False
      | some v => wpAny (model prog w) A (letOwnedTupleGo target it v) (fun _ s₁' => wpAny (model prog w) A (assign target env v) (fun _ s₂ => wpAny (model prog w) A (execs body env) (AfterG (J r) s R) NoE s₂) NoE s₁') NoE s₁) NoE { heap := h, gens := gs, drawn := dr, toks := tk, os := s.os })
    (done : ∀ h gs dr tk, AllBare gs → J [] h → wpAny (model prog w) A (pyNext it) (fun res s₁ => res = none ∧ wpAny (model prog w) A (execs orelse env) (fun f s₃ => R (.ok f) s₃) NoE s₁) NoE { heap := h, gens := gs, drawn := dr, toks := tk, os := s.os }) :
    codeAny (model prog w) A (.forLoop target it body orelse env) R s := by
  suffices H : ∀ (l : List α) (h : Heap) (gs : Array GenState) (dr : Drawn) (tk : Nat), AllBare gs → J l h → codeAny (model prog w) A (.forLoop target it body orelse env) R { heap := h, gens := gs, drawn := dr, toks := tk, os := s.os } from H l s.heap s.gens s.drawn s.toks hg h0
  intro l
  induction l with
  | nil =>
    intro h gs dr tk g j
    refine for_step (wpAny_mono (done h gs dr tk g j) (fun res s₁ e => ?_) fun _ _ e => e)
    obtain ⟨rfl, e⟩ := e
    exact e
  | cons a r ih =>
    intro h gs dr tk g j
    refine for_step (wpAny_mono (turn a r h gs dr tk g j) (fun res s₁ e => ?_) fun _ _ e => e)
    cases res with
    | none => exact e.elim
    | some v =>
      refine wpAny_mono e (fun _ _ e => wpAny_mono e (fun _ _ e => wpAny_mono e (fun f s₃ e => ?_) fun _ _ e => e) fun _ _ e => e) fun _ _ e => e
      cases f with
      | next => obtain ⟨h', gs', dr', tk', rfl, g', j'⟩ := e; exact ih h' gs' dr' tk' g' j'
      | cont => obtain ⟨h', gs', dr', tk', rfl, g', j'⟩ := e; exact ih h' gs' dr' tk' g' j'
      | brk => exact e
      | ret v => exact e
theorem for_indNG {α : Type} {x : Str} {px : Pos} {it : Value} {body orelse : List Stmt} (J : List α → Heap → Prop) (l : List α) (hg : AllBare s.gens) (h0 : J l s.heap)
    (turn : ∀ a r h gs dr tk, AllBare gs → J (a :: r) h → wpAny (model prog w) A (pyNext it) (fun res s₁ => match res with
      | none => False
      | some v => wpAny (model prog w) A (assign (.Name x px) env v) (fun _ s₂ => wpAny (model prog w) A (execs body env) (AfterG (J r) s R) NoE s₂) NoE s₁) NoE { heap := h, gens := gs, drawn := dr, toks := tk, os := s.os })
    (done : ∀ h gs dr tk, AllBare gs → J [] h → wpAny (model prog w) A (pyNext it) (fun res s₁ => res = none ∧ wpAny (model prog w) A (execs orelse env) (fun f s₃ => R (.ok f) s₃) NoE s₁) NoE { heap := h, gens := gs, drawn := dr, toks := tk, os := s.os }) :
    codeAny (model prog w) A (.forLoop (.Name x px) it body orelse env) R s := by
  refine for_indG J l hg h0 (fun a r h gs dr tk g j => wpAny_mono (turn a r h gs dr tk g j) (fun res s₁ e => ?_) fun _ _ e => e) done
  cases res with
  | none => exact e
  | some v => exact wpAny_pure e
theorem while_indG {test : Expr} {body orelse : List Stmt} (J : Nat → Heap → Prop) (n : Nat) (hg : AllBare s.gens) (h0 : J n s.heap)
    (turn : ∀ n h gs dr tk, AllBare gs → J n h → wpAny (model prog w) A (isTrue test env (eval test env)) (fun b s₂ =>
        if b then wpAny (model prog w) A (execs body env) (AfterG (fun h => ∃ m, m < n ∧ J m h) s R) NoE s₂
        else wpAny (model prog w) A (execs orelse env) (fun f s₃ => R (.ok f) s₃) NoE s₂) NoE { heap := h, gens := gs, drawn := dr, toks := tk, os := s.os }) :
    codeAny (model prog w) A (.whileLoop test body orelse env) R s := by
  suffices H : ∀ (n : Nat) (h : Heap) (gs : Array GenState) (dr : Drawn) (tk : Nat), AllBare gs → J n h → codeAny (model prog w) A (.whileLoop test body orelse env) R { heap := h, gens := gs, drawn := dr, toks := tk, os := s.os } from H n s.heap s.gens s.drawn s.toks hg h0
  intro n
  induction n using Nat.strongRecOn with
  | ind n ih =>
    intro h gs dr tk g j
    refine while_step (wpAny_mono (turn n h gs dr tk g j) (fun b s₂ e => ?_) fun _ _ e => e)
    cases b with
    | false => exact e
    | true =>
      refine wpAny_mono e (fun f s₃ e => ?_) fun _ _ e => e
      cases f with
      | next => obtain ⟨h', gs', dr', tk', rfl, g', m, hm, j'⟩ := e; exact ih m hm h' gs' dr' tk' g' j'
      | cont => obtain ⟨h', gs', dr', tk', rfl, g', m, hm, j'⟩ := e; exact ih m hm h' gs' dr' tk' g' j'
      | brk => exact e
      | ret v => exact e
end
section
variable (prog : Program) (w : World) (K : Frag) (p : Program) (loose : List Str) (mean : ExcName → Option Value) (mg mb : Str → Option Value)
/-- the call of a def in which a generator may run -/
noncomputable def DoesG (r : Nat) (f : Addr) (vs : List Value) (own₀ : Led) (rd : Led → Prop) (post : Value → Led → Prop) : Prop :=
  ∀ (dp un : Nat) (gd : Option (List Code)) (cn : Str) (cs : Scope) (a : Addr) (ccd : Value) (cl : List (Str × Addr)) (outer : List Env) (A₀ : Around) (base h₀ : Heap) (L : Addr) (m : Str → Option Value) (news : Led) (s : Shared) (Q : Value → Shared → Prop),
    Below A₀ base outer h₀ → Fr h₀ L s.heap m → K.In h₀ → News h₀ L s.heap (own₀ ++ news) → (∀ p ∈ own₀, ∀ q ∈ news, q.1 ≠ p.1) → rd news → Top p loose mean mg mb h₀ → cs.kind = .function → dp + r < recursionLimit → un + 10 * r < cLine → AllBare s.gens →
    (∀ v own h' gs' dr' tk', AllBare gs' → post v own → Fr h₀ L h' m → News h₀ L h' (own ++ news) → (∀ p ∈ own, ∀ q ∈ news, q.1 ≠ p.1) → Q v { heap := h', gens := gs', drawn := dr', toks := tk', os := s.os }) →
    wpAny (model prog w) (ktrTop dp un gd cn cs L a ccd cl outer) (call (.ref f) vs) Q NoE s
end
section
variable {prog : Program} {w : World} {K : Frag} {p : Program} {loose : List Str} {mean : ExcName → Option Value} {mg mb : Str → Option Value}
variable {dp un : Nat} {gd : Option (List Code)} {cn : Str} {cs : Scope} {a : Addr} {ccd : Value} {cl : List (Str × Addr)} {outer : List Env} {A₀ : Around} {base h₀ : Heap} {L : Addr} {m : Str → Option Value} {news : Led} {s : Shared} {Q : Value → Shared → Prop}
theorem doesG_use {r : Nat} {f : Addr} {vs : List Value} {own₀ : Led} {rd : Led → Prop} {post : Value → Led → Prop} (D : DoesG prog w K p loose mean mg mb r f vs own₀ rd post)
    (B : Below A₀ base outer h₀) (F : Fr h₀ L s.heap m) (X : K.In h₀) (N : News h₀ L s.heap (own₀ ++ news)) (ap : ∀ p ∈ own₀, ∀ q ∈ news, q.1 ≠ p.1) (hrd : rd news) (T : Top p loose mean mg mb h₀) (hk : cs.kind = .function) (hd : dp + r < recursionLimit) (hu : un + 10 * r < cLine) (hg : AllBare s.gens)
    (h : ∀ v own h' gs' dr' tk', AllBare gs' → post v own → Fr h₀ L h' m → News h₀ L h' (own ++ news) → (∀ p ∈ own, ∀ q ∈ news, q.1 ≠ p.1) → Q v { heap := h', gens := gs', drawn := dr', toks := tk', os := s.os }) :
    wpAny (model prog w) (ktrTop dp un gd cn cs L a ccd cl outer) (call (.ref f) vs) Q NoE s := D _ _ _ _ _ _ _ _ _ _ _ _ _ _ _ _ _ B F X N ap hrd T hk hd hu hg h
end
end Mine
end
section
open PySem PySem.W PyProof.Rows PySem.Calls PySem.Spec
set_option maxRecDepth 100000
set_option maxHeartbeats 2000000
namespace Mine
section
variable {prog : Program} {w : World} {A : Around} {E : Value → Shared → Prop} {s : Shared} {h₀ : Heap} {L a c P : Addr} {m mg mb : Str → Option Value} {cn : Str} {cs : Scope} {ccd : Value} {cl : List (Str × Addr)}
  {p : Program} {loose : List Str} {mean : ExcName → Option Value} {ps : Array Value} {pos : Pos} {clos : List (Str × Addr)}
/-- the code of a genexpr: the table may grow -/
theorem gcode_led {env : Env} {qn : Str} {scope : Scope} {pre post : Led} {Q : Value → Shared → Prop} (F : Fr h₀ L s.heap m) (N : News h₀ L s.heap (pre ++ (P, tabObj ps) :: post)) (C : CodeHd h₀ c P) (hcd : env.code = .ref c) (h1 : ∀ p ∈ pre, p.1 ≠ P) (h2 : ∀ p ∈ post, p.1 ≠ P) (ht : TabFine ps)
    (h : ∀ c' ps' h' tk, TabFine ps' → Fr h₀ L h' m → News h₀ L h' (pre ++ (P, tabObj ps') :: post) → Heap.ExtBut P s.heap h' → s.heap.objs.size ≤ h'.objs.size → Q (.ref c') { s with heap := h', toks := tk }) :
    wpAny (model prog w) A (genexprCode env pos qn scope) Q E s := by
  have hm := N (P, tabObj ps) (List.mem_append_right _ (.head _))
  have CH := C.keeps F.keep
  cases hx : codeAmong pos ps.toList with
  | none =>
    refine wpAny_genexprCodeX hcd (CH.code hm.1 ht.1) (CH.tab hm.1) hx fun c' h' tk hxb hge hlt _ _ htab _ => ?_
    have old : ∀ b o, h₀.get? b = some o → h'.get? b = some o := fun b o e => hxb b o (fun q => by rw [q, hm.2.2] at e; cases e) (F.keep b o e)
    refine h c' (ps ++ #[rawInt pos.line, rawInt pos.col, .ref c']) h' tk ht.snoc ⟨F.ns.extBut hxb hm.2.1.symm, old, F.above⟩ (fun q hq => ?_) hxb (Nat.le_trans hge (Nat.le_of_lt hlt))
    rcases List.mem_append.mp hq with hq | hq
    · have n := N q (List.mem_append_left _ hq)
      exact ⟨hxb _ _ (h1 q hq) n.1, n.2⟩
    · rcases List.mem_cons.mp hq with rfl | hq
      · exact ⟨htab.2, hm.2⟩
      · have n := N q (List.mem_append_right _ (.tail _ hq))
        exact ⟨hxb _ _ (h2 q hq) n.1, n.2⟩
  | some v =>
    obtain ⟨c', rfl⟩ := ht.2 pos v hx
    exact wpAny_genexprCode_hit hcd (CH.code hm.1 ht.1) hx (h c' ps s.heap s.toks ht F N (fun _ _ _ e => e) (Nat.le_refl _))
/-- a genexpr over a list -/
theorem gen_led {elt iter : Expr} {x : Str} {px : Pos} {scope : Scope} {pre post : Led} {l : Addr} {items : Array Value} {pz : Nat → Bool} {Fv : Nat → Value → Prop} {Q : Value → Shared → Prop}
    (F : Fr h₀ L s.heap m) (N : News h₀ L s.heap (pre ++ (P, tabObj ps) :: post)) (T : Top p loose mean mg mb h₀) (C : CodeHd h₀ c P) (hcd : ccd = .ref c) (h1 : ∀ p ∈ pre, p.1 ≠ P) (h2 : ∀ p ∈ post, p.1 ≠ P) (ht : TabFine ps) (G : AllBare s.gens)
    (hh : A.handled = none) (hroom : A.depth < recursionLimit) (hl : s.heap.IsList l items)
    (hev : ∀ Q', Q' (.ref l) s → wpAny (model prog w) A (eval iter (envX cn cs L a ccd cl)) Q' E s)
    (hq : ∀ (C' : Addr) (code : Value) (fp wr : List Addr) (href : Heap), QuietGen prog w (genEnv scope clos C' code builtinsNs (envX cn cs L a ccd cl)) x [] elt fp wr (fun i v => items[i]? = some v) pz Fv href)
    (h : ∀ b ps' gs h' tk, TabFine ps' → AllBare gs → Fr h₀ L h' m → News h₀ L h' (pre ++ (P, tabObj ps') :: post) →
      Gen prog w A (s.heap.objs.size - 1) b (passing pz items.size 0).length (fun j y => ∃ i, (passing pz items.size 0)[j]? = some i ∧ Fv i y) { s with heap := h', gens := gs, toks := tk } →
      (∀ q ∈ pre ++ (P, tabObj ps') :: post, q.1 ≤ s.heap.objs.size - 1) → L ≤ s.heap.objs.size - 1 → Q (.ref b) { s with heap := h', gens := gs, toks := tk })
    (hco : scope.isCoroutine = false := by rfl) (hclos : closureFor scope (envX cn cs L a ccd cl) = pure clos := by rfl) (hcell : ∀ y ∈ scope.names, y.2 ≠ .cell := by decide) (h0 : scope.names.lookup (".0" : Str) = some NameKind.local := by rfl)
    (hx : scope.names.lookup x = some .local := by rfl) (hkind : scope.kind = .function := by rfl)
    (hs : ∀ x, genFold iter (envX cn cs L a ccd cl) x = pure x := by intro _; rfl) :
    wpAny (model prog w) A (eval (.GeneratorExp elt [⟨.Name x px, iter, [], 0⟩] scope pos) (envX cn cs L a ccd cl)) Q E s := by
  have hm := N (P, tabObj ps) (List.mem_append_right _ (.head _))
  have hlt : l < s.heap.objs.size := by obtain ⟨_, e, _⟩ := hl; exact Heap.lt_size e
  have hPlt : P < s.heap.objs.size := Heap.lt_size hm.1
  have hlP : l ≠ P := fun e => by
    obtain ⟨o, ho, hc, _⟩ := hl
    rw [e, hm.1] at ho; cases ho; cases hc
  have hLs : L < s.heap.objs.size := F.ns.lt
  have hlim : s.heap.NoLimit := T.nolimit.keeps F.keep
  have hcs : cStatics < s.heap.objs.size := let ⟨_, hn, _⟩ := hlim; hn.lt
  refine wpAny_GeneratorExp_walksQ hh hco hclos hcell h0 hx hkind hroom (hev _ (wpAny_pyIter_list hl ⟨hlim.push _, ?_⟩)) hs
  have F2 := F.push { cls := .type "list_iterator", data := .fields #[.ref l, .int 0 0] }
  have N2 : News h₀ L (s.heap.push { cls := .type "list_iterator", data := .fields #[.ref l, .int 0 0] }) (pre ++ (P, tabObj ps) :: post) := News.pushKeep N _
  refine gcode_led (s := { s with heap := s.heap.push { cls := .type "list_iterator", data := .fields #[.ref l, .int 0 0] } }) F2 N2 C hcd h1 h2 ht fun c' ps' h₃ tk₃ ht' F₃ N₃ hxb hsz => ?_
  have hsz' : s.heap.objs.size + 1 ≤ h₃.objs.size := by
    have : (s.heap.push { cls := .type "list_iterator", data := .fields #[.ref l, .int 0 0] }).objs.size ≤ h₃.objs.size := hsz
    rwa [Heap.size_push] at this
  obtain ⟨bm, ob, b1, b2, b3, b4, b5, b6⟩ := T.bmain
  refine wpAny_builtinsFor (T.g.keeps F₃.keep) b1 b2 (F₃.keep _ _ b3) b4 b5 b6 ?_
  have hcP : cStatics ≠ P := fun e => by
    obtain ⟨_, hns, _⟩ := hlim
    obtain ⟨o, es, ep, ho, hd, _⟩ := hns
    rw [e, hm.1] at ho; cases ho; cases hd
  have hl₃ : h₃.NoLimit := (hlim.push _).extBut hxb hcP
  refine ⟨s.heap.objs.size, [s.heap.objs.size, l], [s.heap.objs.size], items.size, _, _, pz, Fv, rfl, fun A' hA => Walks.list hA _ _ (Nat.ne_of_lt hlt) items, ⟨?_, ?_⟩, ?_, hl₃, ?_, fun href _ => hq _ _ _ _ href, fun b h₅ tk gs hgb hag hsz₅ hk₅ W hat => ?_⟩
  · exact ⟨_, hxb _ _ (fun e => absurd hPlt (by rw [← e]; exact Nat.lt_irrefl _)) (Heap.get?_push_size _ rfl), rfl, rfl⟩
  · exact (hl.push _).at fun o e => hxb _ _ hlP e
  · intro b hb
    simp only [List.mem_cons, List.not_mem_nil, or_false] at hb
    rcases hb with rfl | rfl
    · exact hsz'
    · exact Nat.lt_of_lt_of_le hlt (Nat.le_of_succ_le hsz')
  · intro hb
    simp only [List.mem_cons, List.not_mem_nil, or_false] at hb
    exact absurd (hb ▸ hcs) (Nat.lt_irrefl _)
  · refine h b ps' _ h₅ tk ht' (G.push hgb) (fr_keeps F₃ hk₅) (news_keeps N₃ hk₅) ⟨_, _, _, _, W, hat, (fun i s' st => st.1.typeIs), List.mem_cons_self, ?_, ?_⟩ ?_ (Nat.le_sub_one_of_lt hLs)
    · intro b' hb
      show b' < h₅.objs.size
      rw [hsz₅]
      rcases List.mem_cons.mp hb with rfl | hb
      · exact Nat.lt_succ_self _
      · rcases List.mem_cons.mp hb with rfl | hb
        · exact Nat.lt_succ_of_lt hag
        · exact Nat.lt_succ_of_lt (Nat.lt_trans (List.mem_range.mp hb) hag)
    · intro b' hb
      show s.heap.objs.size - 1 < b'
      simp only [List.mem_cons, List.not_mem_nil, or_false] at hb
      rcases hb with rfl | rfl
      · exact Nat.lt_of_lt_of_le (Nat.sub_one_lt (Nat.ne_of_gt (Nat.lt_of_le_of_lt (Nat.zero_le _) hLs))) (Nat.le_of_succ_le hsz')
      · exact Nat.sub_one_lt (Nat.ne_of_gt (Nat.lt_of_le_of_lt (Nat.zero_le _) hLs))
    · intro q hq'
      have : ∃ o, (q.1, o) ∈ pre ++ (P, tabObj ps) :: post := by
        rcases List.mem_append.mp hq' with hq | hq
        · exact ⟨q.2, List.mem_append_left _ hq⟩
        · rcases List.mem_cons.mp hq with rfl | hq
          · exact ⟨_, List.mem_append_right _ (.head _)⟩
          · exact ⟨q.2, List.mem_append_right _ (.tail _ hq)⟩
      obtain ⟨o, ho⟩ := this
      exact Nat.le_sub_one_of_lt (Heap.lt_size (N _ ho).1)
/-- what the machine's generator hands over, joined -/
theorem join_led2 {K b : Addr} {n : Nat} {Fv : Nat → Value → Prop} {sep : List Nat} {y : Str} {t : Tok} {news : Led} {ls : List (List Nat)} {Q : Value → Shared → Prop} (F : Fr h₀ L s.heap m) (N : News h₀ L s.heap news) (G : AllBare s.gens) (X : Gen prog w A K b n Fv s) (hLK : L ≤ K) (hnK : ∀ q ∈ news, q.1 ≤ K)
    (hy : y = S sep) (hn : n = ls.length) (htx : ∀ j v, Fv j v → ∃ u, v = .str (S (ls.getD j [])) u) (r : Str) (hr : Txt.join (S sep) ((List.range n).map fun j => S (ls.getD j [])) = r) (hok : JoinOk (S sep) ((List.range n).map fun j => S (ls.getD j [])) = true) (hsz : n ≤ 1048576)
    (hQ : ∀ h' gs' dr' tk' t', AllBare gs' → Fr h₀ L h' m → News h₀ L h' news → Q (.str r t') { heap := h', gens := gs', drawn := dr', toks := tk', os := s.os }) :
    wpAny (model prog w) A (call (.builtin "str.join") [.str y t, .ref b]) Q E s := by
  subst hy
  refine join_rowsK F G X hLK (fun j => S (ls.getD j [])) htx hok (fun s' t' F' G' ho hk => ?_) (by rw [sizeLine_eq]; omega)
  obtain ⟨h', gs', dr', tk', os'⟩ := s'
  have ho' : os' = s.os := ho
  subst ho'
  rw [hr]
  exact hQ h' gs' dr' tk' t' G' F' fun q hq => ⟨hk _ _ (hnK q hq) (N q hq).1, (N q hq).2⟩
end
end Mine
end
section
open PySem PySem.W PyProof.Rows PySem.Calls PySem.Spec
set_option maxRecDepth 100000
set_option maxHeartbeats 400000
namespace Mine
theorem keeps_rfl (s : Shared) : Keeps s s := ⟨s.heap, s.toks, rfl, fun _ _ e => e⟩
theorem dash_rep : Txt.replace (S [33, 45]) (Str.ofString "-") (Str.ofString "\\-") = S [33, 92, 45] := by decide +kernel
theorem dash_elt {prog : Program} {w : World} {A : Around} {E : Value → Shared → Prop} {s : Shared} {cenv : Env} {m : Str → Option Value} {t0 : Tok} {p1 p2 p3 p4 p5 p6 p7 p8 p9 : Pos} {k1 k2 k3 k4 : Nat} {pl1 pl2 : Sem Bool} (hk : cenv.scope.kind = .function) (hl : cenv.kindOf "s" = some .local) (hns : s.heap.Ns cenv.locals m) (hms : m "s" = some (.str (S [33, 45]) t0))
    (he1 : eval (.Call (.Attribute (.Call (.Attribute (.Name "s" p1) "replace" p2) [.Constant (.str (Str.ofString "\\")) k1 p3, .Constant (.str (Str.ofString "\\\\")) k2 p4] [] p5) "replace" p6) [.Constant (.str (Str.ofString "-")) k3 p7, .Constant (.str (Str.ofString "\\-")) k4 p8] [] p9) cenv = (do
      let ov ← eval (.Call (.Attribute (.Name "s" p1) "replace" p2) [.Constant (.str (Str.ofString "\\")) k1 p3, .Constant (.str (Str.ofString "\\\\")) k2 p4] [] p5) cenv
      standAt p6.atName
      let (f, first) ← holding [ov] (getMethod ov "replace" pl1)
      callWith p9 f first (backTo p9 (starEach [.Constant (.str (Str.ofString "-")) k3 p7, .Constant (.str (Str.ofString "\\-")) k4 p8] cenv)) []))
    (he2 : eval (.Call (.Attribute (.Name "s" p1) "replace" p2) [.Constant (.str (Str.ofString "\\")) k1 p3, .Constant (.str (Str.ofString "\\\\")) k2 p4] [] p5) cenv = (do
      let ov ← eval (.Name "s" p1) cenv
      standAt p2.atName
      let (f, first) ← holding [ov] (getMethod ov "replace" pl2)
      callWith p5 f first (backTo p5 (starEach [.Constant (.str (Str.ofString "\\")) k1 p3, .Constant (.str (Str.ofString "\\\\")) k2 p4] cenv)) [])) :
    wpAny (model prog w) A (eval (.Call (.Attribute (.Call (.Attribute (.Name "s" p1) "replace" p2) [.Constant (.str (Str.ofString "\\")) k1 p3, .Constant (.str (Str.ofString "\\\\")) k2 p4] [] p5) "replace" p6) [.Constant (.str (Str.ofString "-")) k3 p7, .Constant (.str (Str.ofString "\\-")) k4 p8] [] p9) cenv) (fun y s₃ => (∃ u, y = .str (S [33, 92, 45]) u) ∧ Keeps s s₃) E s := by
  refine MethodCall_ (pl := pl1) ?_ he1
  refine MethodCall_ (pl := pl2) ?_ he2
  refine wpAny_Name (wpAny_loadName_local hk hl hns hms ?_) (by decide)
  walk1
  walk1
  walk1
  walk1
  walk1
  walk1
  walk1
  refine replace_same (by decide +kernel) ?_
  walk1
  walk1
  walk1
  walk1
  walk1
  walk1
  walk1
  refine replace_to dash_rep (by decide +kernel) (by simp) (by simp) (by simp) (by decide +kernel) ?_
  intro t' k'
  exact ⟨⟨t', rfl⟩, _, _, rfl, fun _ _ e => e⟩
end Mine
end
section
open PySem PySem.W PyProof.Rows PySem.Calls PySem.Spec
set_option maxRecDepth 100000
set_option maxHeartbeats 2000000
namespace Mine
theorem code157 {w : World} {h : Heap} (hrow : PySem.Challenge.rw_in0284_01 = PySem.Challenge.rw_in0284_01) (X : (hd0.heap_1 w.params).In h) : CodeHd h 157 153 := by
  revert X hrow
  k_fill
  intro _ X
  exact ⟨_, _, _, _, _, _, _, _, _, X _ _ (by k_is), rfl, rfl, rfl, rfl, rfl, rfl, rfl, rfl, by decide⟩
theorem code234 {w : World} {h : Heap} (hrow : PySem.Challenge.rw_in0284_01 = PySem.Challenge.rw_in0284_01) (X : (hd0.heap_1 w.params).In h) : CodeHd h 234 230 := by
  revert X hrow
  k_fill
  intro _ X
  exact ⟨_, _, _, _, _, _, _, _, _, X _ _ (by k_is), rfl, rfl, rfl, rfl, rfl, rfl, rfl, rfl, by decide⟩
end Mine
end
section
open PySem PySem.W PyProof.Rows PySem.Calls PySem.Spec
set_option maxRecDepth 100000
namespace Mine
noncomputable def Full : Prop := True
/-- where an expression is asked -/
structure Cx where
  prog : Program
  w : World
  A : Around
  E : Value → Shared → Prop
  env : Env
noncomputable abbrev tick (s : Shared) : Shared := { s with toks := s.toks + 1 }
noncomputable abbrev sto (s : Shared) (h : Heap) : Shared := { s with heap := h, toks := s.toks + 1 }
noncomputable abbrev put (m : Str → Option Value) (x : Str) (v : Value) : Str → Option Value := fun y => if y = x then some v else m y
/-- a pure expression's value, told forward -/
structure Ev (c : Cx) (e : Expr) (s : Shared) (v : Value) (s' : Shared) : Prop where
  go : ∀ Q : Value → Shared → Prop, Q v s' → wpAny (model c.prog c.w) c.A (eval e c.env) Q c.E s
structure Tr (c : Cx) (e : Expr) (s : Shared) (r : Bool) (s' : Shared) : Prop where
  go : ∀ Q : Bool → Shared → Prop, Q r s' → wpAny (model c.prog c.w) c.A (isTrue e c.env (eval e c.env)) Q c.E s
structure Op2 (c : Cx) (op : Operator) (a b : Value) (s : Shared) (v : Value) (s' : Shared) : Prop where
  go : ∀ Q : Value → Shared → Prop, Q v s' → wpAny (model c.prog c.w) c.A (binaryOp op a b) Q c.E s
structure Cm2 (c : Cx) (op : CmpOp) (a b : Value) (s : Shared) (r : Bool) : Prop where
  go : ∀ Q : Value → Shared → Prop, Q (.bool r) s → wpAny (model c.prog c.w) c.A (compareOp op a b) Q c.E s
structure TrA (c : Cx) (es : List Expr) (s : Shared) (r : Bool) (s' : Shared) : Prop where
  go : ∀ (pos : Pos) (whole : Sem Value) (Q : Bool → Shared → Prop), Q r s' → wpAny (model c.prog c.w) c.A (isTrue (.BoolOp .And es pos) c.env whole) Q c.E s
structure TrO (c : Cx) (es : List Expr) (s : Shared) (r : Bool) (s' : Shared) : Prop where
  go : ∀ (pos : Pos) (whole : Sem Value) (Q : Bool → Shared → Prop), Q r s' → wpAny (model c.prog c.w) c.A (isTrue (.BoolOp .Or es pos) c.env whole) Q c.E s
/-- behind an operand of an and, an or; one of two -/
inductive TrAB (c : Cx) (es : List Expr) (s : Shared) : Bool → Bool → Shared → Prop
  | f : TrAB c es s false false s
  | t {r : Bool} {s' : Shared} (h : TrA c es s r s') : TrAB c es s true r s'
inductive TrOB (c : Cx) (es : List Expr) (s : Shared) : Bool → Bool → Shared → Prop
  | t : TrOB c es s true true s
  | f {r : Bool} {s' : Shared} (h : TrO c es s r s') : TrOB c es s false r s'
inductive EvB (c : Cx) (e f : Expr) (s : Shared) : Bool → Value → Shared → Prop
  | t {v : Value} {s' : Shared} (h : Ev c e s v s') : EvB c e f s true v s'
  | f {v : Value} {s' : Shared} (h : Ev c f s v s') : EvB c e f s false v s'
structure EvL (c : Cx) (es : List Expr) (s : Shared) (vs : List Value) (s' : Shared) : Prop where
  go : ∀ (pos : Pos) (Q : List Value → Shared → Prop), Q vs s' → wpAny (model c.prog c.w) c.A (spliced (backTo pos (starEach es c.env))) Q c.E s
structure EvP (c : Cx) (e : Option Expr) (s : Shared) (v : Value) (s' : Shared) : Prop where
  go : ∀ Q : Value → Shared → Prop, Q v s' → wpAny (model c.prog c.w) c.A (evalPart e c.env) Q c.E s
section
variable {c : Cx} {s s' s₁ s₂ s₃ : Shared} {e e₂ : Expr} {es : List Expr} {pos p : Pos} {k : Nat} {v : Value} {b r : Bool}
theorem Ev.int {i : Int} : Ev c (.Constant (.int i) k pos) s (.int i s.toks) (tick s) := ⟨fun _ h => wpAny_Constant_int h⟩
theorem Ev.strc {x : Str} : Ev c (.Constant (.str x) k pos) s (.str x s.toks) (tick s) := ⟨fun _ h => Calls.Constant_str h⟩
theorem Ev.boolc {x : Bool} : Ev c (.Constant (.bool x) k pos) s (.bool x) s := ⟨fun _ h => Constant_bool h⟩
theorem Ev.nonec : Ev c (.Constant .none k pos) s .none s := ⟨fun _ h => Constant_none h⟩
theorem Ev.bin {l x : Expr} {op : Operator} {va vb : Value} (h1 : Ev c l s va s₁) (h2 : Ev c x s₁ vb s₂) (h3 : Op2 c op va vb s₂ v s₃) : Ev c (.BinOp l op x pos) s v s₃ := ⟨fun Q h => wpAny_BinOp (h1.go _ (h2.go _ (h3.go Q h)))⟩
theorem Ev.ifexp {t : Expr} (h1 : Tr c t s b s₁) (h2 : EvB c e e₂ s₁ b v s₂) : Ev c (.IfExp t e e₂ pos) s v s₂ := ⟨fun Q h => IfExp_ (h1.go _ (by cases h2 with | t h2 => exact h2.go Q h | f h2 => exact h2.go Q h))⟩
theorem Tr.cmp {l x : Expr} {op : CmpOp} {va vb : Value} (h1 : Ev c l s va s₁) (h2 : Ev c x s₁ vb s₂) (h3 : Cm2 c op va vb s₂ r) (hm : behindInMarks op x = false := by with_unfolding_all rfl) : Tr c (.Compare l [op] [x] pos) s r s₂ := ⟨fun _ h => wpAny_isTrue_Compare1 (h1.go _ (h2.go _ (h3.go _ (wpAny_truthy_bool h)))) hm⟩
theorem Ev.cmp {l x : Expr} {op : CmpOp} {va vb : Value} (h1 : Ev c l s va s₁) (h2 : Ev c x s₁ vb s₂) (h3 : Cm2 c op va vb s₂ r) (hm : behindInMarks op x = false := by with_unfolding_all rfl) : Ev c (.Compare l [op] [x] pos) s (.bool r) s₂ := ⟨fun _ h => wpAny_Compare1 (h1.go _ (h2.go _ (h3.go _ h))) hm⟩
theorem Tr.and (h : TrA c es s r s') : Tr c (.BoolOp .And es pos) s r s' := ⟨fun Q q => h.go _ _ Q q⟩
theorem Tr.or (h : TrO c es s r s') : Tr c (.BoolOp .Or es pos) s r s' := ⟨fun Q q => h.go _ _ Q q⟩
theorem TrA.nil : TrA c [] s true s := ⟨fun _ _ _ h => isTrue_and_nil h⟩
theorem TrA.cons (h1 : Tr c e s b s₁) (h2 : TrAB c es s₁ b r s₂) : TrA c (e :: es) s r s₂ := ⟨fun pos whole Q h => isTrue_and (h1.go _ (by
  cases h2 with
  | t h2 => exact h2.go pos whole Q h
  | f => exact h))⟩
theorem TrO.nil : TrO c [] s false s := ⟨fun _ _ _ h => isTrue_or_nil h⟩
theorem TrO.cons (h1 : Tr c e s b s₁) (h2 : TrOB c es s₁ b r s₂) : TrO c (e :: es) s r s₂ := ⟨fun pos whole Q h => isTrue_or (h1.go _ (by
  cases h2 with
  | f h2 => exact h2.go pos whole Q h
  | t => exact h))⟩
theorem Tr.not (h : Tr c e s b s') (hr : (!b) = r) : Tr c (.UnaryOp .Not e pos) s r s' := ⟨fun Q q => isTrue_not (h.go _ (by rw [hr]; exact q))⟩
theorem Tr.boolc {x : Bool} : Tr c (.Constant (.bool x) k pos) s x s := ⟨fun _ h => isTrue_plain (Constant_bool (wpAny_truthy_bool h))⟩
theorem Tr.strp {x : Str} {a : List Nat} {t : Tok} (h1 : Ev c e s (.str x t) s₁) (hx : x = S a) (hb : a.length ≤ 1048576) (hr : ((a.length : Int) != 0) = r) (he : isTrue e c.env (eval e c.env) = (do let v ← eval e c.env; standAt e.pos; holding [v] (truthy v))) : Tr c e s r (tick (tick s₁)) := ⟨fun _ h => isTrue_plain (h1.go _ (truthyS hx hb (by rw [hr]; exact h))) he⟩
theorem EvP.none : EvP c none s .none s := ⟨fun _ h => evalPart_none_step h⟩
theorem EvP.some (h : Ev c e s v s') : EvP c (some e) s v s' := ⟨fun Q q => evalPart_some_step (h.go Q q)⟩
theorem EvL.nil : EvL c [] s [] s := ⟨fun _ _ h => args_nil h⟩
theorem EvL.cons {vs : List Value} (h1 : Ev c e s v s₁) (h2 : EvL c es s₁ vs s₂) (he : starEach (e :: es) c.env = (false, eval e c.env) :: starEach es c.env) : EvL c (e :: es) s (v :: vs) s₂ := ⟨fun _ _ h => args_cons (h1.go _ (h2.go _ _ h)) he⟩
section
variable {a d : Int} {t u : Tok} {x y : Str}
theorem Op2.addi : Op2 c .Add (.int a t) (.int d u) s (.int (a + d) s.toks) (tick s) := ⟨fun _ h => PyProof.Rows.add_int h⟩
theorem Op2.subi : Op2 c .Sub (.int a t) (.int d u) s (.int (a - d) s.toks) (tick s) := ⟨fun _ h => PyProof.Rows.sub_int h⟩
theorem Op2.modi (hb : d ≠ 0) : Op2 c .Mod (.int a t) (.int d u) s (.int (a.fmod d) s.toks) (tick s) := ⟨fun _ h => PyProof.Rows.mod_int' hb h⟩
theorem Op2.andi : Op2 c .BitAnd (.int a t) (.int d u) s (.int (Builtin.bitAnd a d) s.toks) (tick s) := ⟨fun _ h => PyProof.Rows.and_int h⟩
theorem Cm2.lti (hr : decide (a < d) = r) : Cm2 c .Lt (.int a t) (.int d u) s r := ⟨fun _ h => PyProof.Rows.lt_int (by rw [hr]; exact h)⟩
theorem Cm2.gei (hr : decide (d ≤ a) = r) : Cm2 c .GtE (.int a t) (.int d u) s r := ⟨fun _ h => PyProof.Rows.ge_int (by rw [hr]; exact h)⟩
theorem Cm2.gti (hr : decide (d < a) = r) : Cm2 c .Gt (.int a t) (.int d u) s r := ⟨fun _ h => PyProof.Rows.gt_int (by rw [hr]; exact h)⟩
theorem Cm2.eqi (hr : decide (a = d) = r) : Cm2 c .Eq (.int a t) (.int d u) s r := ⟨fun _ h => PyProof.Rows.eq_int (by rw [show (a == d) = r from hr]; exact h)⟩
theorem Cm2.eqs (hr : (x == y) = r) : Cm2 c .Eq (.str x t) (.str y u) s r := ⟨fun _ h => eqS hr h⟩
theorem Cm2.nes (hr : (x != y) = r) : Cm2 c .NotEq (.str x t) (.str y u) s r := ⟨fun _ h => neS hr h⟩
theorem Cm2.notins (hr : (!(!(Builtin.Str.occurrences x y 0 x.length 1).isEmpty)) = r) : Cm2 c .NotIn (.str y u) (.str x t) s r := ⟨fun _ h => notInS hr h⟩
end
theorem Ev.item {p q : Expr} {l : List Nat} {t u : Tok} {i : Int} {d : Nat} (h1 : Ev c p s (.str (S l) t) s₁) (h2 : Ev c q s₁ (.int i u) s₂) (h0 : 0 ≤ i) (hx : l[i.toNat]? = some d) (hb : l.length ≤ 1048576)
    (hs : subscripted q false (.str (S l) t) (.int i u) = operate [.str (S l) t, .int i u] (getItem (.str (S l) t) (.int i u))) (ht : ∀ r, letTemporaryGo p (.str (S l) t) r = pure ()) : Ev c (.Subscript p q pos) s (.str (S [d]) s₂.toks) (tick s₂) := ⟨fun _ h => Subscript_ (h1.go _ (h2.go _ (item_S h0 hx hb h hs ht)))⟩
end
section
variable {prog : Program} {w : World} {A : Around} {E : Value → Shared → Prop} {env : Env} {cn : Str} {cs : Scope} {L a : Addr} {ccd : Value} {cl : List (Str × Addr)} {h₀ : Heap} {m : Str → Option Value} {news : Led} {s s₁ : Shared} {x : Str} {v : Value} {pos p' : Pos} {rest : List Stmt} {Q : Flow → Shared → Prop}
theorem Ev.name (F : Fr h₀ L s.heap m) (hv : m x = some v) (hk : cs.kind = .function) (hx : (envX cn cs L a ccd cl).kindOf x = some .local) (hd : (x == ("__debug__" : Str)) = false) : Ev ⟨prog, w, A, E, envX cn cs L a ccd cl⟩ (.Name x pos) s v s := ⟨fun _ h => nameX_L F hv h hk hx hd⟩
theorem dT {p : Prop} {i : Decidable p} (h : p) : @decide p i = true := decide_eq_true h
theorem dF {p : Prop} {i : Decidable p} (h : ¬ p) : @decide p i = false := decide_eq_false h
theorem asF {a : Bool} (h : a = false) : a = false := h
theorem asT {a : Bool} (h : a = true) : a = true := h
noncomputable def glue : List Stmt → List Stmt → List Stmt
  | [], r => r
  | a :: l, r => a :: glue l r
theorem wp_glue {M : Model} {Γ : PySem.Ctx} {ex : Value → Pos → Shared → Prop} : ∀ {l r : List Stmt} {P : Flow → Pos → Shared → Prop} {p : Pos} {s : Shared}, Sem.wp M Γ (execs (glue l r) env) P ex p s → Sem.wp M Γ (execs l env) (fun f p' s' => Sem.wp M Γ (match f with | .next => execs r env | f => pure f) P ex p' s') ex p s
  | [], _, _, _, _, h => h
  | a :: l, r, P, p, s, h => by
    have h : Sem.wp M Γ (execs (a :: glue l r) env) P ex p s := h
    rw [execs_cons, Sem.wp_bind'] at h ⊢
    refine Sem.wp_mono M Γ _ (fun f p' s' h' => ?_) (fun _ _ _ h' => h') _ _ h
    cases f with
    | next => exact wp_glue h'
    | _ => exact h'
noncomputable def pick (b : Bool) (l r k : List Stmt) : List Stmt := match b with
  | true => glue l k
  | false => glue r k
theorem st_if {test : Expr} {body orelse : List Stmt} {r : Bool} (ht : Tr ⟨prog, w, A, E, env⟩ test s r s₁) (h : wpAny (model prog w) A (execs (pick r body orelse rest) env) Q E s₁) :
    wpAny (model prog w) A (execs (.If test body orelse pos :: rest) env) Q E s := fun Γ p hΓ => by
  rw [execs_cons, Sem.wp_bind']
  simp only [exec_If, Sem.wp_bind', Sem.wp_cmd_standAt]
  refine Sem.wp_mono _ Γ _ (fun b p₂ s₂ h₂ => ?_) (fun _ _ _ h' => h') _ _ (ht.go (fun b s' => b = r ∧ s' = s₁) ⟨rfl, rfl⟩ Γ _ hΓ)
  obtain ⟨rfl, rfl⟩ := h₂
  cases b <;> exact wp_glue (h Γ p₂ hΓ)
theorem st_last {st : Stmt} (h : wpAny (model prog w) A (exec st env) Q E s) : wpAny (model prog w) A (execs [st] env) Q E s :=
  wpAny_execs_cons (wpAny_mono h (fun f s' q => by cases f with | next => exact wpAny_execs_nil q | _ => exact q) fun _ _ q => q)
theorem st_assign {value : Expr} (hv : Ev ⟨prog, w, A, E, envX cn cs L a ccd cl⟩ value s v s₁) (F : Fr h₀ L s₁.heap m) (N : News h₀ L s₁.heap news)
    (h : ∀ h', Fr h₀ L h' (put m x v) → News h₀ L h' news → wpAny (model prog w) A (execs rest (envX cn cs L a ccd cl)) Q E (sto s₁ h'))
    (hs : swapsWith value (some (.Name x p')) pos.line (envX cn cs L a ccd cl) = pure false) (hk : cs.kind = .function) (hx : (envX cn cs L a ccd cl).kindOf x = some .local) :
    wpAny (model prog w) A (execs (.Assign [.Name x p'] value pos :: rest) (envX cn cs L a ccd cl)) Q E s :=
  wpAny_execs_cons (wpAny_Assign_Name (hv.go _ (storeX_L F N h hk hx)) hs)
theorem storeP {Q : Unit → Shared → Prop} (F : Fr h₀ L s.heap m) (N : News h₀ L s.heap news)
    (h : ∀ h', Fr h₀ L h' (put m x v) → News h₀ L h' news → Q () (sto s h')) (hk : cs.kind = .function) (hx : (envX cn cs L a ccd cl).kindOf x = some .local) :
    wpAny (model prog w) A (storeName (envX cn cs L a ccd cl) x v) Q E s := storeX_L F N h hk hx
theorem st_assignC {value : Expr}
    (h : wpAny (model prog w) A (eval value (envX cn cs L a ccd cl)) (fun v s₁ => wpAny (model prog w) A (storeName (envX cn cs L a ccd cl) x v) (fun _ => wpAny (model prog w) A (execs rest (envX cn cs L a ccd cl)) Q E) E s₁) E s)
    (hs : swapsWith value (some (.Name x p')) pos.line (envX cn cs L a ccd cl) = pure false) :
    wpAny (model prog w) A (execs (.Assign [.Name x p'] value pos :: rest) (envX cn cs L a ccd cl)) Q E s :=
  wpAny_execs_cons (wpAny_Assign_Name h hs)
theorem st_expr {e : Expr} (h : wpAny (model prog w) A (eval e env) (fun _ => wpAny (model prog w) A (execs rest env) Q E) E s) (hi : interactive env = false) (hs : swapsWith e none pos.line env = pure false) :
    wpAny (model prog w) A (execs (.Expr e pos :: rest) env) Q E s := wpAny_execs_cons (wpAny_Expr_any h hi hs)
theorem st_ret {e : Expr} (h : wpAny (model prog w) A (eval e env) (fun v => Q (.ret v)) E s) : wpAny (model prog w) A (execs (.Return (some e) pos :: rest) env) Q E s := wpAny_execs_cons (wpAny_Return_some h)
theorem args_ev {vs : List Value} {es : List Expr} {Q : List Value → Shared → Prop} (h1 : EvL ⟨prog, w, A, E, env⟩ es s vs s₁) (h : Q vs s₁) : wpAny (model prog w) A (spliced (backTo pos (starEach es env))) Q E s := h1.go _ _ h
theorem ev_use {e : Expr} {Q : Value → Shared → Prop} (h1 : Ev ⟨prog, w, A, E, env⟩ e s v s₁) (h : Q v s₁) : wpAny (model prog w) A (eval e env) Q E s := h1.go _ h
theorem tr_use {e : Expr} {r : Bool} {Q : Bool → Shared → Prop} (h1 : Tr ⟨prog, w, A, E, env⟩ e s r s₁) (h : Q r s₁) : wpAny (model prog w) A (isTrue e env (eval e env)) Q E s := h1.go _ h
theorem sub_slice {p : Expr} {lo hi : Option Expr} {l : List Nat} {t : Tok} {va vb : Value} {s₂ s₃ : Shared} {pos' : Pos} {Q : Value → Shared → Prop} (h1 : Ev ⟨prog, w, A, E, env⟩ p s (.str (S l) t) s₁) (h2 : EvP ⟨prog, w, A, E, env⟩ lo s₁ va s₂) (h3 : EvP ⟨prog, w, A, E, env⟩ hi s₂ vb s₃)
    (h : wpAny (model prog w) A (subscriptTail p (.Slice lo hi none pos') (.str (S l) t) (.ref s₃.heap.objs.size)) Q E { s₃ with heap := s₃.heap.push { cls := .type "slice", data := .fields #[va, vb, .none] } }) :
    wpAny (model prog w) A (eval (.Subscript p (.Slice lo hi none pos') pos) env) Q E s :=
  Subscript_ (h1.go _ (wpAny_Slice (h2.go _ (h3.go _ (evalPart_none_step h)))))
theorem while_tt {R : Result → Shared → Prop} {test : Expr} {body orelse : List Stmt} {s : Shared} (ht : Tr ⟨prog, w, A, NoE, env⟩ test s true s₁)
    (h : wpAny (model prog w) A (execs body env) (fun f s₃ => match f with
            | .next | .cont => codeAny (model prog w) A (.whileLoop test body orelse env) R s₃
            | .brk => R (.ok .next) s₃
            | .ret v => R (.ok (.ret v)) s₃) NoE s₁) : codeAny (model prog w) A (.whileLoop test body orelse env) R s :=
  while_step (ht.go _ (by rw [if_pos rfl]; exact h))
theorem while_ff {R : Result → Shared → Prop} {test : Expr} {body orelse : List Stmt} {s : Shared} (ht : Tr ⟨prog, w, A, NoE, env⟩ test s false s₁)
    (h : wpAny (model prog w) A (execs orelse env) (fun f s₃ => R (.ok f) s₃) NoE s₁) : codeAny (model prog w) A (.whileLoop test body orelse env) R s :=
  while_step (ht.go _ (by rw [if_neg Bool.false_ne_true]; exact h))
end
end Mine
end
section
open PySem PySem.W PyProof.Rows PySem.Calls PySem.Spec
set_option maxRecDepth 100000
set_option maxHeartbeats 8000000
namespace Mine
theorem truthyS' {prog : Program} {w : World} {A : Around} {E : Value → Shared → Prop} {s : Shared} {Q : Bool → Shared → Prop} {x : Str} {t : Tok} {a : List Nat} {r : Bool} (hx : x = S a) (hb : a.length ≤ 1048576) (hr : ((a.length : Int) != 0) = r) (h : Q r { s with toks := s.toks + 1 + 1 }) : wpAny (model prog w) A (truthy (.str x t)) Q E s := truthyS hx hb (by rw [hr]; exact h)
theorem fstr (x : List Nat) : Str.empty ++ Str.ofString "[" ++ S x ++ Str.ofString "]" = S (91 :: (x ++ [93])) := by
  rw [lit_open, lit_c, show Str.empty = S [] by decide +kernel, S_append, S_append, S_append]; rfl
theorem fstr0 (x : List Nat) : Str.empty ++ Str.ofString "[" ++ S x = S (91 :: x) := by
  rw [lit_open, show Str.empty = S [] by decide +kernel, S_append, S_append]; rfl
section
variable {w : World} {p : Program} {loose : List Str} {mean : ExcName → Option Value} {mg mb : Str → Option Value}
theorem lines_TL1 : True := by
  k_with_none
  k_with "my steps" => repeat' ((fail_if_success (with_reducible show wpAny _ _ (exec (Stmt.For _ _ _ _ _) _) _ _ _)); (fail_if_success (with_reducible show wpAny _ _ (exec (Stmt.While _ _ _ _) _) _ _ _)); (fail_if_success (with_reducible show wpAny _ _ (getMethod (Value.ref 132) _ _) _ _ _)); (fail_if_success (with_reducible show wpAny _ _ (getAttr _ _ _) _ _ _)); (fail_if_success (with_reducible show wpAny _ _ (truthy (Value.ref _)) _ _ _)); (fail_if_success (with_reducible show wpAny _ _ (subscriptTail _ _ (Value.ref _) (Value.int _ _)) _ _ _)); first | walk1 | (dsimp only; walk1) | (dsimp only [List.cons_append, List.nil_append]; walk1) | (leave1; walk_say "STEP leave1"; try dsimp only) | fail "no step")
  k_with "my ite" => first | with_reducible refine ite_tt ?_ | with_reducible refine ite_ff ?_ | (refine ite_neg (by simp only [decide_eq_true_eq, beq_iff_eq, bne_iff_ne, ne_eq]; omega) ?_) | (refine ite_pos (by simp only [decide_eq_true_eq, beq_iff_eq, bne_iff_ne, ne_eq]; omega) ?_)
  k_with "my exec If" => refine wpAny_If ?_
  k_with "my eval Name" => (k_dflt (refine' nameX_L ?F ?v ?_ ?a ?b; (case F => k_asm); (case a => rfl); (case b => rfl); (case v => rfl); k_whole))
  k_with "my And" => ((with_reducible show PySem.Str.length (_ ++ _) ≤ sizeLine ∧ wpAny _ _ (joinParts _ _) _ _ _); refine ⟨by first | (rw [fstr, S_length, sizeLine_eq]; simp; done) | (rw [fstr0, S_length, sizeLine_eq]; simp; done) | decide +kernel | size_fits, ?_⟩)
  k_with "my subscriptTail Name Name str int" => first | refine item_S (by omega) (AtOff.go (‹AtOff _ _ 0 _›) (by omega)) (by omega) ?_ | refine item_S (by omega) (AtOff.go (‹AtOff _ _ 1 _›) (by omega)) (by omega) ?_ | refine item_S (by omega) (AtOff.go (‹AtOff _ _ 2 _›) (by omega)) (by omega) ?_ | refine item_S (by omega) (AtOff.go (‹AtOff _ _ 3 _›) (by omega)) (by omega) ?_
  k_with "my compareOp Eq str str" => first | refine eqS (r := false) (by first | assumption | decide +kernel) ?_ | refine eqS (r := true) (by decide +kernel) ?_
  k_with "my compareOp NotEq str str" => first | refine neS (r := true) (by first | assumption | decide +kernel) ?_ | refine neS (r := false) (by decide +kernel) ?_
  k_with "my callWith ref" => ((with_reducible show wpAny _ _ (callWith _ (Value.ref _) [] _ []) _ _ _); (fail_if_success (with_reducible show wpAny _ _ (callWith _ (Value.ref 151) _ _ _) _ _ _)); k_dflt (refine callWith_B ?_))
  k_with "my formatField str" => (refine SB.field_str (fun _ _ => ?_) (by rw [S_length, sizeLine_eq]; simp); dsimp only)
  k_with "my And" => ((with_reducible show BmAt _ _ ∧ _); refine And.intro (BmAt.of (by k_asm) (by k_mem)) ?_)
  k_with "my BmAt" => exact BmAt.of (by k_asm) (by k_mem)
  k_with "my call ref" => ((with_reducible show wpAny _ _ (call (Value.ref 151) [Value.str _ _]) _ _ _); k_dflt (refine' does_val (mk := fun u => .str _ u) (d_escape _ _ (by assumption)) ?B ?F ?X ?N trivial ?T rfl ?hd ?hu ?_; (case B => k_asm); (case F => k_asm); (case X => k_asm); (case N => k_asm); (case T => k_asm); (case hd => omega); (case hu => omega)); intro _ _ _ _ _; (try dsimp only))
  k_with "my subscriptTail Name Slice str ref" => ((with_reducible rename Fr _ _ _ _ => zkF); (with_reducible rename News _ _ _ _ => zkN); first | refine slice_off (s := ⟨_, _, _, _, _⟩) zkF zkN (‹SlOff _ _ 1 _ _›) (by omega) (by omega) (by omega) ?_ | refine slice_off (s := ⟨_, _, _, _, _⟩) zkF zkN (‹SlOff _ _ 0 _ _›) (by omega) (by omega) (by omega) ?_ | refine slice_from (n := 1) (s := ⟨_, _, _, _, _⟩) zkF zkN (by simp) rfl (by simp) ?_); intro _ _ _ _ _
  k_with "my compareOp NotIn str str" => first | refine notInS (r := true) (by first | assumption | decide +kernel) ?_ | refine notInS (r := false) (by decide +kernel) ?_
  k_with "my call builtin:str.replace" => refine replace_same (by first | assumption | decide +kernel) ?_
  k_with "my truthy str" => first | refine truthyS' (r := true) rfl (by simp) (by rfl) ?_ | refine truthyS' (r := false) rfl (by simp) (by rfl) ?_
  k_with "my subscriptTail Name Constant str int" => refine item_S (by decide) rfl (by simp) ?_
  k_with "my binaryOp Add str str" => (refine add_S (by first | with_reducible rfl | exact lit_hat | exact lit_bs) (by first | with_reducible rfl) (by simp) ?_; intro _ _)
  k_with "my call builtin:len" => refine lenS rfl (by omega) ?_
  k_with "my room" => ((try simp only [depth_under_make, depth_under_kw, depth_in1, depth_deeper, depth_caller]); (try dsimp only [ktrTop]); omega)
  k_with "ev op" => first | exact Op2.addi | exact Op2.subi | exact Op2.modi (by decide) | exact Op2.andi
  k_with "ev at" => with_reducible first | exact AtOff.go (‹AtOff _ _ 0 _›) (by omega) | exact AtOff.go (‹AtOff _ _ 1 _›) (by omega) | exact AtOff.go (‹AtOff _ _ 2 _›) (by omega) | exact AtOff.go (‹AtOff _ _ 3 _›) (by omega)
  k_with "ev" => first
    | ((with_reducible show Ev _ (Expr.Name _ _) _ _ _); exact Ev.name (by k_asm) (by rfl) (by rfl) (by rfl) (by decide))
    | ((with_reducible show Ev _ (Expr.Constant _ _ _) _ _ _); first | exact Ev.int | exact Ev.strc | exact Ev.boolc | exact Ev.nonec)
    | ((with_reducible show Ev _ (Expr.BinOp _ _ _ _) _ _ _); exact Ev.bin (by k_extra "ev") (by k_extra "ev") (by k_extra "ev op"))
    | ((with_reducible show Ev _ (Expr.Subscript _ (Expr.Name _ _) _) _ _ _); exact Ev.item (by k_extra "ev") (by k_extra "ev") (by omega) (by k_extra "ev at") (by first | omega | simp) (by with_unfolding_all rfl) (by intro _; with_unfolding_all rfl))
    | ((with_reducible show Ev _ (Expr.Subscript _ (Expr.Constant _ _ _) _) _ _ _); exact Ev.item (by k_extra "ev") (by k_extra "ev") (by decide) (by first | rfl | k_extra "ev at") (by first | omega | simp) (by with_unfolding_all rfl) (by intro _; with_unfolding_all rfl))
    | ((with_reducible show Ev _ (Expr.IfExp _ _ _ _) _ _ _); exact Ev.ifexp (by k_extra "tr") (by first | exact EvB.t (by k_extra "ev") | exact EvB.f (by k_extra "ev")))
  k_with "evl" => first
    | exact EvL.nil
    | ((with_reducible show EvL _ (_ :: _) _ _ _); exact EvL.cons (by k_extra "ev") (by k_extra "evl") (by rfl))
  k_with "ev dec" => first | exact dT (by omega) | exact dF (by omega)
  k_with "ev sdec" => first | with_reducible assumption | exact asF (by decide +kernel) | exact asT (by decide +kernel)
  k_with "ev cmp" => first
    | ((with_reducible show Cm2 _ _ (Value.str _ _) (Value.str _ _) _ _); first
      | ((with_reducible show Cm2 _ CmpOp.Eq _ _ _ _); exact Cm2.eqs (by k_extra "ev sdec"))
      | ((with_reducible show Cm2 _ CmpOp.NotEq _ _ _ _); exact Cm2.nes (by k_extra "ev sdec"))
      | ((with_reducible show Cm2 _ CmpOp.NotIn _ _ _ _); exact Cm2.notins (by k_extra "ev sdec")))
    | ((with_reducible show Cm2 _ _ (Value.int _ _) (Value.int _ _) _ _); first
      | ((with_reducible show Cm2 _ CmpOp.Lt _ _ _ _); exact Cm2.lti (by k_extra "ev dec"))
      | ((with_reducible show Cm2 _ CmpOp.GtE _ _ _ _); exact Cm2.gei (by k_extra "ev dec"))
      | ((with_reducible show Cm2 _ CmpOp.Eq _ _ _ _); exact Cm2.eqi (by k_extra "ev dec")))
  k_with "trb" => first
    | exact TrAB.f
    | ((with_reducible show TrAB _ _ _ true _ _); exact TrAB.t (by k_extra "tra"))
  k_with "tra" => first
    | exact TrA.nil
    | ((with_reducible show TrA _ (_ :: _) _ _ _); exact TrA.cons (by k_extra "tr") (by k_extra "trb"))
  k_with "tr" => first
    | ((with_reducible show Tr _ (Expr.Compare _ [_] [_] _) _ _ _); exact Tr.cmp (by k_extra "ev") (by k_extra "ev") (by k_extra "ev cmp") (by with_unfolding_all rfl))
    | ((with_reducible show Tr _ (Expr.BoolOp BoolOp.And _ _) _ _ _); exact Tr.and (by k_extra "tra"))
    | ((with_reducible show Tr _ (Expr.UnaryOp UnaryOp.Not _ _) _ _ _); exact Tr.not (by k_extra "tr") (by rfl))
    | exact Tr.boolc
    | ((with_reducible show Tr _ (Expr.Name _ _) _ _ _); exact Tr.strp (by k_extra "ev") (by with_reducible rfl) (by first | omega | simp) (by first | rfl | (refine asT ?_; simp)) (by rfl))
  k_with "my execs cons" => (fail_if_success have : Mine.Full := trivial); first
    | ((with_reducible show wpAny _ _ (execs (Stmt.Assign [Expr.Name _ _] _ _ :: _) _) _ _ _); (fail_if_success (with_reducible show wpAny _ _ (execs (Stmt.Assign _ (Expr.Call _ _ _ _) _ :: _) _) _ _ _)); (fail_if_success (with_reducible show wpAny _ _ (execs (Stmt.Assign _ (Expr.Subscript _ (Expr.Slice _ _ _ _) _) _ :: _) _) _ _ _)); k_dflt (refine st_assign (by k_extra "ev") (by k_asm) (by k_asm) ?_ (by rfl) (by rfl) (by rfl)); intro _ _ _; (try k_sweep))
    | ((with_reducible show wpAny _ _ (execs (Stmt.If _ _ _ _ :: _) _) _ _ _); k_dflt (refine st_if (by k_extra "tr") ?_); dsimp only [pick, glue])
    | ((with_reducible show wpAny _ _ (execs (Stmt.Assign [Expr.Name _ _] _ _ :: _) _) _ _ _); k_dflt (refine st_assignC ?_ (by rfl)))
    | ((with_reducible show wpAny _ _ (execs (Stmt.Expr _ _ :: _) _) _ _ _); k_dflt (refine st_expr ?_ (by rfl) (by rfl)))
    | ((with_reducible show wpAny _ _ (execs (Stmt.Return (some _) _ :: _) _) _ _ _); k_dflt (refine st_ret ?_))
  k_with "my storeName" => ((fail_if_success have : Mine.Full := trivial); k_dflt (refine storeP (by k_asm) (by k_asm) ?_ (by rfl) (by rfl)); intro _ _ _; (try k_sweep))
  k_with "my isTrue Compare" => ((fail_if_success have : Mine.Full := trivial); k_dflt (refine tr_use (by k_extra "tr") ?_); (try dsimp only))
  k_with "my isTrue BoolOp" => ((fail_if_success have : Mine.Full := trivial); (with_reducible show wpAny _ _ (isTrue (Expr.BoolOp BoolOp.And (_ :: _ :: _) _) _ _) _ _ _); k_dflt (refine tr_use (by k_extra "tr") ?_); (try dsimp only))
  k_with "my spliced" => ((fail_if_success have : Mine.Full := trivial); (with_reducible show wpAny _ _ (spliced (backTo _ (starEach (_ :: _) _))) _ _ _); k_dflt (refine args_ev (by k_extra "evl") ?_); (try dsimp only [List.cons_append, List.nil_append]))
  k_with "my eval Subscript" => ((fail_if_success have : Mine.Full := trivial); (with_reducible show wpAny _ _ (eval (Expr.Subscript _ (Expr.Slice _ _ none _) _) _) _ _ _); k_dflt (refine sub_slice (by k_extra "ev") (by first | exact EvP.none | exact EvP.some (by k_extra "ev")) (by first | exact EvP.none | exact EvP.some (by k_extra "ev")) ?_))
  trivial

theorem two_ne {c : Nat} : (S [33, c] == Str.ofString "!") = false := by
  rw [lit_ex, beq_eq_false_iff_ne]
  intro e
  exact absurd (congrArg List.length (S_inj e)) (by simp)
theorem no_dash : ∀ c ∈ (63 :: plainSigns : List Nat), (!(!(Builtin.Str.occurrences (S [33, c]) (Str.ofString "-") 0 (S [33, c]).length 1).isEmpty)) = true := by decide +kernel
theorem no_bs : ∀ c ∈ (63 :: plainSigns : List Nat), (Builtin.Str.occurrences (S [33, c]) (Str.ofString "\\") 0 (S [33, c]).length ((S [33, c]).length + 1)).isEmpty = true := by decide +kernel
theorem srcs_len {ps : List Pc} (h : ps.length ≤ 10) : (srcs ps).length ≤ 40 := by
  have : ∀ ps : List Pc, (srcs ps).length ≤ 4 * ps.length := by
    intro ps
    induction ps with
    | nil => simp [srcs]
    | cons p r ih =>
      have : (srcs (p :: r)).length = p.src.length + (srcs r).length := by simp [srcs]
      have h4 : p.src.length ≤ 4 := by
        cases p with
        | any => simp [Pc.src]
        | bar c => simp [Pc.src]
        | ask c => unfold Pc.src; dsimp only; split <;> simp
      simp only [List.length_cons]; omega
  have := this ps
  omega
noncomputable def sdn : Bool → Nat
  | false => 0
  | true => 1
noncomputable def ledT (M D st : Addr) (toks : List (Str × Tok)) (sd : Bool) (nn : Nat) (tab : Array Value) : Led := [(M, bmO D), (D, listOf (strValues toks ++ if sd then [Value.ref st] else []).toArray nn), (153, tabObj tab)]
noncomputable def JT (g : Heap) (L' M D st : Addr) (news : Led) (ps : List Pc) (star : Bool) (l : List Nat) (t t2 : Tok) (k : Nat) (h : Heap) : Prop :=
  ∃ (done rest : List Pc) (sd : Bool) (toks : List (Str × Tok)) (nn : Nat) (tab : Array Value) (mm : Str → Option Value) (u1 u2 : Tok), ps = done ++ rest ∧ (sd = true → rest = [] ∧ star = true) ∧ k = rest.length + (if star && !sd then 1 else 0) ∧ toks.map (·.1) = done.map (fun x => S x.tr) ∧ TabFine tab ∧
    mm "pat" = some (.str (S l) t) ∧ mm "STAR" = some (.ref st) ∧ mm "QUESTION_MARK" = some (.str (S [46]) t2) ∧ mm "res" = some (.ref D) ∧ mm "add" = some (.ref M) ∧ mm "i" = some (.int ((srcs done).length + sdn sd : Nat) u1) ∧ mm "n" = some (.int (l.length : Int) u2) ∧
    Fr g L' h mm ∧ News g L' h (ledT M D st toks sd nn tab ++ news)
theorem JT.start {g : Heap} {L' M D st : Addr} {news : Led} {ps : List Pc} {star : Bool} {l : List Nat} {t t2 : Tok} {h : Heap} {tab : Array Value} {mm : Str → Option Value} {u1 u2 : Tok} (htab : TabFine tab)
    (h1 : mm "pat" = some (.str (S l) t)) (h2 : mm "STAR" = some (.ref st)) (h3 : mm "QUESTION_MARK" = some (.str (S [46]) t2)) (h4 : mm "res" = some (.ref D)) (h5 : mm "add" = some (.ref M)) (h6 : mm "i" = some (.int 0 u1)) (h7 : mm "n" = some (.int (l.length : Int) u2))
    (F : Fr g L' h mm) (N : News g L' h (ledT M D st [] false 0 tab ++ news)) : JT g L' M D st news ps star l t t2 (ps.length + if star then 1 else 0) h :=
  ⟨[], ps, false, [], 0, tab, mm, u1, u2, rfl, fun e => absurd e (by decide), by cases star <;> rfl, rfl, htab, h1, h2, h3, h4, h5, h6, h7, F, N⟩
theorem JT.step {g : Heap} {L' M D st : Addr} {news : Led} {ps done r : List Pc} {x : Pc} {star : Bool} {l : List Nat} {t t2 tk9 : Tok} {k nn : Nat} {h : Heap} {tab : Array Value} {toks : List (Str × Tok)} {mm : Str → Option Value} {u1 u2 : Tok} {z : Int} (hps : ps = done ++ x :: r) (hk : k = (x :: r).length + if (star && !false) = true then 1 else 0) (htk : toks.map (·.1) = done.map (fun x => S x.tr)) (htab : TabFine tab)
    (h1 : mm "pat" = some (.str (S l) t)) (h2 : mm "STAR" = some (.ref st)) (h3 : mm "QUESTION_MARK" = some (.str (S [46]) t2)) (h4 : mm "res" = some (.ref D)) (h5 : mm "add" = some (.ref M)) (h6 : mm "i" = some (.int z u1)) (h7 : mm "n" = some (.int (l.length : Int) u2)) (hz : z = ((srcs done).length : Int) + (x.src.length : Int))
    (F : Fr g L' h mm) (N : News g L' h ((M, bmO D) :: (D, listOf ((strValues toks).toArray.push (.str (S x.tr) tk9)) (nn + 1)) :: (153, tabObj tab) :: news)) : ∃ m, m < k ∧ JT g L' M D st news ps star l t t2 m h := by
  refine ⟨r.length + if (star && !false) = true then 1 else 0, by rw [hk]; simp only [List.length_cons]; omega, done ++ [x], r, false, toks ++ [(S x.tr, tk9)], nn + 1, tab, mm, u1, u2, by rw [hps]; simp, fun e => absurd e (by decide), rfl, by simp [htk], htab, h1, h2, h3, h4, h5, ?_, h7, F, ?_⟩
  · rw [h6, hz]
    have : (srcs (done ++ [x])).length = (srcs done).length + x.src.length := by simp [srcs]
    rw [this]; simp [sdn]
  · rw [strs_append] at N
    simpa [ledT] using N
theorem JT.starred {g : Heap} {L' M D st : Addr} {news : Led} {ps : List Pc} {l : List Nat} {t t2 : Tok} {k nn : Nat} {h : Heap} {tab : Array Value} {toks : List (Str × Tok)} {mm : Str → Option Value} {u1 u2 : Tok} {z : Int} (hk : k = ([] : List Pc).length + if (true && !false) = true then 1 else 0) (htk : toks.map (·.1) = ps.map (fun x => S x.tr)) (htab : TabFine tab)
    (h1 : mm "pat" = some (.str (S l) t)) (h2 : mm "STAR" = some (.ref st)) (h3 : mm "QUESTION_MARK" = some (.str (S [46]) t2)) (h4 : mm "res" = some (.ref D)) (h5 : mm "add" = some (.ref M)) (h6 : mm "i" = some (.int z u1)) (h7 : mm "n" = some (.int (l.length : Int) u2)) (hz : z = ((srcs ps).length : Int) + 1)
    (F : Fr g L' h mm) (N : News g L' h ((M, bmO D) :: (D, listOf ((strValues toks).toArray.push (.ref st)) (nn + 1)) :: (153, tabObj tab) :: news)) : ∃ m, m < k ∧ JT g L' M D st news ps true l t t2 m h := by
  refine ⟨0, by rw [hk]; decide, ps, [], true, toks, nn + 1, tab, mm, u1, u2, by simp, fun _ => ⟨rfl, rfl⟩, rfl, htk, htab, h1, h2, h3, h4, h5, ?_, h7, F, ?_⟩
  · rw [h6, hz]; simp [sdn]
  · have e : (strValues toks).toArray.push (Value.ref st) = (strValues toks ++ [Value.ref st]).toArray := by simp
    rw [e] at N
    simpa [ledT] using N
theorem truthyL {prog : Program} {w : World} {A : Around} {E : Value → Shared → Prop} {s : Shared} {D : Addr} {its : Array Value} {Q : Bool → Shared → Prop} {r : Bool} (hl : s.heap.IsList D its) (hsz : its.size ≤ 1048576) (hr : (!its.isEmpty) = r) (h : Q r { s with toks := s.toks + 1 + 1 }) : wpAny (model prog w) A (truthy (.ref D)) Q E s :=
  wpAny_truthy_list hl (by omega) (by rw [hr]; exact h)
theorem itemL_neg {prog : Program} {w : World} {A : Around} {E : Value → Shared → Prop} {s : Shared} {value slice : Expr} {D : Addr} {its : Array Value} {k : Int} {u : Tok} {x : Value} {Q : Value → Shared → Prop} (hl : s.heap.IsList D its) (h0 : k < 0) (h1 : -(its.size : Int) ≤ k) (hsz : its.size ≤ 1048576) (hx : its[(k + its.size).toNat]? = some x) (h : Q x s)
    (hs : subscripted slice false (.ref D) (.int k u) = operate [.ref D, .int k u] (getItem (.ref D) (.int k u)) := by with_unfolding_all rfl) (ht : ∀ r, letTemporaryGo value (.ref D) r = pure () := by intro _; with_unfolding_all rfl) :
    wpAny (model prog w) A (subscriptTail value slice (.ref D) (.int k u)) Q E s := by
  exact subscriptTail_builtin hl.typeIs slot_list_getitem.lookup (wpAny_getItem_list_neg hl h0 h1 (by omega) hx h) hs ht
theorem d_trans (ps : List Pc) (star : Bool) (l : List Nat) (hl : l = srcs ps ++ if star then [42] else []) (st : Addr) (tab : Array Value) (t t2 : Tok) (hok : ∀ x ∈ ps, x.Ok) (hlen : ps.length ≤ 10) (htab : TabFine tab) : DoesG PySem.Challenge.rw_in0284_01.row.prog w (hd0.heap_1 w.params) p loose mean mg mb 12 158 [.str (S l) t, .ref st, .str (S [46]) t2] [(153, tabObj tab)] (fun _ => True)
    (fun v own => ∃ (D : Addr) (tab' : Array Value) (toks : List (Str × Tok)) (n : Nat), v = .ref D ∧ own = [(D, listOf (strValues toks ++ if star then [Value.ref st] else []).toArray n), (153, tabObj tab')] ∧ toks.map (·.1) = ps.map (fun x => S x.tr) ∧ TabFine tab') := by
  have hll : l.length ≤ 41 := by
    have := srcs_len hlen
    rw [hl]; cases star <;> simp <;> omega
  unfold DoesG
  k_fill
  intro dp un gd cn cs a ccd cl outer A₀ base h₀ L m news s Q B F X N hap hrd T hk hr hu hgens hret
  refine enter (binds := [("pat", .str (S l) t), ("STAR", .ref st), ("QUESTION_MARK", .str (S [46]) t2)]) (by k_is) (by k_is) (BindsTo.of_eq rfl) (locs rfl) rfl rfl rfl (by decide) B F X N T hk (by omega) ?_
  intro g L' h₁ tk0 F' N' B' X' T'
  obtain ⟨vs9, hpat, hcode, hpo⟩ := pat132 (w := w) rfl X'
  k_steps
  rename Fr _ _ _ _ => F2
  rename News _ _ _ _ => N2
  rename_i D _ hD0 _
  have hD : ∀ p ∈ ([(153, tabObj tab)] ++ news : Led), p.1 ≠ D := fun p hp => Nat.ne_of_lt (hD0 p hp)
  refine attr_append F2 N2 ?_
  intro M h3 tk3 F3 N3 hDM hM
  clear F2 N2
  k_steps
  refine while_do ?_
  rename Fr _ _ _ _ => F2
  rename News _ _ _ _ => N2
  replace N2 : News g L' _ (ledT M D st [] false 0 tab ++ news) := news_sub N2 fun p hp => .tail _ hp
  refine while_indG (J := JT g L' M D st news ps star l t t2) (ps.length + if star then 1 else 0) hgens (JT.start htab rfl rfl rfl rfl rfl rfl rfl F2 N2) ?_
  rintro k h gs dr tk hgs ⟨done, rest, sd, toks, nn, tab1, mm, u1, u2, hps, hsd, hk9, htk, htb, h1, h2, h3, h4, h5, h6, h7, F, N⟩
  have hnD2 : ∀ tb : Array Value, ∀ p ∈ ((153, tabObj tb) :: news : Led), p.1 ≠ D := by
    intro tb p hp
    rcases List.mem_cons.mp hp with rfl | hp
    · exact hD (153, tabObj tab) (List.mem_append_left _ (.head _))
    · exact hD p (List.mem_append_right _ hp)
  have hnD : ∀ p ∈ ((153, tabObj tab1) :: news : Led), p.1 ≠ D := by
    intro p hp
    rcases List.mem_cons.mp hp with rfl | hp
    · exact hD (153, tabObj tab) (List.mem_append_left _ (.head _))
    · exact hD p (List.mem_append_right _ hp)
  have hpre153 : ∀ (its : Array Value) (nx : Nat), ∀ p ∈ ([(M, bmO D), (D, listOf its nx)] : Led), p.1 ≠ 153 := by
    have q1 : (153 : Addr) ≠ D := hD (153, tabObj tab) (List.mem_append_left _ (.head _))
    have q2 : (153 : Addr) ≠ M := hM (153, tabObj tab) (List.mem_append_left _ (.head _))
    intro its nx p hp
    simp only [List.mem_cons, List.not_mem_nil, or_false] at hp
    rcases hp with rfl | rfl
    · exact fun e => q2 e.symm
    · exact fun e => q1 e.symm
  have hpost153 : ∀ p ∈ news, p.1 ≠ 153 := fun p hp => hap (153, _) (.head _) p hp
  replace F := fr_puts F [("pat", .str (S l) t), ("STAR", .ref st), ("QUESTION_MARK", .str (S [46]) t2), ("res", .ref D), ("add", .ref M), ("i", .int ((srcs done).length + sdn sd : Nat) u1), ("n", .int (l.length : Int) u2)] (List.forall_mem_cons.mpr ⟨h1, List.forall_mem_cons.mpr ⟨h2, List.forall_mem_cons.mpr ⟨h3, List.forall_mem_cons.mpr ⟨h4, List.forall_mem_cons.mpr ⟨h5, List.forall_mem_cons.mpr ⟨h6, List.forall_mem_cons.mpr ⟨h7, List.forall_mem_nil _⟩⟩⟩⟩⟩⟩⟩)
  dsimp only [kstB] at F
  clear h1 h2 h3 h4 h5 h6 h7
  cases rest with
  | cons x r =>
    have hsf : sd = false := by
      cases sd with
      | false => rfl
      | true => exact nomatch (hsd rfl).1
    subst hsf
    have hld : l = srcs done ++ (x.src ++ (srcs r ++ if star then [42] else [])) := by
      rw [hl, hps]; simp [srcs]
    generalize hi : (srcs done).length = i at F
    simp only [sdn, Nat.add_zero] at F
    have hat : ∀ k c, x.src[k]? = some c → AtOff l i k c := by
      intro k c hk
      unfold AtOff
      rw [hld, ← hi, List.getElem?_append_right (by omega), show (srcs done).length + k - (srcs done).length = k by omega, List.getElem?_append_left (List.getElem?_eq_some_iff.mp hk).1, hk]
    have hsz : (strValues toks).toArray.size ≤ 1048576 := by
      have h1 := congrArg List.length htk
      have h2 := congrArg List.length hps
      simp only [List.length_map, List.length_append, List.length_cons] at h1 h2
      simp only [strValues, List.size_toArray, List.length_map]; omega
    have hin : i + x.src.length ≤ l.length := by rw [hld, ← hi]; simp
    unfold ledT at N
    simp only [List.cons_append, List.nil_append, Bool.false_eq_true, if_false, List.append_nil] at N
    cases x with
    | any => as_aux_lemma =>
      have a0 : AtOff l i 0 63 := hat 0 63 rfl
      simp only [Pc.src, List.length_cons, List.length_nil] at hin
      k_steps
      rename Fr _ _ _ _ => F9
      rename News _ _ _ _ => N9
      refine call_bm F9 N9 hnD hsz ?_
      intro h10 F10 N10
      k_steps
      rename Fr _ _ _ _ => F11
      rename News _ _ _ _ => N11
      exact AfterG.next hgs (JT.step (x := .any) hps hk9 htk htb rfl rfl rfl rfl rfl rfl rfl (by rw [hi]; rfl) F11 N11)
    | bar c =>
      by_cases hc45 : c = 45
      · as_aux_lemma =>
        subst hc45
        have a0 : AtOff l i 0 91 := hat 0 91 rfl
        have a1 : AtOff l i 1 33 := hat 1 33 rfl
        have a2 : AtOff l i 2 45 := hat 2 45 rfl
        have a3 : AtOff l i 3 93 := hat 3 93 rfl
        have hin3 : i + 4 ≤ l.length := hin
        have s1 : SlOff l i 1 2 [33, 45] := slOff_mid hld hi (by decide) rfl
        k_steps
        refine while_do (while_step ?_)
        k_steps
        refine while_step ?_
        k_steps
        show wpAny _ _ _ _ _ _
        k_steps
        refine while_do (while_step ?_)
        k_steps
        refine find4_none (by omega) (by omega) (by rw [S_length]; omega) (by decide +kernel) ?_
        k_steps
        show wpAny _ _ _ _ _ _
        k_steps
        refine for_do ?_
        k_steps
        rename IsRange _ _ _ _ _ _ _ _ => hR
        rename Fr _ _ _ _ => F9
        rename News _ _ _ _ => N9
        refine iter_ranC F9 N9 hR (by decide) ?_
        intro I h10 F10 N10 hne10
        refine for_step (next_ranC_end rfl F10 N10 hne10 (by decide) ?_)
        intro h11 F11 N11
        clear F9 N9 F10 N10
        show wpAny _ _ (execs [] _) _ _ _
        k_steps
        show wpAny _ _ _ _ _ _
        k_steps
        rename Fr _ _ _ _ => F9
        rename News _ _ _ _ => N9
        refine gen_led (c := 157) (P := 153) (pre := [_, _, _]) (h₀ := g) (pz := fun _ => true) (Fv := fun _ v => ∃ u, v = .str (S [33, 92, 45]) u) F9 N9 T' (code157 (w := w) rfl X') rfl ?_ hpost153 htb hgs rfl (by k_room) (isList_of N9 (.head _)) ?_ ?_ ?_
        · intro p hp
          rcases List.mem_cons.mp hp with rfl | hp
          · exact news_ne N9 (.head _) (.tail _ (.tail _ (.tail _ (.head _)))) (by simp [tabObj])
          · exact hpre153 _ _ p hp
        · intro Q' hQ'
          k_steps
          exact hQ'
        · intro C' code fp wr href
          refine ⟨fun A' E' i v s₂ m₂ _ _ _ _ _ => ?_, fun A' E' i v s₂ m₂ _ hv _ hns hms _ => ?_⟩
          · rw [List.forIn_nil]; exact wpAny_pure ⟨rfl, s₂.heap, s₂.toks, rfl, fun _ _ e => e⟩
          · have hv2 : ∃ t9, v = .str (S [33, 45]) t9 := by
              cases i with
              | zero => simp at hv; exact ⟨_, hv.symm⟩
              | succ i => simp at hv
            obtain ⟨t9, rfl⟩ := hv2
            exact dash_elt rfl rfl hns hms rfl rfl
        · intro b ps' gs2 h' tk htb2 G2 F10 N10 X10 hnK hLK
          clear F9 N9 F N
          k_steps
          rename Fr _ _ _ _ => F9
          rename News _ _ _ _ => N9
          refine join_led2 (sep := [45]) (ls := [[33, 92, 45]]) F9 N9 G2 X10 hLK hnK lit_min (by rfl) ?_ (S [33, 92, 45]) (show Txt.join (S [45]) ((List.range 1).map fun j => S (([[33, 92, 45]] : List (List Nat)).getD j [])) = S [33, 92, 45] by decide +kernel) (show JoinOk (S [45]) ((List.range 1).map fun j => S (([[33, 92, 45]] : List (List Nat)).getD j [])) = true by decide +kernel) (show 1 ≤ 1048576 by decide) ?_
          · rintro j v ⟨i, hi, u, rfl⟩
            cases j with
            | zero => exact ⟨u, rfl⟩
            | succ j => exact absurd hi (by show ¬ ([0] : List Nat)[j + 1]? = some i; simp)
          intro h11 gs3 dr3 tk3 t3 G3 F11 N11
          replace N11 := news_sub N11 fun p hp => .tail _ hp
          try simp only [List.cons_append, List.nil_append] at N11
          clear F9 N9
          k_steps
          rename Fr _ _ _ _ => F9
          rename News _ _ _ _ => N9
          refine gm_sub (let ⟨o, q1, q2⟩ := hpo; ⟨o, F9.keep _ _ q1, q2⟩) ?_
          k_steps
          rename Fr _ _ _ _ => F9
          rename News _ _ _ _ => N9
          refine lam_any (c := 157) (P := 153) (pre := [_, _]) (h₀ := g) F9 N9 T' (code157 (w := w) rfl X') rfl (hpre153 _ _) hpost153 htb2 rfl rfl ?_
          intro f o tab2 h9 tk9 ho htb3 F9 N9
          k_steps
          rename Fr _ _ _ _ => F9
          rename News _ _ _ _ => N9
          refine call_sub 20 (by decide) (by decide) (by decide) (hpat.keeps F9.keep) ⟨o, (N9 _ (.head _)).1, ho⟩ (by rw [hcode]; exact of_failed nothing_found1) ?_
          intro h10 t10 k10 hk10
          replace F9 := fr_keeps F9 hk10
          replace N9 := news_keeps (news_sub N9 fun p hp => .tail _ hp) hk10
          simp only [List.cons_append, List.nil_append] at N9
          try clear F11 N11
          k_steps
          rename Fr _ _ _ _ => F9
          rename News _ _ _ _ => N9
          rw [fstr]
          refine call_bm F9 (news_sub N9 fun p hp => hp) (hnD2 tab2) hsz ?_
          intro h11 F10 N10
          k_steps
          rename Fr _ _ _ _ => F11
          rename News _ _ _ _ => N11
          exact AfterG.next G3 (JT.step (x := .bar 45) hps hk9 htk htb3 rfl rfl rfl rfl rfl rfl rfl (by rw [hi]; show _ = (i : Int) + 4; omega) F11 N11)
      · as_aux_lemma =>
        have hc : c ∈ (63 :: plainSigns : List Nat) := by
          rcases List.mem_cons.mp (hok (.bar c) (by rw [hps]; simp)) with h | h
          · exact h ▸ .head _
          · rcases List.mem_cons.mp h with h | h
            · exact absurd h hc45
            · exact .tail _ h
        have a0 : AtOff l i 0 91 := hat 0 91 rfl
        have a1 : AtOff l i 1 33 := hat 1 33 rfl
        have a2 : AtOff l i 2 c := hat 2 c rfl
        have a3 : AtOff l i 3 93 := hat 3 93 rfl
        have hin3 : i + 4 ≤ l.length := hin
        have s1 : SlOff l i 1 2 [33, c] := slOff_mid hld hi (by simp [Pc.src]) rfl
        have e1 := sgn_ne hc lit_c (by decide)
        have e2 := sgn_ne' hc lit_c (by decide)
        have e3 := no_dash c hc
        have e4 := no_bs c hc
        have e5 := two_ne (c := c)
        k_steps
        refine while_do (while_step ?_)
        k_steps
        refine while_step ?_
        k_steps
        show wpAny _ _ _ _ _ _
        k_steps
        rename Fr _ _ _ _ => F9
        rename News _ _ _ _ => N9
        refine gm_sub (let ⟨o, q1, q2⟩ := hpo; ⟨o, F9.keep _ _ q1, q2⟩) ?_
        k_steps
        rename Fr _ _ _ _ => F9
        rename News _ _ _ _ => N9
        refine lam_any (c := 157) (P := 153) (pre := [_, _]) (h₀ := g) F9 N9 T' (code157 (w := w) rfl X') rfl (hpre153 _ _) hpost153 htb rfl rfl ?_
        intro f o tab2 h9 tk9 ho htb2 F9 N9
        k_steps
        rename Fr _ _ _ _ => F9
        rename News _ _ _ _ => N9
        refine call_sub 20 (by decide) (by simp) (by simp) (hpat.keeps F9.keep) ⟨o, (N9 _ (.head _)).1, ho⟩ (by rw [hcode]; exact of_failed (nothing_found0 c hc)) ?_
        intro h10 t10 k10 hk10
        replace F9 := fr_keeps F9 hk10
        replace N9 := news_keeps (news_sub N9 fun p hp => .tail _ hp) hk10
        simp only [List.cons_append, List.nil_append] at N9
        clear F N
        k_steps
        rename Fr _ _ _ _ => F9
        rename News _ _ _ _ => N9
        rw [fstr]
        refine call_bm F9 (news_sub N9 fun p hp => hp) (hnD2 tab2) hsz ?_
        intro h11 F10 N10
        k_steps
        rename Fr _ _ _ _ => F11
        rename News _ _ _ _ => N11
        exact AfterG.next hgs (JT.step (x := .bar c) hps hk9 htk htb2 rfl rfl rfl rfl rfl rfl rfl (by rw [hi]; show _ = (i : Int) + 4; omega) F11 (by rw [show (Pc.bar c).tr = [91, 94, c, 93] from if_neg hc45]; exact N11))
    | ask c =>
      by_cases hc63 : c = 63
      · as_aux_lemma =>
        subst hc63
        have a0 : AtOff l i 0 91 := hat 0 91 rfl
        have a1 : AtOff l i 1 63 := hat 1 63 rfl
        have a2 : AtOff l i 2 93 := hat 2 93 rfl
        have hin3 : i + 3 ≤ l.length := hin
        have s1 : SlOff l i 1 1 [63] := slOff_mid hld hi (by decide) rfl
        k_steps
        refine while_do (while_step ?_)
        k_steps
        refine while_step ?_
        k_steps
        show wpAny _ _ _ _ _ _
        k_steps
        rename Fr _ _ _ _ => F9
        rename News _ _ _ _ => N9
        refine gm_sub (let ⟨o, q1, q2⟩ := hpo; ⟨o, F9.keep _ _ q1, q2⟩) ?_
        k_steps
        rename Fr _ _ _ _ => F9
        rename News _ _ _ _ => N9
        refine lam_any (c := 157) (P := 153) (pre := [_, _]) (h₀ := g) F9 N9 T' (code157 (w := w) rfl X') rfl (hpre153 _ _) hpost153 htb rfl rfl ?_
        intro f o tab2 h9 tk9 ho htb2 F9 N9
        k_steps
        rename Fr _ _ _ _ => F9
        rename News _ _ _ _ => N9
        refine call_sub 20 (by decide) (by decide) (by decide) (hpat.keeps F9.keep) ⟨o, (N9 _ (.head _)).1, ho⟩ (by rw [hcode]; exact of_failed nothing_found2) ?_
        intro h10 t10 k10 hk10
        replace F9 := fr_keeps F9 hk10
        replace N9 := news_keeps (news_sub N9 fun p hp => .tail _ hp) hk10
        simp only [List.cons_append, List.nil_append] at N9
        clear F N
        k_steps
        rename Fr _ _ _ _ => F9
        rename News _ _ _ _ => N9
        rw [fstr]
        refine call_bm F9 (news_sub N9 fun p hp => .tail _ hp) (hnD2 tab2) hsz ?_
        intro h11 F10 N10
        k_steps
        rename Fr _ _ _ _ => F11
        rename News _ _ _ _ => N11
        exact AfterG.next hgs (JT.step (x := .ask 63) hps hk9 htk htb2 rfl rfl rfl rfl rfl rfl rfl (by rw [hi]; show _ = (i : Int) + 3; omega) F11 N11)
      · as_aux_lemma =>
        have hc : c ∈ (45 :: plainSigns : List Nat) := by
          rcases List.mem_cons.mp (hok (.ask c) (by rw [hps]; simp)) with h | h
          · exact absurd h hc63
          · exact h
        have hsrc : (Pc.ask c).src = [c] := if_neg hc63
        have htr : (Pc.ask c).tr = escList c := if_neg hc63
        have a0 : AtOff l i 0 c := hat 0 c (by rw [hsrc]; rfl)
        have e1 := sgn_ne hc lit_star (by decide)
        have e2 := sgn_ne hc lit_q (by decide)
        have e3 := sgn_ne hc lit_open (by decide)
        rw [hsrc] at hin
        simp only [List.length_cons, List.length_nil] at hin
        k_steps
        rename Fr _ _ _ _ => F9
        rename News _ _ _ _ => N9
        refine call_bm F9 N9 hnD hsz ?_
        intro h10 F10 N10
        k_steps
        rename Fr _ _ _ _ => F11
        rename News _ _ _ _ => N11
        exact AfterG.next hgs (JT.step (x := .ask c) hps hk9 htk htb rfl rfl rfl rfl rfl rfl rfl (by rw [hi, hsrc]; rfl) F11 (by rw [htr]; exact N11))
  | nil =>
    have hpd : done = ps := by rw [hps]; simp
    subst hpd
    have hsz : (strValues toks ++ if sd then [Value.ref st] else []).toArray.size ≤ 1048576 := by
      have h1 := congrArg List.length htk
      simp only [List.length_map] at h1
      simp only [strValues, List.size_toArray, List.length_append, List.length_map]
      cases sd <;> simp <;> omega
    generalize hi : (srcs done).length = i at F
    by_cases hst : star = true ∧ sd = false
    · obtain ⟨rfl, rfl⟩ := hst
      have hld : l = srcs done ++ [42] := by rw [hl]; simp
      have a0 : AtOff l i 0 42 := by
        unfold AtOff
        rw [hld, ← hi, Nat.add_zero, List.getElem?_append_right (by omega)]; simp
      have hin : i + 1 = l.length := by rw [hld, ← hi]; simp
      simp only [sdn, Nat.add_zero] at F
      unfold ledT at N
      simp only [List.cons_append, List.nil_append, Bool.false_eq_true, if_false, List.append_nil] at N
      simp only [Bool.false_eq_true, if_false, List.append_nil] at hsz
      cases toks with
      | nil => as_aux_lemma =>
        k_steps
        rename News _ _ _ _ => N9
        refine truthyL (r := false) (isList_of N9 (.tail _ (.head _))) hsz rfl ?_
        k_steps
        rename Fr _ _ _ _ => F9
        rename News _ _ _ _ => N9
        refine call_bm F9 N9 hnD hsz ?_
        intro h10 F10 N10
        k_steps
        rename Fr _ _ _ _ => F11
        rename News _ _ _ _ => N11
        exact AfterG.next hgs (JT.starred hk9 htk htb rfl rfl rfl rfl rfl rfl rfl (by rw [hi]) F11 N11)
      | cons y ys => as_aux_lemma =>
        have hlast : ∃ z tz, (strValues (y :: ys)).toArray[((-1 : Int) + ((strValues (y :: ys)).toArray.size : Int)).toNat]? = some (Value.str z tz) := by
          have e : ((-1 : Int) + ((strValues (y :: ys)).toArray.size : Int)).toNat = ys.length := by simp [strValues]; omega
          rw [e]
          have h2 : ys.length < (y :: ys).length := Nat.lt_succ_self _
          refine ⟨((y :: ys)[ys.length]).1, ((y :: ys)[ys.length]).2, ?_⟩
          unfold strValues
          rw [List.getElem?_toArray, List.getElem?_map, List.getElem?_eq_getElem h2]; rfl
        obtain ⟨z9, tz9, hlast⟩ := hlast
        k_steps
        rename News _ _ _ _ => N9
        refine truthyL (r := true) (isList_of N9 (.tail _ (.head _))) hsz (by simp [strValues]) ?_
        k_steps
        rename News _ _ _ _ => N9
        refine itemL_neg (isList_of N9 (.tail _ (.head _))) (by decide) (by simp [strValues]; omega) hsz hlast ?_
        k_steps
        refine wpAny_isNot_other (by rfl) (by intro x; cases x) ?_
        k_steps
        rename Fr _ _ _ _ => F9
        rename News _ _ _ _ => N9
        refine call_bm F9 N9 hnD hsz ?_
        intro h10 F10 N10
        k_steps
        rename Fr _ _ _ _ => F11
        rename News _ _ _ _ => N11
        exact AfterG.next hgs (JT.starred hk9 htk htb rfl rfl rfl rfl rfl rfl rfl (by rw [hi]) F11 N11)
    · have hin : i + sdn sd = l.length := by
        rw [hl, ← hi]
        cases sd with
        | true => obtain ⟨_, rfl⟩ := hsd rfl; simp [sdn]
        | false =>
          have : star = false := by
            cases star with
            | true => exact absurd ⟨rfl, rfl⟩ hst
            | false => rfl
          subst this; simp [sdn]
      have hsame : sd = star := by
        cases sd with
        | true => exact (hsd rfl).2.symm
        | false => cases star with
          | true => exact absurd ⟨rfl, rfl⟩ hst
          | false => rfl
      subst hsame
      unfold ledT at N
      simp only [List.cons_append, List.nil_append] at N
      k_steps
      show wpAny _ _ _ _ _ _
      k_steps
      rename Fr h₀ _ _ _ => F6
      rename News h₀ _ _ _ => N6
      refine hret _ _ _ _ _ _ hgs ⟨D, tab1, toks, nn, rfl, rfl, htk, htb⟩ F6 (news_sub N6 fun p hp => .tail _ hp) ?_
      intro p hp q hq
      simp only [List.mem_cons, List.not_mem_nil, or_false] at hp
      rcases hp with rfl | rfl
      · exact hD q (List.mem_append_right _ hq)
      · exact hpost153 q hq
end
end Mine
end
section
open PySem PySem.W PyProof.Rows PySem.Calls PySem.Spec
set_option maxRecDepth 100000
set_option maxHeartbeats 4000000
namespace Mine
theorem itemL {prog : Program} {w : World} {A : Around} {E : Value → Shared → Prop} {s : Shared} {value slice : Expr} {D : Addr} {its : Array Value} {k : Int} {i : Nat} {u : Tok} {x : Value} {Q : Value → Shared → Prop} (hl : s.heap.IsList D its) (hk : k = (i : Int)) (hx : its[i]? = some x) (hsz : its.size ≤ 1048576) (h : Q x s)
    (hs : subscripted slice false (.ref D) (.int k u) = operate [.ref D, .int k u] (getItem (.ref D) (.int k u)) := by with_unfolding_all rfl) (ht : ∀ r, letTemporaryGo value (.ref D) r = pure () := by intro _; with_unfolding_all rfl) :
    wpAny (model prog w) A (subscriptTail value slice (.ref D) (.int k u)) Q E s := by
  subst hk
  have hlt : i < its.size := (Array.getElem?_eq_some_iff.mp hx).1
  exact item_list hl (by omega) (by omega) (by simpa using hx) h hs ht
section
variable {w : World} {p : Program} {loose : List Str} {mean : ExcName → Option Value} {mg mb : Str → Option Value}
theorem lines_TJ1 : True := by
  k_with_none
  k_with "my steps" => repeat' ((fail_if_success (with_reducible show wpAny _ _ (subscriptTail _ _ (Value.ref _) (Value.int _ _)) _ _ _)); (fail_if_success (with_reducible show wpAny _ _ (compareOp CmpOp.IsNot (Value.str _ _) _) _ _ _)); (fail_if_success (with_reducible show wpAny _ _ (call (Value.builtin "len") [Value.ref _]) _ _ _)); (fail_if_success (with_reducible show wpAny _ _ (call (Value.builtin "str.join") _) _ _ _)); (fail_if_success (with_reducible show wpAny _ _ (getAttr _ _ _) _ _ _)); (fail_if_success (with_reducible show wpAny _ _ (truthy (Value.ref _)) _ _ _)); (fail_if_success (with_reducible show wpAny _ _ (exec (Stmt.For _ _ _ _ _) _) _ _ _)); (fail_if_success (with_reducible show wpAny _ _ (exec (Stmt.While _ _ _ _) _) _ _ _)); first | walk1 | (dsimp only; walk1) | (dsimp only [List.cons_append, List.nil_append]; walk1) | (leave1; walk_say "STEP leave1"; try dsimp only) | fail "no step")
  k_with "my ite" => first | (refine ite_neg (by simp only [decide_eq_true_eq, beq_iff_eq, bne_iff_ne, ne_eq]; omega) ?_) | (refine ite_pos (by simp only [decide_eq_true_eq, beq_iff_eq, bne_iff_ne, ne_eq]; omega) ?_)
  k_with "my callWith" => ((with_reducible show wpAny _ _ (callWith _ (Value.ref _) [] _ []) _ _ _); refine callWith_B ?_)
  k_with "my joinParts" => first | refine joinParts_nil ?_ (by assumption) | refine joinParts_nilE (joinParts_nil ?_ (by assumption))
  k_with "my BmAt" => exact BmAt.of (by k_asm) (by k_mem)
  k_with "my room" => ((try simp only [depth_under_make, depth_under_kw, depth_in1, depth_deeper, depth_caller]); (try dsimp only [ktrTop]); omega)
  k_with "ev op" => first | exact Op2.addi | exact Op2.subi | exact Op2.modi (by decide) | exact Op2.andi
  k_with "ev at" => fail "no item"
  k_with "ev" => first
    | ((with_reducible show Ev _ (Expr.Name _ _) _ _ _); exact Ev.name (by k_asm) (by rfl) (by rfl) (by rfl) (by decide))
    | ((with_reducible show Ev _ (Expr.Constant _ _ _) _ _ _); first | exact Ev.int | exact Ev.strc | exact Ev.boolc | exact Ev.nonec)
    | ((with_reducible show Ev _ (Expr.BinOp _ _ _ _) _ _ _); exact Ev.bin (by k_extra "ev") (by k_extra "ev") (by k_extra "ev op"))
    | ((with_reducible show Ev _ (Expr.Subscript _ (Expr.Name _ _) _) _ _ _); exact Ev.item (by k_extra "ev") (by k_extra "ev") (by omega) (by k_extra "ev at") (by first | omega | simp) (by with_unfolding_all rfl) (by intro _; with_unfolding_all rfl))
    | ((with_reducible show Ev _ (Expr.Subscript _ (Expr.Constant _ _ _) _) _ _ _); exact Ev.item (by k_extra "ev") (by k_extra "ev") (by decide) (by first | rfl | k_extra "ev at") (by first | omega | simp) (by with_unfolding_all rfl) (by intro _; with_unfolding_all rfl))
    | ((with_reducible show Ev _ (Expr.IfExp _ _ _ _) _ _ _); exact Ev.ifexp (by k_extra "tr") (by first | exact EvB.t (by k_extra "ev") | exact EvB.f (by k_extra "ev")))
  k_with "evl" => first
    | exact EvL.nil
    | ((with_reducible show EvL _ (_ :: _) _ _ _); exact EvL.cons (by k_extra "ev") (by k_extra "evl") (by rfl))
  k_with "ev dec" => first | exact dT (by omega) | exact dF (by omega)
  k_with "ev sdec" => first | with_reducible assumption | exact asF (by decide +kernel) | exact asT (by decide +kernel)
  k_with "ev cmp" => first
    | ((with_reducible show Cm2 _ _ (Value.str _ _) (Value.str _ _) _ _); first
      | ((with_reducible show Cm2 _ CmpOp.Eq _ _ _ _); exact Cm2.eqs (by k_extra "ev sdec"))
      | ((with_reducible show Cm2 _ CmpOp.NotEq _ _ _ _); exact Cm2.nes (by k_extra "ev sdec"))
      | ((with_reducible show Cm2 _ CmpOp.NotIn _ _ _ _); exact Cm2.notins (by k_extra "ev sdec")))
    | ((with_reducible show Cm2 _ _ (Value.int _ _) (Value.int _ _) _ _); first
      | ((with_reducible show Cm2 _ CmpOp.Lt _ _ _ _); exact Cm2.lti (by k_extra "ev dec"))
      | ((with_reducible show Cm2 _ CmpOp.GtE _ _ _ _); exact Cm2.gei (by k_extra "ev dec"))
      | ((with_reducible show Cm2 _ CmpOp.Eq _ _ _ _); exact Cm2.eqi (by k_extra "ev dec")))
  k_with "trb" => first
    | exact TrAB.f
    | ((with_reducible show TrAB _ _ _ true _ _); exact TrAB.t (by k_extra "tra"))
  k_with "tra" => first
    | exact TrA.nil
    | ((with_reducible show TrA _ (_ :: _) _ _ _); exact TrA.cons (by k_extra "tr") (by k_extra "trb"))
  k_with "tr" => first
    | ((with_reducible show Tr _ (Expr.Compare _ [_] [_] _) _ _ _); exact Tr.cmp (by k_extra "ev") (by k_extra "ev") (by k_extra "ev cmp") (by with_unfolding_all rfl))
    | ((with_reducible show Tr _ (Expr.BoolOp BoolOp.And _ _) _ _ _); exact Tr.and (by k_extra "tra"))
    | ((with_reducible show Tr _ (Expr.UnaryOp UnaryOp.Not _ _) _ _ _); exact Tr.not (by k_extra "tr") (by rfl))
    | exact Tr.boolc
    | ((with_reducible show Tr _ (Expr.Name _ _) _ _ _); exact Tr.strp (by k_extra "ev") (by with_reducible rfl) (by first | omega | simp) (by first | rfl | (refine asT ?_; simp)) (by rfl))
  k_with "my execs cons" => (fail_if_success have : Mine.Full := trivial); first
    | ((with_reducible show wpAny _ _ (execs (Stmt.Assign [Expr.Name _ _] _ _ :: _) _) _ _ _); (fail_if_success (with_reducible show wpAny _ _ (execs (Stmt.Assign _ (Expr.Call _ _ _ _) _ :: _) _) _ _ _)); (fail_if_success (with_reducible show wpAny _ _ (execs (Stmt.Assign _ (Expr.Subscript _ (Expr.Slice _ _ _ _) _) _ :: _) _) _ _ _)); k_dflt (refine st_assign (by k_extra "ev") (by k_asm) (by k_asm) ?_ (by rfl) (by rfl) (by rfl)); intro _ _ _; (try k_sweep))
    | ((with_reducible show wpAny _ _ (execs (Stmt.If _ _ _ _ :: _) _) _ _ _); k_dflt (refine st_if (by k_extra "tr") ?_); dsimp only [pick, glue])
    | ((with_reducible show wpAny _ _ (execs (Stmt.Assign [Expr.Name _ _] _ _ :: _) _) _ _ _); k_dflt (refine st_assignC ?_ (by rfl)))
    | ((with_reducible show wpAny _ _ (execs (Stmt.Expr _ _ :: _) _) _ _ _); k_dflt (refine st_expr ?_ (by rfl) (by rfl)))
    | ((with_reducible show wpAny _ _ (execs (Stmt.Return (some _) _ :: _) _) _ _ _); k_dflt (refine st_ret ?_))
  k_with "my storeName" => ((fail_if_success have : Mine.Full := trivial); k_dflt (refine storeP (by k_asm) (by k_asm) ?_ (by rfl) (by rfl)); intro _ _ _; (try k_sweep))
  k_with "my isTrue Compare" => ((fail_if_success have : Mine.Full := trivial); k_dflt (refine tr_use (by k_extra "tr") ?_); (try dsimp only))
  k_with "my isTrue BoolOp" => ((fail_if_success have : Mine.Full := trivial); (with_reducible show wpAny _ _ (isTrue (Expr.BoolOp BoolOp.And (_ :: _ :: _) _) _ _) _ _ _); k_dflt (refine tr_use (by k_extra "tr") ?_); (try dsimp only))
  k_with "my spliced" => ((fail_if_success have : Mine.Full := trivial); (with_reducible show wpAny _ _ (spliced (backTo _ (starEach (_ :: _) _))) _ _ _); k_dflt (refine args_ev (by k_extra "evl") ?_); (try dsimp only [List.cons_append, List.nil_append]))
  k_with "my eval Subscript" => ((fail_if_success have : Mine.Full := trivial); (with_reducible show wpAny _ _ (eval (Expr.Subscript _ (Expr.Slice _ _ none _) _) _) _ _ _); k_dflt (refine sub_slice (by k_extra "ev") (by first | exact EvP.none | exact EvP.some (by k_extra "ev")) (by first | exact EvP.none | exact EvP.some (by k_extra "ev")) ?_))
  trivial

theorem lit_ds : Str.ofString ".*" = S [46, 42] := by decide +kernel
theorem lit_s1 : Str.ofString "(?s:" = S [40, 63, 115, 58] := by decide +kernel
theorem lit_s2 : Str.ofString ")\\Z" = S [41, 92, 90] := by decide +kernel
theorem jstr0 (x : List Nat) : Str.empty ++ Str.ofString "(?s:" ++ S x = S ([40, 63, 115, 58] ++ x) := by
  rw [lit_s1, show Str.empty = S [] by decide +kernel, S_append, S_append]; rfl
theorem jstr (x : List Nat) : Str.empty ++ Str.ofString "(?s:" ++ S x ++ Str.ofString ")\\Z" = S ([40, 63, 115, 58] ++ x ++ [41, 92, 90]) := by
  rw [jstr0, lit_s2, S_append]
noncomputable def joined (parts : List (List Nat)) (star : Bool) : List Nat := [40, 63, 115, 58] ++ (parts.flatten ++ if star then [46, 42] else []) ++ [41, 92, 90]

noncomputable def JJ (g : Heap) (L' M D I st : Addr) (news : Led) (toks : List (Str × Tok)) (len : Nat) (k : Nat) (h : Heap) : Prop :=
  ∃ (i : Nat) (nn : Nat) (mm : Str → Option Value) (u1 u2 : Tok), i + k = toks.length ∧ mm "inp" = some (.ref I) ∧ mm "STAR" = some (.ref st) ∧ mm "res" = some (.ref D) ∧ mm "add" = some (.ref M) ∧ mm "i" = some (.int (i : Int) u1) ∧ mm "n" = some (.int (len : Int) u2) ∧
    Fr g L' h mm ∧ News g L' h ((M, bmO D) :: (D, listOf (strValues (toks.take i)).toArray nn) :: news)
theorem JJ.start {g : Heap} {L' M D I st : Addr} {news : Led} {toks : List (Str × Tok)} {len : Nat} {h : Heap} {mm : Str → Option Value} {u1 u2 : Tok}
    (h2 : mm "inp" = some (.ref I)) (h3 : mm "STAR" = some (.ref st)) (h4 : mm "res" = some (.ref D)) (h5 : mm "add" = some (.ref M)) (h6 : mm "i" = some (.int 0 u1)) (h7 : mm "n" = some (.int (len : Int) u2)) (F : Fr g L' h mm) (N : News g L' h ((M, bmO D) :: (D, listOf #[] 0) :: news)) : JJ g L' M D I st news toks len toks.length h :=
  ⟨0, 0, mm, u1, u2, Nat.zero_add _, h2, h3, h4, h5, h6, h7, F, N⟩
theorem JJ.step {g : Heap} {L' M D I st : Addr} {news : Led} {toks : List (Str × Tok)} {len i k nn : Nat} {x : Str × Tok} {h : Heap} {mm : Str → Option Value} {u1 u2 : Tok} {z : Int} (hik : i + k = toks.length) (hx : toks[i]? = some x)
    (h2 : mm "inp" = some (.ref I)) (h3 : mm "STAR" = some (.ref st)) (h4 : mm "res" = some (.ref D)) (h5 : mm "add" = some (.ref M)) (h6 : mm "i" = some (.int z u1)) (h7 : mm "n" = some (.int (len : Int) u2)) (hz : z = (i : Int) + 1) (F : Fr g L' h mm) (N : News g L' h ((M, bmO D) :: (D, listOf ((strValues (toks.take i)).toArray.push (.str x.1 x.2)) (nn + 1)) :: news)) : ∃ m, m < k ∧ JJ g L' M D I st news toks len m h := by
  have hi : i < toks.length := (List.getElem?_eq_some_iff.mp hx).1
  refine ⟨k - 1, by omega, i + 1, nn + 1, mm, u1, u2, by omega, h2, h3, h4, h5, by rw [h6, hz]; simp, h7, F, ?_⟩
  have e : (strValues (toks.take i)).toArray.push (Value.str x.1 x.2) = (strValues (toks.take (i + 1))).toArray := by
    rw [List.take_add_one, hx]; simp [strValues]
  rw [e] at N; exact N
theorem d_join (parts : List (List Nat)) (star : Bool) (I st : Addr) (toks : List (Str × Tok)) (n : Nat) (hp : toks.map (·.1) = parts.map S) (hlen : parts.length ≤ 10) (hb : parts.flatten.length ≤ 100) : Does PySem.Challenge.rw_in0284_01.row.prog w (hd0.heap_1 w.params) p loose mean mg mb 8 165 [.ref I, .ref st] [] (fun news => (I, listOf (strValues toks ++ if star then [Value.ref st] else []).toArray n) ∈ news)
    (fun v own => (∃ u, v = .str (S (joined parts star)) u) ∧ own = []) := by
  unfold Does
  k_fill
  intro dp un gd cn cs a ccd cl outer A₀ base h₀ L m news s Q B F X N hap hrd T hk hr hu hret
  refine enter (by k_is) (by k_is) (BindsTo.of_eq rfl) (locs rfl) rfl rfl rfl (by decide) B F X N T hk (by omega) ?_
  intro g L' h₁ tk0 F' N' B' X' T'
  rw [List.nil_append] at N'
  k_steps
  rename Fr _ _ _ _ => F2
  rename News _ _ _ _ => N2
  rename_i D _ hD0 _
  have hD : ∀ p ∈ (news : Led), p.1 ≠ D := fun p hp => Nat.ne_of_lt (hD0 p hp)
  refine attr_append F2 N2 ?_
  intro M h3 tk3 F3 N3 hDM hM
  clear F2 N2
  k_steps
  rename Fr _ _ _ _ => F2
  rename News _ _ _ _ => N2
  generalize hits : (strValues toks ++ if star then [Value.ref st] else []).toArray = its at hrd
  have hlt : toks.length ≤ 10 := by have := congrArg List.length hp; simp only [List.length_map] at this; omega
  have hsz : its.size = toks.length + if star then 1 else 0 := by rw [← hits]; cases star <;> simp [strValues]
  have hget : ∀ (i : Nat) (x : Str × Tok), toks[i]? = some x → its[i]? = some (Value.str x.1 x.2) := by
    intro i x hx
    have hi : i < toks.length := (List.getElem?_eq_some_iff.mp hx).1
    rw [← hits, List.getElem?_toArray, List.getElem?_append_left (by simp [strValues]; exact hi)]
    unfold strValues
    rw [List.getElem?_map, hx]; rfl
  have hsz2 : its.size ≤ 1048576 := by rw [hsz]; cases star <;> simp <;> omega
  refine call_len_list (isList_of N2 (.tail _ (.tail _ hrd))) (by omega) ?_
  k_steps
  refine while_do ?_
  rename Fr _ _ _ _ => F2
  rename News _ _ _ _ => N2
  refine while_ind (J := JJ g L' M D I st news toks its.size) toks.length (JJ.start rfl rfl rfl rfl rfl rfl F2 (news_sub N2 fun p hp => .tail _ hp)) ?_
  rintro k h tk ⟨i, nn, mm, u1, u2, hik, h2, h3, h4, h5, h6, h7, F, N⟩
  replace F := fr_puts F [("inp", .ref I), ("STAR", .ref st), ("res", .ref D), ("add", .ref M), ("i", .int (i : Int) u1), ("n", .int (its.size : Int) u2)] (List.forall_mem_cons.mpr ⟨h2, List.forall_mem_cons.mpr ⟨h3, List.forall_mem_cons.mpr ⟨h4, List.forall_mem_cons.mpr ⟨h5, List.forall_mem_cons.mpr ⟨h6, List.forall_mem_cons.mpr ⟨h7, List.forall_mem_nil _⟩⟩⟩⟩⟩⟩)
  dsimp only [kstB] at F
  clear h2 h3 h4 h5 h6 h7 F2 N2
  have hszD : (strValues (toks.take i)).toArray.size ≤ 1048576 := by simp [strValues]; omega
  by_cases hi : i < toks.length
  · have hx : toks[i]? = some toks[i] := List.getElem?_eq_getElem hi
    have hin : i < its.size := by omega
    k_steps
    rename News _ _ _ _ => N9
    refine itemL (isList_of N9 (.tail _ (.tail _ hrd))) rfl (hget _ _ hx) hsz2 ?_
    k_steps
    refine wpAny_isNot_other (by rfl) (by intro x; cases x) ?_
    k_steps
    rename News _ _ _ _ => N9
    refine itemL (isList_of N9 (.tail _ (.tail _ hrd))) rfl (hget _ _ hx) hsz2 ?_
    k_steps
    rename Fr _ _ _ _ => F9
    rename News _ _ _ _ => N9
    refine call_bm F9 N9 hD hszD ?_
    intro h10 F10 N10
    k_steps
    rename Fr _ _ _ _ => F11
    rename News _ _ _ _ => N11
    exact After.next (JJ.step hik hx rfl rfl rfl rfl rfl rfl rfl F11 N11)
  · have hil : i = toks.length := by omega
    subst hil
    cases star with
    | true =>
      have hst : its[toks.length]? = some (Value.ref st) := by
        rw [← hits, List.getElem?_toArray, List.getElem?_append_right (by simp [strValues])]
        simp [strValues]
      have hin : toks.length < its.size := by rw [hsz]; simp
      have hin1 : toks.length + 1 = its.size := by rw [hsz]; simp
      k_steps
      rename News _ _ _ _ => N9
      refine itemL (isList_of N9 (.tail _ (.tail _ hrd))) rfl hst hsz2 ?_
      k_steps
      show wpAny _ _ _ _ _ _
      k_steps
      refine while_do (while_step ?_)
      k_steps
      rename News _ _ _ _ => N9
      refine itemL (isList_of N9 (.tail _ (.tail _ hrd))) rfl hst hsz2 ?_
      k_steps
      rename Fr _ _ _ _ => F9
      rename News _ _ _ _ => N9
      refine call_bm F9 N9 hD hszD ?_
      intro h10 F10 N10
      k_steps
      show wpAny _ _ _ _ _ _
      k_steps
      have hfl : (parts ++ [[46, 42]]).flatten.length ≤ 102 := by
        simp only [List.flatten_append, List.length_append, List.flatten_cons, List.flatten_nil, List.append_nil, List.length_cons, List.length_nil]; omega
      rename News _ _ _ _ => N9
      have hl9 := isList_of N9 (.tail _ (.head _))
      rw [strs_append] at hl9
      refine join_led lit_e hl9 (ls := parts ++ [[46, 42]]) (by rw [List.take_of_length_le (Nat.le_refl _), List.map_append, hp]; simp [lit_ds]) (by omega) ?_
      intro t' k'
      have hjs : (Str.empty ++ Str.ofString "(?s:" ++ S (parts ++ [[46, 42]]).flatten ++ Str.ofString ")\\Z").length ≤ sizeLine := by
        rw [jstr, S_length, sizeLine_eq, List.length_append, List.length_append]; simp only [List.length_cons, List.length_nil]; omega
      k_steps
      refine SB.field_str (fun t8 k8 => ?_) (by rw [S_length, sizeLine_eq]; omega)
      dsimp only
      refine ⟨by rw [jstr0, S_length, sizeLine_eq, List.length_append]; simp only [List.length_cons, List.length_nil]; omega, ?_⟩
      k_steps
      rename Fr h₀ _ _ _ => F6
      rename News h₀ _ _ _ => N6
      exact hret _ [] _ _ ⟨⟨k8 + 1, by rw [jstr]; simp [joined]⟩, rfl⟩ F6 (news_sub N6 fun p hp => .tail _ (.tail _ hp)) (fun _ h => nomatch h)
    | false =>
      have hin : toks.length = its.size := by rw [hsz]; simp
      k_steps
      show wpAny _ _ _ _ _ _
      k_steps
      refine while_do (while_step ?_)
      k_steps
      show wpAny _ _ _ _ _ _
      k_steps
      rename News _ _ _ _ => N9
      refine join_led lit_e (isList_of N9 (.tail _ (.head _))) (ls := parts) (by rw [List.take_of_length_le (Nat.le_refl _), hp]) (by omega) ?_
      intro t' k'
      have hjs : (Str.empty ++ Str.ofString "(?s:" ++ S parts.flatten ++ Str.ofString ")\\Z").length ≤ sizeLine := by
        rw [jstr, S_length, sizeLine_eq, List.length_append, List.length_append]; simp only [List.length_cons, List.length_nil]; omega
      k_steps
      refine SB.field_str (fun t8 k8 => ?_) (by rw [S_length, sizeLine_eq]; omega)
      dsimp only
      refine ⟨by rw [jstr0, S_length, sizeLine_eq, List.length_append]; simp only [List.length_cons, List.length_nil]; omega, ?_⟩
      k_steps
      rename Fr h₀ _ _ _ => F6
      rename News h₀ _ _ _ => N6
      exact hret _ [] _ _ ⟨⟨k8 + 1, by rw [jstr]; simp [joined]⟩, rfl⟩ F6 (news_sub N6 fun p hp => .tail _ (.tail _ hp)) (fun _ h => nomatch h)
end
end Mine
end
section
open PySem PySem.W PyProof.Rows PySem.Calls PySem.Spec
set_option maxRecDepth 100000
namespace Mine
noncomputable def trText (ps : List Pc) (star : Bool) : List Nat := joined (ps.map Pc.tr) star
theorem tr_len {ps : List Pc} (h : ps.length ≤ 10) : (ps.map Pc.tr).flatten.length ≤ 50 := by
  have : ∀ ps : List Pc, (ps.map Pc.tr).flatten.length ≤ 5 * ps.length := by
    intro ps
    induction ps with
    | nil => simp
    | cons p r ih =>
      have h4 : p.tr.length ≤ 5 := by
        cases p with
        | any => simp [Pc.tr]
        | bar c => unfold Pc.tr; dsimp only; split <;> simp
        | ask c => unfold Pc.tr escList; dsimp only; split <;> (try split) <;> simp
      rw [List.map_cons, List.flatten_cons, List.length_append, List.length_cons]; omega
  have := this ps
  omega
noncomputable def trs (ps : List Pc) : List Nat := (ps.map Pc.tr).flatten
end Mine
end
section
open PySem PySem.W PyProof.Rows PySem.Calls PySem.Spec
set_option maxRecDepth 100000
set_option maxHeartbeats 8000000
namespace Mine
section
variable {w : World} {p : Program} {loose : List Str} {mean : ExcName → Option Value} {mg mb : Str → Option Value}
theorem lines_LR1 : True := by
  k_with_none
  k_with "my steps" => repeat' ((fail_if_success (with_reducible show wpAny _ _ (exec (Stmt.For _ _ _ _ _) _) _ _ _)); (fail_if_success (with_reducible show wpAny _ _ (exec (Stmt.While _ _ _ _) _) _ _ _)); first | walk1 | (dsimp only; walk1) | (leave1; walk_say "STEP leave1"; try dsimp only) | fail "no step")
  k_with "my ite" => first | (refine ite_neg (by simp only [decide_eq_true_eq, beq_iff_eq, bne_iff_ne, ne_eq]; omega) ?_) | (refine ite_pos (by simp only [decide_eq_true_eq, beq_iff_eq, bne_iff_ne, ne_eq]; omega) ?_)
  k_with "my subscriptTail Name Name str int" => refine item_S (by omega) (by assumption) (by omega) ?_
  k_with "my room" => ((try simp only [depth_under_make, depth_under_kw, depth_in1, depth_deeper, depth_caller]); (try dsimp only [ktrTop]); omega)
  trivial

noncomputable abbrev Ask := Nat × List Nat × Bool
noncomputable abbrev askO (k : Ask) (t u : Tok) : Obj := tupO [.int k.1 t, .str (S k.2.1) u, .bool k.2.2]
/-- the list of asks, as it lies -/
noncomputable def AsksIn (news : Led) (la : Addr) (rows : List Ask) : Prop := ∃ (vals : List PySem.Value) (n : Nat), (la, listOf vals.toArray n) ∈ news ∧ vals.length = rows.length ∧ ∀ (i : Nat) (k : Ask), rows[i]? = some k → ∃ (T : Addr) (t u : Tok), vals[i]? = some (Value.ref T) ∧ (T, askO k t u) ∈ news
theorem AsksIn.mono {l l' : Led} {la : Addr} {rows : List Ask} (h : AsksIn l la rows) (hs : ∀ p ∈ l, p ∈ l') : AsksIn l' la rows := by
  obtain ⟨vals, n, h1, h2, h3⟩ := h
  exact ⟨vals, n, hs _ h1, h2, fun i k e => by obtain ⟨T, t, u, e1, e2⟩ := h3 i k e; exact ⟨T, t, u, e1, hs _ e2⟩⟩

noncomputable def reachFrom (row : List Nat) (all : Int) : List Ask → Int
  | [] => all
  | k :: r => if ((S [row.getD k.1 0] == S k.2.1) != k.2.2) = true then 0 else reachFrom row all r
noncomputable def reach (rows : List Ask) (row : List Nat) : Int := reachFrom row (rows.length + 1) rows

theorem d_reach (rows : List Ask) (row : List Nat) (la : Addr) (t1 : Tok) (hc : ∀ k ∈ rows, k.1 < row.length) (hb : row.length ≤ 1048576) (hb2 : rows.length ≤ 1000) : Does PySem.Challenge.rw_in0284_01.row.prog w (hd0.heap_1 w.params) p loose mean mg mb 8 228 [.ref la, .str (S row) t1] [] (fun news => AsksIn news la rows) (fun v own => (∃ u, v = .int (reach rows row) u) ∧ own = []) := by
  unfold Does
  k_fill
  intro dp un gd cn cs a ccd cl outer A₀ base h₀ L m news s Q B F X N hap hrd T hk hr hu hret
  refine enter (by k_is) (by k_is) (BindsTo.of_eq rfl) (locs rfl) rfl rfl rfl (by decide) B F X N T hk (by omega) ?_
  intro g L' h₁ tk0 F' N' B' X' T'
  rw [List.nil_append] at N'
  obtain ⟨vals, n, hl, hlen, hrows⟩ := hrd
  k_steps
  refine for_do ?_
  k_steps
  rename Fr _ _ _ _ => F2
  rename News _ _ _ _ => N2
  refine iter_lst F2 N2 (isList_of N2 hl) ?_
  intro I o h3 hI F3 N3 hne
  refine for_ind (J := fun r h => ∃ (i : Nat) (o : Obj) (mm : Str → Option Value), rows.drop i = r ∧ i + r.length = rows.length ∧ LstIt la i o ∧ reachFrom row (rows.length + 1) r = reach rows row ∧ mm "asks" = some (.ref la) ∧ mm "row" = some (.str (S row) t1) ∧ Fr g L' h mm ∧ News g L' h ((I, o) :: news)) rows ⟨0, o, _, rfl, Nat.zero_add _, hI, rfl, rfl, rfl, F3, N3⟩ ?_ ?_
  · rintro k r h tk ⟨i, o, mm, hdr, hil, hI, htl, ha, ho, F, N⟩
    have hx : rows[i]? = some k := by rw [← List.head?_drop, hdr]; rfl
    have hk1 : k.1 < row.length := hc k (List.mem_of_getElem? hx)
    obtain ⟨D, t2, u2, hv, hT⟩ := hrows i k hx
    have hdk : rows.drop (i + 1) = r := by
      have := congrArg List.tail hdr
      rw [List.tail_drop] at this
      exact this
    have hil' : i + 1 + r.length = rows.length := by simp only [List.length_cons] at hil; omega
    have hLs := isList_of N (.tail _ hl)
    refine next_lst F N hne hI hLs (by simpa using hv) ?_
    intro h' o' hI' F4 N4
    replace F4 := fr_puts F4 [("asks", .ref la), ("row", .str (S row) t1)] (List.forall_mem_cons.mpr ⟨ha, List.forall_mem_cons.mpr ⟨ho, List.forall_mem_nil _⟩⟩)
    dsimp only [kstB] at F4
    clear F N ha ho hLs
    refine letGo_listiter ⟨o', (N4 _ (.head _)).1, hI'⟩ ?_
    have hrow : IsTup h' D #[.int k.1 t2, .str (S k.2.1) u2, .bool k.2.2] := ⟨_, (N4 _ (.tail _ hT)).1, rfl, _, rfl⟩
    have hrc : row[(k.1 : Int).toNat]? = some (row.getD k.1 0) := by simp [hk1]
    k_steps
    · rename (_ != _) = _ => hv9
      show LeaveK _ _ _ _ _ _ _
      k_steps
      rename Fr h₀ _ _ _ => F6
      rename News h₀ _ _ _ => N6
      exact hret _ [] _ _ ⟨⟨_, by rw [← htl]; unfold reachFrom; rw [if_pos hv9]⟩, rfl⟩ F6 (news_sub N6 fun p hp => .tail _ hp) (fun _ h => nomatch h)
    · rename (_ != _) = _ => hv9
      rename Fr g _ _ _ => F6
      rename News g _ _ _ => N6
      refine After.next ⟨i + 1, _, _, hdk, hil', hI', ?_, rfl, rfl, F6, N6⟩
      rw [← htl]; show _ = if _ then _ else _; rw [hv9]; rfl
  · rintro h tk ⟨i, o, mm, hdr, hil, hI, htl, ha, ho, F, N⟩
    have hx : rows[i]? = none := by rw [← List.head?_drop, hdr]; rfl
    have hv : vals[i]? = none := by rw [List.getElem?_eq_none_iff] at hx ⊢; omega
    refine next_lst_end rfl F N hne hI (isList_of N (.tail _ hl)) (by simpa using hv) ?_
    intro h4 F4 N4
    refine ⟨rfl, ?_⟩
    replace F4 := fr_puts F4 [("asks", .ref la)] (List.forall_mem_cons.mpr ⟨ha, List.forall_mem_nil _⟩)
    dsimp only [kstB] at F4
    clear F N
    have hLs := isList_of N4 hl
    k_steps
    show wpAny _ _ (execs _ _) _ _ _
    k_steps
    refine call_len_list hLs (by simp; omega) ?_
    rw [show ((vals.toArray.size : Nat) : Int) = (rows.length : Int) by simp [hlen]]
    k_steps
    rename Fr h₀ _ _ _ => F6
    rename News h₀ _ _ _ => N6
    exact hret _ [] _ _ ⟨⟨_, by rw [← htl]; rfl⟩, rfl⟩ F6 N6 (fun _ h => nomatch h)
end
end Mine
end
section
open PySem PySem.W PyProof.Rows PySem.Calls PySem.Spec
set_option maxRecDepth 100000
set_option maxHeartbeats 8000000
namespace Mine
section
variable {w : World} {p : Program} {loose : List Str} {mean : ExcName → Option Value} {mg mb : Str → Option Value}
theorem lines_LT1 : True := by
  k_with_none
  k_with "my steps" => repeat' ((fail_if_success (with_reducible show wpAny _ _ (exec (Stmt.For _ _ _ _ _) _) _ _ _)); (fail_if_success (with_reducible show wpAny _ _ (exec (Stmt.While _ _ _ _) _) _ _ _)); first | walk1 | (dsimp only; walk1) | (dsimp only [List.cons_append, List.nil_append]; walk1) | (leave1; walk_say "STEP leave1"; try dsimp only) | fail "no step")
  k_with "my ite" => first | (refine ite_neg (by simp only [decide_eq_true_eq, beq_iff_eq, bne_iff_ne, ne_eq]; omega) ?_) | (refine ite_pos (by simp only [decide_eq_true_eq, beq_iff_eq, bne_iff_ne, ne_eq]; omega) ?_)
  k_with "my binaryOp FloorDiv int int" => (refine floordiv_int (by with_reducible assumption) ?_ (Or.inl (PyProof.noPylong_small (by with_reducible assumption))))
  k_with "my room" => ((try simp only [depth_under_make, depth_under_kw, depth_in1, depth_deeper, depth_caller]); (try dsimp only [ktrTop]); omega)
  k_with "ev op" => first | exact Op2.addi | exact Op2.subi | exact Op2.modi (by decide) | exact Op2.andi
  k_with "ev at" => fail "no item"
  k_with "ev" => first
    | ((with_reducible show Ev _ (Expr.Name _ _) _ _ _); exact Ev.name (by k_asm) (by rfl) (by rfl) (by rfl) (by decide))
    | ((with_reducible show Ev _ (Expr.Constant _ _ _) _ _ _); first | exact Ev.int | exact Ev.strc | exact Ev.boolc | exact Ev.nonec)
    | ((with_reducible show Ev _ (Expr.BinOp _ _ _ _) _ _ _); exact Ev.bin (by k_extra "ev") (by k_extra "ev") (by k_extra "ev op"))
    | ((with_reducible show Ev _ (Expr.Subscript _ (Expr.Name _ _) _) _ _ _); exact Ev.item (by k_extra "ev") (by k_extra "ev") (by omega) (by k_extra "ev at") (by first | omega | simp) (by with_unfolding_all rfl) (by intro _; with_unfolding_all rfl))
    | ((with_reducible show Ev _ (Expr.Subscript _ (Expr.Constant _ _ _) _) _ _ _); exact Ev.item (by k_extra "ev") (by k_extra "ev") (by decide) (by first | rfl | k_extra "ev at") (by first | omega | simp) (by with_unfolding_all rfl) (by intro _; with_unfolding_all rfl))
    | ((with_reducible show Ev _ (Expr.IfExp _ _ _ _) _ _ _); exact Ev.ifexp (by k_extra "tr") (by first | exact EvB.t (by k_extra "ev") | exact EvB.f (by k_extra "ev")))
  k_with "evl" => first
    | exact EvL.nil
    | ((with_reducible show EvL _ (_ :: _) _ _ _); exact EvL.cons (by k_extra "ev") (by k_extra "evl") (by rfl))
  k_with "ev dec" => first | exact dT (by omega) | exact dF (by omega)
  k_with "ev sdec" => first | with_reducible assumption | exact asF (by decide +kernel) | exact asT (by decide +kernel)
  k_with "ev cmp" => first
    | ((with_reducible show Cm2 _ _ (Value.str _ _) (Value.str _ _) _ _); first
      | ((with_reducible show Cm2 _ CmpOp.Eq _ _ _ _); exact Cm2.eqs (by k_extra "ev sdec"))
      | ((with_reducible show Cm2 _ CmpOp.NotEq _ _ _ _); exact Cm2.nes (by k_extra "ev sdec"))
      | ((with_reducible show Cm2 _ CmpOp.NotIn _ _ _ _); exact Cm2.notins (by k_extra "ev sdec")))
    | ((with_reducible show Cm2 _ _ (Value.int _ _) (Value.int _ _) _ _); first
      | ((with_reducible show Cm2 _ CmpOp.Lt _ _ _ _); exact Cm2.lti (by k_extra "ev dec"))
      | ((with_reducible show Cm2 _ CmpOp.GtE _ _ _ _); exact Cm2.gei (by k_extra "ev dec"))
      | ((with_reducible show Cm2 _ CmpOp.Eq _ _ _ _); exact Cm2.eqi (by k_extra "ev dec")))
  k_with "trb" => first
    | exact TrAB.f
    | ((with_reducible show TrAB _ _ _ true _ _); exact TrAB.t (by k_extra "tra"))
  k_with "tra" => first
    | exact TrA.nil
    | ((with_reducible show TrA _ (_ :: _) _ _ _); exact TrA.cons (by k_extra "tr") (by k_extra "trb"))
  k_with "tr" => first
    | ((with_reducible show Tr _ (Expr.Compare _ [_] [_] _) _ _ _); exact Tr.cmp (by k_extra "ev") (by k_extra "ev") (by k_extra "ev cmp") (by with_unfolding_all rfl))
    | ((with_reducible show Tr _ (Expr.BoolOp BoolOp.And _ _) _ _ _); exact Tr.and (by k_extra "tra"))
    | ((with_reducible show Tr _ (Expr.UnaryOp UnaryOp.Not _ _) _ _ _); exact Tr.not (by k_extra "tr") (by rfl))
    | exact Tr.boolc
    | ((with_reducible show Tr _ (Expr.Name _ _) _ _ _); exact Tr.strp (by k_extra "ev") (by with_reducible rfl) (by first | omega | simp) (by first | rfl | (refine asT ?_; simp)) (by rfl))
  k_with "my execs cons" => (fail_if_success have : Mine.Full := trivial); first
    | ((with_reducible show wpAny _ _ (execs (Stmt.Assign [Expr.Name _ _] _ _ :: _) _) _ _ _); (fail_if_success (with_reducible show wpAny _ _ (execs (Stmt.Assign _ (Expr.Call _ _ _ _) _ :: _) _) _ _ _)); (fail_if_success (with_reducible show wpAny _ _ (execs (Stmt.Assign _ (Expr.Subscript _ (Expr.Slice _ _ _ _) _) _ :: _) _) _ _ _)); k_dflt (refine st_assign (by k_extra "ev") (by k_asm) (by k_asm) ?_ (by rfl) (by rfl) (by rfl)); intro _ _ _; (try k_sweep))
    | ((with_reducible show wpAny _ _ (execs (Stmt.If _ _ _ _ :: _) _) _ _ _); k_dflt (refine st_if (by k_extra "tr") ?_); dsimp only [pick, glue])
    | ((with_reducible show wpAny _ _ (execs (Stmt.Assign [Expr.Name _ _] _ _ :: _) _) _ _ _); k_dflt (refine st_assignC ?_ (by rfl)))
    | ((with_reducible show wpAny _ _ (execs (Stmt.Expr _ _ :: _) _) _ _ _); k_dflt (refine st_expr ?_ (by rfl) (by rfl)))
    | ((with_reducible show wpAny _ _ (execs (Stmt.Return (some _) _ :: _) _) _ _ _); k_dflt (refine st_ret ?_))
  k_with "my storeName" => ((fail_if_success have : Mine.Full := trivial); k_dflt (refine storeP (by k_asm) (by k_asm) ?_ (by rfl) (by rfl)); intro _ _ _; (try k_sweep))
  k_with "my isTrue Compare" => ((fail_if_success have : Mine.Full := trivial); k_dflt (refine tr_use (by k_extra "tr") ?_); (try dsimp only))
  k_with "my isTrue BoolOp" => ((fail_if_success have : Mine.Full := trivial); (with_reducible show wpAny _ _ (isTrue (Expr.BoolOp BoolOp.And (_ :: _ :: _) _) _ _) _ _ _); k_dflt (refine tr_use (by k_extra "tr") ?_); (try dsimp only))
  k_with "my spliced" => ((fail_if_success have : Mine.Full := trivial); (with_reducible show wpAny _ _ (spliced (backTo _ (starEach (_ :: _) _))) _ _ _); k_dflt (refine args_ev (by k_extra "evl") ?_); (try dsimp only [List.cons_append, List.nil_append]))
  k_with "my eval Subscript" => ((fail_if_success have : Mine.Full := trivial); (with_reducible show wpAny _ _ (eval (Expr.Subscript _ (Expr.Slice _ _ none _) _) _) _ _ _); k_dflt (refine sub_slice (by k_extra "ev") (by first | exact EvP.none | exact EvP.some (by k_extra "ev")) (by first | exact EvP.none | exact EvP.some (by k_extra "ev")) ?_))
  trivial


noncomputable def kindOf (mode : Int) : Int := if ([1, 2, 4, 6, 8, 10, 12] : List Int).any (fun x => x == mode.fdiv (2 ^ Int.toNat 12)) = true then mode.fdiv (2 ^ Int.toNat 12) else 0

theorem d_kind (mode : Int) (t : Tok) (h0 : 0 ≤ mode) (h1 : mode < 65536) : Does PySem.Challenge.rw_in0284_01.row.prog w (hd0.heap_1 w.params) p loose mean mg mb 8 242 [.int mode t] [] (fun _ => True) (fun v own => (∃ u, v = .int (kindOf mode) u) ∧ own = []) := by
  unfold Does
  k_fill
  intro dp un gd cn cs a ccd cl outer A₀ base h₀ L m news s Q B F X N hap hrd T hk hr hu hret
  refine enter (by k_is) (by k_is) (BindsTo.of_eq rfl) (locs rfl) rfl rfl rfl (by decide) B F X N T hk (by omega) ?_
  intro g L' h₁ tk0 F' N' B' X' T'
  rw [List.nil_append] at N'
  k_steps
  all_goals (
    rename Fr h₀ _ _ _ => F6
    rename News h₀ _ _ _ => N6
    rename List.any _ _ = _ => hb
    exact hret _ [] _ _ ⟨⟨_, by unfold kindOf; first | rw [if_pos hb] | rw [if_neg (by rw [hb]; decide)]⟩, rfl⟩ F6 (news_sub N6 fun p hp => .tail _ hp) (fun _ h => nomatch h))

theorem pow3_small : ∀ c : Nat, c < 10 → (3 : Int) ^ ((c : Int)).toNat ≠ 0 ∧ ((3 : Int) ^ ((c : Int)).toNat).natAbs < 1073741824 := by decide
theorem range10 : Builtin.Range.rangeSize 0 10 1 = 10 := by decide

noncomputable def heldOf (c : Nat) : Int := if (c : Int).fmod 3 = 0 then 1 * 2 ^ ((9 : Int) - c).toNat + 1 * 2 ^ ((12 : Int) - (c : Int).fdiv 3).toNat else 1 * 2 ^ ((9 : Int) - c).toNat
noncomputable def sameOf (asked other : Int) (c : Nat) : Bool := if c = 0 then kindOf asked == kindOf other else Builtin.bitAnd (Builtin.bitXor asked other) (heldOf c) == 0
noncomputable def wayOf (number : Int) (c : Nat) : Int := (number.fdiv (3 ^ (c : Int).toNat)).fmod 3
noncomputable def toldFrom (asked other number : Int) : List Nat → Int → Int
  | [], nar => nar
  | c :: r, nar => if wayOf number c = 0 then toldFrom asked other number r nar else if (sameOf asked other c != (wayOf number c == 1)) = true then 0 else toldFrom asked other number r (nar + 1)
noncomputable def told (asked other number : Int) : Int := toldFrom asked other number (List.range 10) 1
theorem told0 {asked other number : Int} {c : Nat} {r : List Nat} {nar : Int} (h : (number.fdiv (3 ^ (c : Int).toNat)).fmod 3 = 0) : toldFrom asked other number (c :: r) nar = toldFrom asked other number r nar := if_pos h
theorem told1 {asked other number : Int} {c : Nat} {r : List Nat} {nar : Int} {b : Bool} (h : (number.fdiv (3 ^ (c : Int).toNat)).fmod 3 ≠ 0) (hs : sameOf asked other c = b) (h2 : (b != ((number.fdiv (3 ^ (c : Int).toNat)).fmod 3 == 1)) = true) : toldFrom asked other number (c :: r) nar = 0 := by
  subst hs
  exact (if_neg h).trans (if_pos h2)
theorem told2 {asked other number : Int} {c : Nat} {r : List Nat} {nar : Int} {b : Bool} (h : (number.fdiv (3 ^ (c : Int).toNat)).fmod 3 ≠ 0) (hs : sameOf asked other c = b) (h2 : (b != ((number.fdiv (3 ^ (c : Int).toNat)).fmod 3 == 1)) = false) : toldFrom asked other number (c :: r) nar = toldFrom asked other number r (nar + 1) := by
  subst hs
  exact (if_neg h).trans (if_neg (by rw [wayOf, h2]; decide))

theorem same0 {asked other : Int} {c : Nat} (h : (c : Int) = 0) : sameOf asked other c = (kindOf asked == kindOf other) := if_pos (by omega)
theorem same3 {asked other : Int} {c : Nat} (h : (c : Int) ≠ 0) (h3 : (c : Int).fmod 3 = 0) : sameOf asked other c = (Builtin.bitAnd (Builtin.bitXor asked other) (1 * 2 ^ ((9 : Int) - c).toNat + 1 * 2 ^ ((12 : Int) - (c : Int).fdiv 3).toNat) == 0) := by
  unfold sameOf heldOf
  rw [if_neg (by omega), if_pos h3]
theorem same1 {asked other : Int} {c : Nat} (h : (c : Int) ≠ 0) (h3 : (c : Int).fmod 3 ≠ 0) : sameOf asked other c = (Builtin.bitAnd (Builtin.bitXor asked other) (1 * 2 ^ ((9 : Int) - c).toNat) == 0) := by
  unfold sameOf heldOf
  rw [if_neg (by omega), if_neg h3]

theorem lines_LT2 : True := by
  k_with "my call ref" => ((with_reducible show wpAny _ _ (call (Value.ref 242) [Value.int _ _]) _ _ _); k_dflt (refine' does_val (mk := fun u => .int _ u) (d_kind _ _ ?a ?b) ?B ?F ?X ?N trivial ?T rfl ?hd ?hu ?_; (case a => omega); (case b => omega); (case B => k_asm); (case F => k_asm); (case X => k_asm); (case N => k_asm); (case T => k_asm); (case hd => omega); (case hu => omega)); intro _ _ _ _ _; (try dsimp only))
  trivial

theorem d_told (asked other number : Int) (t1 t2 t3 : Tok) (h0 : 0 ≤ asked) (h1 : asked < 65536) (h2 : 0 ≤ other) (h3 : other < 65536) (h4 : 0 ≤ number) (h5 : number < 10000000000) : Does PySem.Challenge.rw_in0284_01.row.prog w (hd0.heap_1 w.params) p loose mean mg mb 12 249 [.int asked t1, .int other t2, .int number t3] [] (fun _ => True) (fun v own => (∃ u, v = .int (told asked other number) u) ∧ own = []) := by
  unfold Does
  k_fill
  intro dp un gd cn cs a ccd cl outer A₀ base h₀ L m news s Q B F X N hap hrd T hk hr hu hret
  refine enter (by k_is) (by k_is) (BindsTo.of_eq rfl) (locs rfl) rfl rfl rfl (by decide) B F X N T hk (by omega) ?_
  intro g L' h₁ tk0 F' N' B' X' T'
  rw [List.nil_append] at N'
  k_steps
  refine for_do ?_
  k_steps
  rename IsRange _ _ _ _ _ _ _ _ => hR
  rename Fr _ _ _ _ => F2
  rename News _ _ _ _ => N2
  refine iter_ran F2 N2 hR (by decide) ?_
  intro I h3 F3 N3 hne
  rw [range10] at N3
  refine for_indN (J := fun r h => ∃ (c : Nat) (mm : Str → Option Value) (nar x left : Int) (u : Tok), (List.range 10).drop c = r ∧ c + r.length = 10 ∧ x = c ∧ left = 10 - (c : Int) ∧ 1 ≤ nar ∧ nar ≤ c + 1 ∧ toldFrom asked other number r nar = told asked other number ∧ mm "narrow" = some (.int nar u) ∧ mm "asked" = some (.int asked t1) ∧ mm "other" = some (.int other t2) ∧ mm "number" = some (.int number t3) ∧ Fr g L' h mm ∧ News g L' h ((I, ranIt x left) :: news)) (List.range 10) ⟨0, _, 1, 0, 10, _, rfl, rfl, rfl, rfl, by decide, by decide, rfl, rfl, rfl, rfl, rfl, F3, N3⟩ ?_ ?_
  · rintro x r h tk ⟨c, mm, nar, x', left, u, hdr, hil, rfl, rfl, hn1, hn2, htl, hn, ha, ho, hm, F, N⟩
    have hc : c < 10 := by simp only [List.length_cons] at hil; omega
    have hx : x = c := by
      have h1 : (List.range 10)[c]? = some x := by rw [← List.head?_drop, hdr]; rfl
      simp [hc] at h1; omega
    have hdk : (List.range 10).drop (c + 1) = r := by
      have := congrArg List.tail hdr
      rw [List.tail_drop] at this
      exact this
    have hil' : c + 1 + r.length = 10 := by simp only [List.length_cons] at hil; omega
    subst hx
    refine next_ran F N hne (by omega) ?_
    intro h' tk' u' F4 N4
    replace F4 := fr_puts F4 [("narrow", .int nar u), ("asked", .int asked t1), ("other", .int other t2), ("number", .int number t3)] (List.forall_mem_cons.mpr ⟨hn, List.forall_mem_cons.mpr ⟨ha, List.forall_mem_cons.mpr ⟨ho, List.forall_mem_cons.mpr ⟨hm, List.forall_mem_nil _⟩⟩⟩⟩)
    dsimp only [kstB] at F4
    clear F N hn ha ho hm
    obtain ⟨hp3, hp4⟩ := pow3_small x hc
    have hx0 : (x : Int).fmod 3 ≠ 0 → (x : Int) ≠ 0 := by
      intro h e
      rw [e] at h
      exact h rfl
    k_steps
    · rename (_ != _) = _ => hv
      rename (x : Int) = 0 => hz
      rename Int.fmod (Int.fdiv _ _) _ ≠ _ => hw
      show LeaveK _ _ _ _ _ _ _
      k_steps
      rename Fr h₀ _ _ _ => F6
      rename News h₀ _ _ _ => N6
      exact hret _ [] _ _ ⟨⟨_, by rw [← htl, told1 hw (same0 hz) hv]⟩, rfl⟩ F6 (news_sub N6 fun p hp => .tail _ hp) (fun _ h => nomatch h)
    · rename (_ != _) = _ => hv
      rename (x : Int) = 0 => hz
      rename Int.fmod (Int.fdiv _ _) _ ≠ _ => hw
      rename Fr g _ _ _ => F6
      rename News g _ _ _ => N6
      exact After.next ⟨x + 1, _, nar + 1, _, _, _, hdk, hil', rfl, by omega, by omega, by omega, by rw [← htl, told2 hw (same0 hz) hv], rfl, rfl, rfl, rfl, F6, N6⟩
    · rename (_ != _) = _ => hv
      rename (x : Int) ≠ 0 => hz
      rename Int.fmod (Int.fdiv _ _) _ ≠ _ => hw
      rename Int.fmod (Nat.cast x) _ = _ => hm
      show LeaveK _ _ _ _ _ _ _
      k_steps
      rename Fr h₀ _ _ _ => F6
      rename News h₀ _ _ _ => N6
      exact hret _ [] _ _ ⟨⟨_, by rw [← htl, told1 hw (same3 hz hm) hv]⟩, rfl⟩ F6 (news_sub N6 fun p hp => .tail _ hp) (fun _ h => nomatch h)
    · rename (_ != _) = _ => hv
      rename (x : Int) ≠ 0 => hz
      rename Int.fmod (Int.fdiv _ _) _ ≠ _ => hw
      rename Int.fmod (Nat.cast x) _ = _ => hm
      rename Fr g _ _ _ => F6
      rename News g _ _ _ => N6
      exact After.next ⟨x + 1, _, nar + 1, _, _, _, hdk, hil', rfl, by omega, by omega, by omega, by rw [← htl, told2 hw (same3 hz hm) hv], rfl, rfl, rfl, rfl, F6, N6⟩
    · rename (_ != _) = _ => hv
      rename Int.fmod (Int.fdiv _ _) _ ≠ _ => hw
      rename Int.fmod (Nat.cast x) _ ≠ _ => hm
      have hz := hx0 hm
      show LeaveK _ _ _ _ _ _ _
      k_steps
      rename Fr h₀ _ _ _ => F6
      rename News h₀ _ _ _ => N6
      exact hret _ [] _ _ ⟨⟨_, by rw [← htl, told1 hw (same1 hz hm) hv]⟩, rfl⟩ F6 (news_sub N6 fun p hp => .tail _ hp) (fun _ h => nomatch h)
    · rename (_ != _) = _ => hv
      rename Int.fmod (Int.fdiv _ _) _ ≠ _ => hw
      rename Int.fmod (Nat.cast x) _ ≠ _ => hm
      have hz := hx0 hm
      rename Fr g _ _ _ => F6
      rename News g _ _ _ => N6
      exact After.next ⟨x + 1, _, nar + 1, _, _, _, hdk, hil', rfl, by omega, by omega, by omega, by rw [← htl, told2 hw (same1 hz hm) hv], rfl, rfl, rfl, rfl, F6, N6⟩
    · rename Int.fmod (Int.fdiv _ _) _ = _ => hw
      rename Fr g _ _ _ => F6
      rename News g _ _ _ => N6
      exact After.next ⟨x + 1, _, nar, _, _, _, hdk, hil', rfl, by omega, by omega, by omega, by rw [← htl, told0 hw], rfl, rfl, rfl, rfl, F6, N6⟩
  · rintro h tk ⟨c, mm, nar, x', left, u, hdr, hil, rfl, rfl, hn1, hn2, htl, hn, ha, ho, hm, F, N⟩
    refine next_ran_end rfl F N hne (by simp only [List.length_nil] at hil; omega) ?_
    intro h4 F4 N4
    refine ⟨rfl, ?_⟩
    replace F4 := fr_puts F4 [("narrow", .int nar u)] (List.forall_mem_cons.mpr ⟨hn, List.forall_mem_nil _⟩)
    dsimp only [kstB] at F4
    clear F N
    k_steps
    show wpAny _ _ (execs _ _) _ _ _
    k_steps
    rename Fr h₀ _ _ _ => F6
    rename News h₀ _ _ _ => N6
    exact hret _ [] _ _ ⟨⟨_, by rw [← htl]; rfl⟩, rfl⟩ F6 N6 (fun _ h => nomatch h)
end
end Mine
end
section
open PySem PySem.W PyProof.Rows PySem.Calls PySem.Spec
set_option maxRecDepth 100000
namespace Mine
theorem post_vos {s : Shared} {c : Prop} [Decidable c] {y z : Str} {t : Tok} {Q : Value → Shared → Prop} (h : (if c then y else z).length ≤ sizeLine ∧ ∀ t' k, s.toks ≤ k → Q (.str (if c then y else z) t') { s with toks := k }) :
    (if c then Made.val (.str y t) else Made.str z).post Q s := by
  by_cases hc : c
  · rw [if_pos hc]; have h' := h.2 t s.toks (Nat.le_refl _); rw [if_pos hc] at h'; exact h'
  · rw [if_neg hc]; have h' := h.2 s.toks (s.toks + 1) (Nat.le_succ _); have h1 := h.1; rw [if_neg hc] at h' h1; exact ⟨h1, h'⟩
section
variable {prog : Program} {w : World} {A : Around} {E : Value → Shared → Prop} {s : Shared} {h₀ : Heap} {L : Addr} {m : Str → Option Value} {news : Led} {value slice : Expr} {l r : List Nat} {t ui uj : Tok} {i k n : Nat} {zi zj : Int} {Q : Value → Shared → Prop}
/-- a cut that tells how far the count of tokens has come -/
theorem slice_offK (F : Fr h₀ L s.heap m) (N : News h₀ L s.heap news) (hs : SlOff l i k n r) (ei : zi = (i : Int) + (k : Int)) (ej : zj = (i : Int) + ((k + n : Nat) : Int)) (hb : l.length ≤ 1048576) (h : ∀ h' t' k, s.toks ≤ k → Fr h₀ L h' m → News h₀ L h' news → Q (.str (S r) t') { s with heap := h', toks := k })
    (hs' : subscripted slice false (.str (S l) t) (.ref s.heap.objs.size) = operate [.ref s.heap.objs.size, .str (S l) t] (getItem (.str (S l) t) (.ref s.heap.objs.size)) := by with_unfolding_all rfl)
    (ht : ∀ r, letTemporaryGo value (.str (S l) t) r = pure () := by intro _; with_unfolding_all rfl) :
    wpAny (model prog w) A (subscriptTail value slice (.str (S l) t) (.ref s.heap.objs.size)) Q E { s with heap := s.heap.push { cls := .type "slice", data := .fields #[.int zi ui, .int zj uj, .none] } } := by
  have e1 : zi = ((i + k : Nat) : Int) := by omega
  have e2 : zj = ((i + k + n : Nat) : Int) := by omega
  subst e1 e2
  refine tail_of_ItemOn ⟨"str", _, PySem.F.slot_str_getitem.lookup, typeIs_str _ _ _, wpAny_getItem_str_slice (l := some (_, ui)) (u := some (_, uj)) (st := none) ⟨_, Heap.get?_push_size _ rfl, rfl, rfl⟩ rfl
    (post_vos ⟨Nat.le_trans (Txt.slice_le _ _ _) (by rw [S_length, sizeLine_eq]; omega), fun t' k9 hk9 => ?_⟩)⟩ hs' ht
  have e := slice_S (l := l) (i := i + k) (j := i + k + n) (by omega) hs.1
  rw [show i + k + n - (i + k) = n by omega, hs.2] at e
  have q := h _ t' k9 hk9 (F.push { cls := .type "slice", data := .fields #[.int ((i + k : Nat) : Int) ui, .int ((i + k + n : Nat) : Int) uj, .none] }) (News.pushKeep N _)
  rw [← e] at q
  exact q
end
end Mine
end
section
open PySem PySem.W PyProof.Rows PySem.Calls PySem.Spec
set_option maxRecDepth 100000
set_option maxHeartbeats 4000000
namespace Mine
noncomputable def askOf (k : Nat) : Pc → List Ask
  | .any => []
  | .bar c => [(k, [c], false)]
  | .ask c => [(k, [c], true)]
noncomputable def asksFrom : Nat → List Pc → List Ask
  | _, [] => []
  | k, p :: r => askOf k p ++ asksFrom (k + 1) r
section
variable {w : World} {p : Program} {loose : List Str} {mean : ExcName → Option Value} {mg mb : Str → Option Value}
theorem lines_LA1 : True := by
  k_with_none
  k_with "my steps" => repeat' ((fail_if_success (with_reducible show wpAny _ _ (exec (Stmt.For _ _ _ _ _) _) _ _ _)); (fail_if_success (with_reducible show wpAny _ _ (exec (Stmt.While _ _ _ _) _) _ _ _)); first | walk1 | (dsimp only; walk1) | (dsimp only [List.cons_append, List.nil_append]; walk1) | (leave1; walk_say "STEP leave1"; try dsimp only) | fail "no step")
  k_with "my ite" => first | (refine ite_neg (by simp only [decide_eq_true_eq, beq_iff_eq, bne_iff_ne, ne_eq]; omega) ?_) | (refine ite_pos (by simp only [decide_eq_true_eq, beq_iff_eq, bne_iff_ne, ne_eq]; omega) ?_)
  k_with "my subscriptTail Name Name str int" => first | refine item_S (by omega) (AtOff.go (‹AtOff _ _ 0 _›) (by omega)) (by omega) ?_ | refine item_S (by omega) (AtOff.go (‹AtOff _ _ 1 _›) (by omega)) (by omega) ?_
  k_with "my compareOp Eq str str" => first | refine eqS (r := false) (by first | assumption | decide +kernel) ?_ | refine eqS (r := true) (by decide +kernel) ?_
  k_with "my compareOp NotEq str str" => first | refine neS (by assumption) ?_ | refine neS (r := true) (by decide +kernel) ?_ | refine neS (r := false) (by decide +kernel) ?_
  k_with "my subscriptTail Name Slice str ref" => ((with_reducible rename Fr _ _ _ _ => zkF); (with_reducible rename News _ _ _ _ => zkN); first | refine slice_off (s := ⟨_, _, _, _, _⟩) zkF zkN (‹SlOff _ _ 0 2 _›) (by omega) (by omega) (by omega) ?_ | refine slice_to (n := 1) (s := ⟨_, _, _, _, _⟩) zkF zkN (by omega) rfl (by omega) ?_ | refine slice_to (n := 4) (s := ⟨_, _, _, _, _⟩) zkF zkN (by omega) rfl (by omega) ?_ | refine slice_from (s := ⟨_, _, _, _, _⟩) zkF zkN (by assumption) rfl (by omega) ?_); intro _ _ _ _ _
  k_with "my subscriptTail Name Slice str ref" => ((with_reducible rename Fr _ _ _ _ => zkF); (with_reducible rename News _ _ _ _ => zkN); refine slice_offK (s := ⟨_, _, _, _, _⟩) zkF zkN (‹SlOff _ _ 1 _ _›) (by omega) (by omega) (by omega) ?_; intro _ _ _ zhk9 _ _; (try dsimp only at zhk9))
  k_with "my call builtin:str.find" => (refine SC.find3 ?_; rw [‹Txt.find3 _ _ _ = _›])
  k_with "my call builtin:str.replace" => (refine replace_to (Brk.rep (by assumption)) (by decide +kernel) (by show @Ne Nat _ _; omega) (by show @Ne Nat _ _; omega) (by show @Ne Nat _ _; omega) (by rw [S_length]; simp only [lit_e, S_length, List.length_nil]; omega) ?_; intro _ _)
  k_with "my call builtin:str.lstrip" => (refine call_lstrip rfl lit_hat (by omega) ?_; intro _ _)
  k_with "my room" => ((try simp only [depth_under_make, depth_under_kw, depth_in1, depth_deeper, depth_caller]); (try dsimp only [ktrTop]); omega)
  k_with "ev op" => first | exact Op2.addi | exact Op2.subi | exact Op2.modi (by decide) | exact Op2.andi
  k_with "ev at" => with_reducible first | exact AtOff.go (‹AtOff _ _ 0 _›) (by omega) | exact AtOff.go (‹AtOff _ _ 1 _›) (by omega)
  k_with "ev" => first
    | ((with_reducible show Ev _ (Expr.Name _ _) _ _ _); exact Ev.name (by k_asm) (by rfl) (by rfl) (by rfl) (by decide))
    | ((with_reducible show Ev _ (Expr.Constant _ _ _) _ _ _); first | exact Ev.int | exact Ev.strc | exact Ev.boolc | exact Ev.nonec)
    | ((with_reducible show Ev _ (Expr.BinOp _ _ _ _) _ _ _); exact Ev.bin (by k_extra "ev") (by k_extra "ev") (by k_extra "ev op"))
    | ((with_reducible show Ev _ (Expr.Subscript _ (Expr.Name _ _) _) _ _ _); exact Ev.item (by k_extra "ev") (by k_extra "ev") (by omega) (by k_extra "ev at") (by first | omega | simp) (by with_unfolding_all rfl) (by intro _; with_unfolding_all rfl))
    | ((with_reducible show Ev _ (Expr.Subscript _ (Expr.Constant _ _ _) _) _ _ _); exact Ev.item (by k_extra "ev") (by k_extra "ev") (by decide) (by first | rfl | k_extra "ev at") (by first | omega | simp) (by with_unfolding_all rfl) (by intro _; with_unfolding_all rfl))
    | ((with_reducible show Ev _ (Expr.IfExp _ _ _ _) _ _ _); exact Ev.ifexp (by k_extra "tr") (by first | exact EvB.t (by k_extra "ev") | exact EvB.f (by k_extra "ev")))
  k_with "evl" => first
    | exact EvL.nil
    | ((with_reducible show EvL _ (_ :: _) _ _ _); exact EvL.cons (by k_extra "ev") (by k_extra "evl") (by rfl))
  k_with "ev dec" => first | exact dT (by omega) | exact dF (by omega)
  k_with "ev sdec" => first | with_reducible assumption | exact asF (by decide +kernel) | exact asT (by decide +kernel)
  k_with "ev cmp" => first
    | ((with_reducible show Cm2 _ _ (Value.str _ _) (Value.str _ _) _ _); first
      | ((with_reducible show Cm2 _ CmpOp.Eq _ _ _ _); exact Cm2.eqs (by k_extra "ev sdec"))
      | ((with_reducible show Cm2 _ CmpOp.NotEq _ _ _ _); exact Cm2.nes (by k_extra "ev sdec"))
      | ((with_reducible show Cm2 _ CmpOp.NotIn _ _ _ _); exact Cm2.notins (by k_extra "ev sdec")))
    | ((with_reducible show Cm2 _ _ (Value.int _ _) (Value.int _ _) _ _); first
      | ((with_reducible show Cm2 _ CmpOp.Lt _ _ _ _); exact Cm2.lti (by k_extra "ev dec"))
      | ((with_reducible show Cm2 _ CmpOp.GtE _ _ _ _); exact Cm2.gei (by k_extra "ev dec"))
      | ((with_reducible show Cm2 _ CmpOp.Eq _ _ _ _); exact Cm2.eqi (by k_extra "ev dec")))
  k_with "trb" => first
    | exact TrAB.f
    | ((with_reducible show TrAB _ _ _ true _ _); exact TrAB.t (by k_extra "tra"))
  k_with "tra" => first
    | exact TrA.nil
    | ((with_reducible show TrA _ (_ :: _) _ _ _); exact TrA.cons (by k_extra "tr") (by k_extra "trb"))
  k_with "tr" => first
    | ((with_reducible show Tr _ (Expr.Compare _ [_] [_] _) _ _ _); exact Tr.cmp (by k_extra "ev") (by k_extra "ev") (by k_extra "ev cmp") (by with_unfolding_all rfl))
    | ((with_reducible show Tr _ (Expr.BoolOp BoolOp.And _ _) _ _ _); exact Tr.and (by k_extra "tra"))
    | ((with_reducible show Tr _ (Expr.UnaryOp UnaryOp.Not _ _) _ _ _); exact Tr.not (by k_extra "tr") (by rfl))
    | exact Tr.boolc
    | ((with_reducible show Tr _ (Expr.Name _ _) _ _ _); exact Tr.strp (by k_extra "ev") (by with_reducible rfl) (by first | omega | simp) (by first | rfl | (refine asT ?_; simp)) (by rfl))
  k_with "my execs cons" => (fail_if_success have : Mine.Full := trivial); first
    | ((with_reducible show wpAny _ _ (execs (Stmt.Assign [Expr.Name _ _] _ _ :: _) _) _ _ _); (fail_if_success (with_reducible show wpAny _ _ (execs (Stmt.Assign _ (Expr.Call _ _ _ _) _ :: _) _) _ _ _)); (fail_if_success (with_reducible show wpAny _ _ (execs (Stmt.Assign _ (Expr.Subscript _ (Expr.Slice _ _ _ _) _) _ :: _) _) _ _ _)); k_dflt (refine st_assign (by k_extra "ev") (by k_asm) (by k_asm) ?_ (by rfl) (by rfl) (by rfl)); intro _ _ _; (try k_sweep))
    | ((with_reducible show wpAny _ _ (execs (Stmt.If _ _ _ _ :: _) _) _ _ _); k_dflt (refine st_if (by k_extra "tr") ?_); dsimp only [pick, glue])
    | ((with_reducible show wpAny _ _ (execs (Stmt.Assign [Expr.Name _ _] _ _ :: _) _) _ _ _); k_dflt (refine st_assignC ?_ (by rfl)))
    | ((with_reducible show wpAny _ _ (execs (Stmt.Expr _ _ :: _) _) _ _ _); k_dflt (refine st_expr ?_ (by rfl) (by rfl)))
    | ((with_reducible show wpAny _ _ (execs (Stmt.Return (some _) _ :: _) _) _ _ _); k_dflt (refine st_ret ?_))
  k_with "my storeName" => ((fail_if_success have : Mine.Full := trivial); k_dflt (refine storeP (by k_asm) (by k_asm) ?_ (by rfl) (by rfl)); intro _ _ _; (try k_sweep))
  k_with "my isTrue Compare" => ((fail_if_success have : Mine.Full := trivial); k_dflt (refine tr_use (by k_extra "tr") ?_); (try dsimp only))
  k_with "my isTrue BoolOp" => ((fail_if_success have : Mine.Full := trivial); (with_reducible show wpAny _ _ (isTrue (Expr.BoolOp BoolOp.And (_ :: _ :: _) _) _ _) _ _ _); k_dflt (refine tr_use (by k_extra "tr") ?_); (try dsimp only))
  k_with "my spliced" => ((fail_if_success have : Mine.Full := trivial); (with_reducible show wpAny _ _ (spliced (backTo _ (starEach (_ :: _) _))) _ _ _); k_dflt (refine args_ev (by k_extra "evl") ?_); (try dsimp only [List.cons_append, List.nil_append]))
  k_with "my eval Subscript" => ((fail_if_success have : Mine.Full := trivial); (with_reducible show wpAny _ _ (eval (Expr.Subscript _ (Expr.Slice _ _ none _) _) _) _ _ _); k_dflt (refine sub_slice (by k_extra "ev") (by first | exact EvP.none | exact EvP.some (by k_extra "ev")) (by first | exact EvP.none | exact EvP.some (by k_extra "ev")) ?_))
  trivial
/-- the asks laid so far -/
noncomputable def Laid (tl : Led) (vals : List Value) (rows : List Ask) : Prop := vals.length = rows.length ∧ ∀ (i : Nat) (k : Ask), rows[i]? = some k → ∃ (T : Addr) (t u : Tok), vals[i]? = some (Value.ref T) ∧ (T, askO k t u) ∈ tl
theorem Laid.snoc {tl : Led} {vals : List Value} {rows : List Ask} (h : Laid tl vals rows) {T : Addr} {k : Ask} {t u : Tok} : Laid ((T, askO k t u) :: tl) (vals ++ [.ref T]) (rows ++ [k]) := by
  obtain ⟨h1, h2⟩ := h
  refine ⟨by simp [h1], fun i k' hk => ?_⟩
  by_cases hi : i < rows.length
  · rw [List.getElem?_append_left hi] at hk
    obtain ⟨T', t', u', e1, e2⟩ := h2 i k' hk
    exact ⟨T', t', u', by rw [List.getElem?_append_left (by omega)]; exact e1, .tail _ e2⟩
  · have hlt := (List.getElem?_eq_some_iff.mp hk).1
    simp only [List.length_append, List.length_cons, List.length_nil] at hlt
    have hi' : i = rows.length := by omega
    subst hi'
    rw [List.getElem?_append_right (Nat.le_refl _)] at hk
    simp at hk
    subst hk
    exact ⟨T, t, u, by rw [← h1]; simp, .head _⟩
theorem asksFrom_snoc (x : Pc) : ∀ (ps : List Pc) (k : Nat), asksFrom k (ps ++ [x]) = asksFrom k ps ++ askOf (k + ps.length) x
  | [], k => by simp [asksFrom]
  | p :: r, k => by
    show askOf k p ++ asksFrom (k + 1) (r ++ [x]) = (askOf k p ++ asksFrom (k + 1) r) ++ _
    rw [asksFrom_snoc x r (k + 1), List.append_assoc, List.length_cons, show k + 1 + r.length = k + (r.length + 1) by omega]
/-- what stands ahead of each column -/
noncomputable def JA (g : Heap) (L' D I : Addr) (news : Led) (ps : List Pc) (l : List Nat) (t : Tok) (cs : List Nat) (h : Heap) : Prop :=
  ∃ (done rest : List Pc) (tl : Led) (vals : List Value) (nn : Nat) (mm : Str → Option Value) (x left : Int) (u1 u2 : Tok), ps = done ++ rest ∧ cs = (List.range 10).drop done.length ∧ x = done.length ∧ left = 10 - (done.length : Int) ∧ Laid tl vals (asksFrom 0 done) ∧ (∀ p ∈ tl, p.2.cls = .type "tuple") ∧ (∀ p ∈ tl, ∀ q ∈ news, q.1 ≠ p.1) ∧ (∀ p ∈ news, p.1 ≠ D) ∧ (∀ p ∈ news, p.1 ≠ I) ∧
    mm "text" = some (.str (S l) t) ∧ mm "asks" = some (.ref D) ∧ mm "place" = some (.int ((4 + (trs done).length : Nat) : Int) u1) ∧ mm "ending" = some (.str (Str.ofString ")\\Z") u2) ∧
    Fr g L' h mm ∧ News g L' h ((I, ranIt x left) :: (D, listOf vals.toArray nn) :: (tl ++ news))
theorem JA.start {g : Heap} {L' D I : Addr} {news : Led} {ps : List Pc} {l : List Nat} {t : Tok} {h : Heap} {mm : Str → Option Value} {u1 u2 : Tok}
    (h1 : mm "text" = some (.str (S l) t)) (h2 : mm "asks" = some (.ref D)) (h3 : mm "place" = some (.int 4 u1)) (h4 : mm "ending" = some (.str (Str.ofString ")\\Z") u2)) (F : Fr g L' h mm) (N : News g L' h ((I, ranIt 0 10) :: (D, listOf #[] 0) :: news)) (hD : ∀ p ∈ news, p.1 < D) (hI : ∀ p ∈ news, p.1 ≠ I) : JA g L' D I news ps l t (List.range 10) h :=
  ⟨[], ps, [], [], 0, mm, 0, 10, u1, u2, rfl, rfl, rfl, rfl, ⟨rfl, fun i k e => by simp [asksFrom] at e⟩, (fun p hp => absurd hp List.not_mem_nil), (fun p hp => absurd hp List.not_mem_nil), fun p hp => Nat.ne_of_lt (hD p hp), hI, h1, h2, h3, h4, F, N⟩
theorem ja_hne {g : Heap} {L' D I : Addr} {h : Heap} {x left : Int} {vals : List Value} {nn : Nat} {tl news : Led} (N : News g L' h ((I, ranIt x left) :: (D, listOf vals.toArray nn) :: (tl ++ news))) (htl : ∀ p ∈ tl, p.2.cls = .type "tuple") (hI : ∀ p ∈ news, p.1 ≠ I) : ∀ p ∈ ((D, listOf vals.toArray nn) :: (tl ++ news) : Led), p.1 ≠ I := by
  intro p hp
  rcases List.mem_cons.mp hp with rfl | hp
  · exact news_ne N (.tail _ (.head _)) (.head _) (by simp)
  · rcases List.mem_append.mp hp with hp | hp
    · exact news_ne N (o := p.2) (.tail _ (.tail _ (List.mem_append_left _ hp))) (.head _) (by rw [htl p hp]; simp)
    · exact hI p hp

/-- a piece in brackets: what lies within, what is left of it -/
structure Brk (x : Pc) (c : Nat) (wanted : Bool) (mid mid' : List Nat) : Prop where
  tr : x.tr = 91 :: (mid ++ [93])
  no : 93 ∉ mid
  len : mid.length ≤ 3
  rep : Txt.replace (S mid) (Str.ofString "\\") (Str.ofString "") = S mid'
  strip : mid'.dropWhile ([94] : List Nat).contains = [c]
  len' : 1 ≤ mid'.length ∧ mid'.length ≤ 3
  want : (S (mid'.take 1) != Str.ofString "^") = wanted
  asks : ∀ k, askOf k x = [(k, [c], wanted)]
theorem rep_sign : ∀ c ∈ (63 :: plainSigns : List Nat), Txt.replace (S [94, c]) (Str.ofString "\\") (Str.ofString "") = S [94, c] := by decide +kernel
theorem rep_45 : Txt.replace (S [94, 92, 45]) (Str.ofString "\\") (Str.ofString "") = S [94, 45] := by decide +kernel
theorem rep_63 : Txt.replace (S [63]) (Str.ofString "\\") (Str.ofString "") = S [63] := by decide +kernel
theorem want_hat : (S [94] != Str.ofString "^") = false := by decide +kernel
theorem want_63 : (S [63] != Str.ofString "^") = true := by decide +kernel
theorem brk45 : Brk (.bar 45) 45 false [94, 92, 45] [94, 45] := ⟨rfl, by decide, by decide, rep_45, rfl, by decide, want_hat, fun _ => rfl⟩
theorem brk63 : Brk (.ask 63) 63 true [63] [63] := ⟨rfl, by decide, by decide, rep_63, rfl, by decide, want_63, fun _ => rfl⟩
theorem brkc {c : Nat} (hc : c ∈ (63 :: plainSigns : List Nat)) : Brk (.bar c) c false [94, c] [94, c] := by
  have h1 : ∀ c ∈ (63 :: plainSigns : List Nat), c ≠ 45 ∧ 93 ∉ ([94, c] : List Nat) ∧ ([94, c] : List Nat).dropWhile ([94] : List Nat).contains = [c] := by decide
  obtain ⟨h2, h3, h4⟩ := h1 c hc
  exact ⟨if_neg h2, h3, by simp, rep_sign c hc, h4, by simp, want_hat, fun _ => rfl⟩
/-- every piece is one of four -/
theorem pc_cases {x : Pc} (h : x.Ok) : x = .any ∨ (∃ c w m m', Brk x c w m m') ∨ (∃ c, c ∈ plainSigns ∧ x = .ask c) ∨ x = .ask 45 := by
  cases x with
  | any => exact .inl rfl
  | bar c =>
    refine .inr (.inl ?_)
    rcases List.mem_cons.mp h with rfl | h
    · exact ⟨_, _, _, _, brkc (.head _)⟩
    · rcases List.mem_cons.mp h with rfl | h
      · exact ⟨_, _, _, _, brk45⟩
      · exact ⟨_, _, _, _, brkc (.tail _ h)⟩
  | ask c =>
    rcases List.mem_cons.mp h with rfl | h
    · exact .inr (.inl ⟨_, _, _, _, brk63⟩)
    · rcases List.mem_cons.mp h with rfl | h
      · exact .inr (.inr (.inr rfl))
      · exact .inr (.inr (.inl ⟨c, h, rfl⟩))
theorem tr_head {x : Pc} (h : x.Ok) : ∃ a r, x.tr = a :: r ∧ a ≠ 42 := by
  rcases pc_cases h with rfl | ⟨c, w, m, m', b⟩ | ⟨c, hc, rfl⟩ | rfl
  · exact ⟨_, _, rfl, by decide⟩
  · exact ⟨_, _, b.tr, by decide⟩
  · have h1 : ∀ c ∈ plainSigns, c ≠ 42 ∧ c ≠ 63 ∧ c ≠ 45 := by decide
    obtain ⟨h2, h3, h4⟩ := h1 c hc
    exact ⟨c, [], (if_neg h3).trans (if_neg h4), h2⟩
  · exact ⟨_, _, rfl, by decide⟩
theorem post_head {r : List Pc} {star : Bool} (h : ∀ x ∈ r, x.Ok) : ∃ a l, trs r ++ ((if star then [46, 42] else []) ++ [41, 92, 90]) = a :: l ∧ a ≠ 42 := by
  cases r with
  | nil => cases star with
    | true => exact ⟨_, _, rfl, by decide⟩
    | false => exact ⟨_, _, rfl, by decide⟩
  | cons y r =>
    obtain ⟨a, q, e, ne⟩ := tr_head (h y (.head _))
    exact ⟨a, q ++ trs r ++ ((if star then [46, 42] else []) ++ [41, 92, 90]), by simp [trs, e], ne⟩
theorem find3_at {l pre mid post : List Nat} {i : Nat} (h : l = pre ++ (91 :: (mid ++ [93]) ++ post)) (hi : pre.length = i) (hn : 93 ∉ mid) : Txt.find3 (S l) (Str.ofString "]") (i : Int) = (i : Int) + ((mid.length + 1 : Nat) : Int) := by
  have e : l = pre ++ (91 :: mid) ++ 93 :: post := by rw [h]; simp
  rw [lit_c, e, ← hi, find3_S (by simp [hn])]
  simp
theorem two_dot {a b : Nat} (h : a ≠ 46 ∨ b ≠ 42) : (S [a, b] == Str.ofString ".*") = false := by
  rw [lit_ds, beq_eq_false_iff_ne]
  intro e
  have := S_inj e
  simp only [List.cons.injEq, and_true] at this
  omega
theorem one_eq {a b : Nat} {y : Str} (hy : y = S [b]) (h : a ≠ b) : (S [a] == y) = false := by
  subst hy
  rw [beq_eq_false_iff_ne]
  intro e
  have := S_inj e
  simp only [List.cons.injEq, and_true] at this
  exact h this
theorem one_ne {a b : Nat} {y : Str} (hy : y = S [b]) (h : a ≠ b) : (S [a] != y) = true := by rw [bne, one_eq hy h]; rfl
theorem trs_app (a b : List Pc) : trs (a ++ b) = trs a ++ trs b := by simp [trs]
theorem trs_cons (x : Pc) (b : List Pc) : trs (x :: b) = x.tr ++ trs b := by simp [trs]
theorem JA.step {g : Heap} {L' D I : Addr} {news : Led} {ps done r : List Pc} {x : Pc} {l : List Nat} {t : Tok} {cs : List Nat} {h : Heap} {vals' : List Value} {nn' : Nat} {mm : Str → Option Value} {u1 u2 : Tok} {z left : Int} {tl' : Led}
    (hps : ps = done ++ x :: r) (hcs : cs = (List.range 10).drop (done.length + 1)) (hleft : left = 10 - (done.length : Int) - 1) (hl : Laid tl' vals' (asksFrom 0 (done ++ [x]))) (htl : ∀ p ∈ tl', p.2.cls = .type "tuple") (htn : ∀ p ∈ tl', ∀ q ∈ news, q.1 ≠ p.1) (hD : ∀ p ∈ news, p.1 ≠ D) (hI : ∀ p ∈ news, p.1 ≠ I)
    (h1 : mm "text" = some (.str (S l) t)) (h2 : mm "asks" = some (.ref D)) (h3 : mm "place" = some (.int z u1)) (h4 : mm "ending" = some (.str (Str.ofString ")\\Z") u2)) (hz : z = ((4 + (trs done).length : Nat) : Int) + (x.tr.length : Int))
    (F : Fr g L' h mm) (N : News g L' h ((I, ranIt ((done.length : Int) + 1) left) :: (D, listOf vals'.toArray nn') :: (tl' ++ news))) : JA g L' D I news ps l t cs h :=
  ⟨done ++ [x], r, tl', vals', nn', mm, _, left, u1, u2, by rw [hps]; simp, by rw [hcs]; simp, by simp, by rw [hleft]; simp; omega, hl, htl, htn, hD, hI, h1, h2, by rw [h3, hz, trs_app]; simp [trs]; omega, h4, F, N⟩
theorem lit4 {r : List Nat} : (S (List.take 4 ([40, 63, 115, 58] ++ r)) != Str.ofString "(?s:") = false := by
  rw [show List.take 4 ([40, 63, 115, 58] ++ r) = [40, 63, 115, 58] from rfl]; decide +kernel
theorem lit_end1 : (S ([46, 42] ++ [41, 92, 90]) != Str.ofString ".*)\\Z") = false := by decide +kernel
theorem lit_end2 : (S [41, 92, 90] != Str.ofString ")\\Z") = false := by decide +kernel
theorem allLt_mem {d : Addr} : ∀ {l : Led}, AllLt d l → ∀ p ∈ l, p.1 < d
  | [], _, p, hp => absurd hp List.not_mem_nil
  | _ :: _, h, p, hp => by
    rcases List.mem_cons.mp hp with rfl | hp
    · exact h.1
    · exact allLt_mem h.2 p hp
theorem ja_apart {T : Addr} {oT : Obj} {tl news : Led} (h : ∀ p ∈ (tl ++ news : Led), p.1 < T) (htn : ∀ p ∈ tl, ∀ q ∈ news, q.1 ≠ p.1) : ∀ p ∈ ((T, oT) :: tl : Led), ∀ q ∈ news, q.1 ≠ p.1 := by
  intro p hp q hq
  rcases List.mem_cons.mp hp with rfl | hp
  · exact Nat.ne_of_lt (h q (List.mem_append_right _ hq))
  · exact htn p hp q hq
theorem Laid.asksIn {tl : Led} {vals : List Value} {rows : List Ask} {D : Addr} {nn : Nat} (h : Laid tl vals rows) : AsksIn ((D, listOf vals.toArray nn) :: tl) D rows :=
  ⟨vals, nn, .head _, h.1, fun i k e => let ⟨T, t, u, e1, e2⟩ := h.2 i k e; ⟨T, t, u, e1, .tail _ e2⟩⟩
theorem ja_own {D : Addr} {oD : Obj} {tl news : Led} (hD : ∀ p ∈ news, p.1 ≠ D) (htn : ∀ p ∈ tl, ∀ q ∈ news, q.1 ≠ p.1) : ∀ p ∈ ((D, oD) :: tl : Led), ∀ q ∈ news, q.1 ≠ p.1 := by
  intro p hp q hq
  rcases List.mem_cons.mp hp with rfl | hp
  · exact hD q hq
  · exact htn p hp q hq
theorem asksFrom_len : ∀ (ps : List Pc) (k : Nat), (asksFrom k ps).length ≤ ps.length
  | [], _ => Nat.le_refl _
  | p :: r, k => by
    have := asksFrom_len r (k + 1)
    have h : (askOf k p).length ≤ 1 := by cases p <;> simp [askOf]
    show (askOf k p ++ asksFrom (k + 1) r).length ≤ _
    rw [List.length_append, List.length_cons]; omega
theorem ja_perm {g : Heap} {L' D I T : Addr} {h : Heap} {x left : Int} {vals : List Value} {nn : Nat} {oT : Obj} {tl news : Led} (N : News g L' h ((T, oT) :: (I, ranIt x left) :: (D, listOf (vals.toArray.push (Value.ref T)) nn) :: (tl ++ news))) : News g L' h ((I, ranIt x left) :: (D, listOf (vals ++ [Value.ref T]).toArray nn) :: (((T, oT) :: tl) ++ news)) := by
  rw [show vals.toArray.push (Value.ref T) = (vals ++ [Value.ref T]).toArray by simp] at N
  refine news_sub N fun p hp => ?_
  simp only [List.cons_append, List.mem_cons] at hp ⊢
  rcases hp with h | h | h | h
  · exact .inr (.inl h)
  · exact .inr (.inr (.inl h))
  · exact .inl h
  · exact .inr (.inr (.inr h))
theorem d_asks (ps : List Pc) (star : Bool) (l : List Nat) (hl : l = trText ps star) (t : Tok) (hok : ∀ x ∈ ps, x.Ok) (hlen : if star then ps.length < 10 else ps.length = 10) : Does PySem.Challenge.rw_in0284_01.row.prog w (hd0.heap_1 w.params) p loose mean mg mb 8 221 [.str (S l) t] [] (fun _ => True)
    (fun v own => ∃ (la : Addr), v = .ref la ∧ AsksIn own la (asksFrom 0 ps)) := by
  have hll : l.length ≤ 100 ∧ 4 ≤ l.length := by
    have h1 : ps.length ≤ 10 := by cases star <;> simp at hlen <;> omega
    have := tr_len h1
    rw [hl]; unfold trText joined; cases star <;> simp only [List.length_append, List.length_cons, List.length_nil, if_true, Bool.false_eq_true, if_false] <;> omega
  unfold Does
  k_fill
  intro dp un gd cn cs a ccd cl outer A₀ base h₀ L m news s Q B F X N hap hrd T hk hr hu hret
  refine enter (binds := [("text", .str (S l) t)]) (by k_is) (by k_is) (BindsTo.of_eq rfl) (locs rfl) rfl rfl rfl (by decide) B F X N T hk (by omega) ?_
  intro g L' h₁ tk0 F' N' B' X' T'
  rw [List.nil_append] at N'
  k_steps
  refine for_do ?_
  k_steps
  rename IsRange _ _ _ _ _ _ _ _ => hR
  rename Fr _ _ _ _ => F2
  rename News _ _ _ _ => N2
  replace N2 := news_sub (l' := (_, listOf #[] 0) :: news) N2 (fun p hp => .tail _ hp)
  refine iter_ran F2 N2 hR (by decide) ?_
  intro I h3 F3 N3 hne
  rw [range10] at N3
  rename_i D _ hDlt _ _ _ _ _ _ _ _ _ _ _ _ _ _ _
  refine for_indN (J := JA g L' D I news ps l t) (List.range 10) (JA.start rfl rfl rfl rfl F3 N3 hDlt (fun p hp => hne p (.tail _ hp))) ?_ ?_
  · rintro c cs h tk ⟨done, rest, tl, vals, nn, mm, x, left, u1, u2, hps, hcs, rfl, rfl, hlaid, htl, htn, hD, hI, g1, g2, g3, g4, F, N⟩
    have hc10 : done.length < 10 := by
      have := congrArg List.length hcs
      simp only [List.length_cons, List.length_drop, List.length_range] at this; omega
    have hcs' : cs = (List.range 10).drop (done.length + 1) := by
      have := congrArg List.tail hcs
      rw [List.tail_drop] at this
      exact this
    refine next_ran F N (ja_hne N htl hI) (by omega) ?_
    intro h' tk' u' F4 N4
    replace F4 := fr_puts F4 [("text", .str (S l) t), ("asks", .ref _), ("place", .int ((4 + (trs done).length : Nat) : Int) u1), ("ending", .str (Str.ofString ")\\Z") u2)] (List.forall_mem_cons.mpr ⟨g1, List.forall_mem_cons.mpr ⟨g2, List.forall_mem_cons.mpr ⟨g3, List.forall_mem_cons.mpr ⟨g4, List.forall_mem_nil _⟩⟩⟩⟩)
    dsimp only [kstB] at F4
    clear F N g1 g2 g3 g4 F3 N3
    have hszD : vals.toArray.size ≤ 1048576 := by
      have h1 := asksFrom_len done 0
      have h2 := hlaid.1
      simp only [List.size_toArray]; omega
    have hpD : ∀ p ∈ (tl ++ news : Led), p.1 ≠ D := by
      intro p hp
      rcases List.mem_append.mp hp with hp | hp
      · exact news_ne N4 (o := p.2) (.tail _ (.tail _ (List.mem_append_left _ hp))) (.tail _ (.head _)) (by rw [htl p hp]; simp)
      · exact hD p hp
    have htl' : ∀ (T : Addr) (k : Ask) (t u : Tok), ∀ p ∈ ((T, askO k t u) :: tl : Led), p.2.cls = .type "tuple" := fun T k t u => List.forall_mem_cons.mpr ⟨rfl, htl⟩
    cases rest with
    | nil =>
      have hpd : ps = done := by rw [hps]; simp
      subst hpd
      have hst : star = true := by
        cases star with
        | true => rfl
        | false => simp at hlen; omega
      subst hst
      have hpre : l = ([40, 63, 115, 58] ++ trs ps) ++ ([46, 42] ++ [41, 92, 90]) := by rw [hl]; simp [trText, joined, trs]
      have hprl : ([40, 63, 115, 58] ++ trs ps).length = 4 + (trs ps).length := by simp; omega
      have n1 : (S (l.take 4) != Str.ofString "(?s:") = false := by rw [hpre, List.append_assoc]; exact lit4
      have n2 : (S (l.drop (4 + (trs ps).length)) != Str.ofString ".*)\\Z") = false := by rw [hpre, ← hprl, List.drop_left]; exact lit_end1
      have s0 : SlOff l (4 + (trs ps).length) 0 2 [46, 42] := slOff_mid hpre hprl (by decide) rfl
      have hin : 4 + (trs ps).length ≤ l.length := by rw [hpre, ← hprl]; simp
      generalize 4 + (trs ps).length = i at F4 n2 s0 hin
      k_steps
      show wpAny _ _ (execs _ _) _ _ _
      k_steps
      rename Fr h₀ _ _ _ => F6
      rename News h₀ _ _ _ => N6
      exact hret _ ((D, listOf vals.toArray nn) :: tl) _ _ ⟨D, rfl, hlaid.asksIn⟩ F6 (news_sub N6 fun p hp => .tail _ hp) (ja_own hD htn)
    | cons x r =>
      obtain ⟨pre, hpre, hprl⟩ : ∃ pre, l = pre ++ (x.tr ++ (trs r ++ ((if star then [46, 42] else []) ++ [41, 92, 90]))) ∧ pre.length = 4 + (trs done).length := ⟨[40, 63, 115, 58] ++ trs done, by rw [hl, hps]; simp [trText, joined, trs], by simp; omega⟩
      obtain ⟨b, post, hpost, hb⟩ := post_head (r := r) (star := star) (fun y hy => hok y (by rw [hps]; simp [hy]))
      generalize hi : 4 + (trs done).length = i at F4 hprl
      rw [hpost] at hpre
      have hat : ∀ k c, x.tr[k]? = some c → AtOff l i k c := by
        intro k c hk
        unfold AtOff
        rw [hpre, ← hprl, List.getElem?_append_right (by omega), show pre.length + k - pre.length = k by omega, List.getElem?_append_left (List.getElem?_eq_some_iff.mp hk).1, hk]
      have hin : i + x.tr.length + 1 ≤ l.length := by rw [hpre, ← hprl]; simp; omega
      rcases pc_cases (hok x (by rw [hps]; simp)) with rfl | ⟨c, wd, mid, mid', bk⟩ | ⟨c, hc, rfl⟩ | rfl
      · have a0 : AtOff l i 0 46 := hat 0 46 rfl
        have s0 : SlOff l i 0 2 [46, b] := slOff_mid (x := [46, b]) (post := post) hpre hprl (by simp) rfl
        have e0 := two_dot (a := 46) (.inr hb)
        replace hin : i + 2 ≤ l.length := hin
        k_steps
        rename Fr _ _ _ _ => F9
        rename News _ _ _ _ => N9
        exact After.next (JA.step (x := .any) hps hcs' rfl (by rw [asksFrom_snoc]; simpa [askOf] using hlaid) htl htn hD hI rfl rfl rfl rfl (by rw [hi]; rfl) F9 N9)
      · have a0 : AtOff l i 0 91 := hat 0 91 (by rw [bk.tr]; rfl)
        have btr := bk.tr
        have blen := bk.len
        have blen' := bk.len'
        have bwant := bk.want
        rw [btr] at hpre hin
        simp only [List.length_cons, List.length_append, List.length_nil] at hin
        obtain ⟨y, ys, hy⟩ : ∃ y ys, mid ++ [93] = y :: ys := by cases mid <;> exact ⟨_, _, rfl⟩
        have s0 : SlOff l i 0 2 [91, y] := slOff_mid (x := 91 :: (mid ++ [93])) hpre hprl (by simp) (by rw [hy]; rfl)
        have s1 : SlOff l i 1 mid.length mid := slOff_mid (x := 91 :: (mid ++ [93])) hpre hprl (by simp; omega) (by simp)
        have e0 := two_dot (a := 91) (b := y) (.inl (by decide))
        have e9 := find3_at hpre hprl bk.no
        k_steps
        try (refine replace_to (Brk.rep (by assumption)) (by decide +kernel) (by show @Ne Nat _ _; omega) (by show @Ne Nat _ _; omega) (by show @Ne Nat _ _; omega) (by rw [S_length]; simp only [lit_e, S_length, List.length_nil]; omega) ?_; intro t8 k8; k_steps)
        rename Fr _ _ _ _ => F9
        rename News _ _ _ _ => N9
        rename _ ∧ _ ∧ AllLt _ _ => l1
        rw [bk.strip] at N9
        refine app_led (pre := [_, _]) F9 N9 ?_ hpD hszD ?_
        · intro p hp
          simp only [List.mem_cons, List.not_mem_nil, or_false] at hp
          rcases hp with rfl | rfl <;> exact .inl (by simp)
        intro h10 F10 N10
        clear F9 N9
        k_steps
        rename Fr _ _ _ _ => F9
        rename News _ _ _ _ => N9
        exact After.next (JA.step (x := x) (tl' := (_, askO (done.length, [c], wd) u' _) :: tl) hps hcs' rfl (by rw [asksFrom_snoc, Nat.zero_add, bk.asks]; exact hlaid.snoc) (htl' _ _ _ _) (ja_apart (allLt_mem l1.2.2) htn) hD hI rfl rfl rfl rfl (by rw [hi, btr]; simp only [List.length_cons, List.length_append, List.length_nil]; omega) F9 (ja_perm N9))
      · have h9 : ∀ c ∈ plainSigns, c ≠ 46 ∧ c ≠ 63 ∧ c ≠ 45 ∧ c ≠ 91 ∧ c ≠ 92 := by decide
        obtain ⟨q1, q2, q3, q4, q5⟩ := h9 c hc
        have htr : (Pc.ask c).tr = [c] := (if_neg q2).trans (if_neg q3)
        have a0 : AtOff l i 0 c := hat 0 c (by rw [htr]; rfl)
        rw [htr] at hpre hin
        have s0 : SlOff l i 0 2 [c, b] := slOff_mid (x := [c, b]) (post := post) hpre hprl (by simp) rfl
        have e0 := two_dot (a := c) (b := b) (.inl q1)
        have e1 := one_eq lit_open q4
        have e2 := one_ne lit_dot q1
        have e3 := one_eq lit_bs q5
        replace hin : i + 2 ≤ l.length := hin
        k_steps
        rename Fr _ _ _ _ => F9
        rename News _ _ _ _ => N9
        rename _ ∧ _ ∧ AllLt _ _ => l1
        refine app_led (pre := [_, _]) F9 N9 ?_ hpD hszD ?_
        · intro p hp
          simp only [List.mem_cons, List.not_mem_nil, or_false] at hp
          rcases hp with rfl | rfl <;> exact .inl (by simp)
        intro h10 F10 N10
        clear F9 N9
        k_steps
        rename Fr _ _ _ _ => F9
        rename News _ _ _ _ => N9
        exact After.next (JA.step (x := .ask c) (tl' := (_, askO (done.length, [c], true) u' _) :: tl) hps hcs' rfl (by rw [asksFrom_snoc, Nat.zero_add]; exact hlaid.snoc) (htl' _ _ _ _) (ja_apart (allLt_mem l1.2.2) htn) hD hI rfl rfl rfl rfl (by rw [hi]; rw [htr]; rfl) F9 (ja_perm N9))
      · have a0 : AtOff l i 0 92 := hat 0 92 rfl
        have a1 : AtOff l i 1 45 := hat 1 45 rfl
        have s0 : SlOff l i 0 2 [92, 45] := slOff_mid hpre hprl (by decide) rfl
        replace hin : i + 3 ≤ l.length := hin
        k_steps
        rename Fr _ _ _ _ => F9
        rename News _ _ _ _ => N9
        rename _ ∧ _ ∧ AllLt _ _ => l1
        refine app_led (pre := [_, _]) F9 N9 ?_ hpD hszD ?_
        · intro p hp
          simp only [List.mem_cons, List.not_mem_nil, or_false] at hp
          rcases hp with rfl | rfl <;> exact .inl (by simp)
        intro h10 F10 N10
        clear F9 N9
        k_steps
        rename Fr _ _ _ _ => F9
        rename News _ _ _ _ => N9
        exact After.next (JA.step (x := .ask 45) (tl' := (_, askO (done.length, [45], true) u' _) :: tl) hps hcs' rfl (by rw [asksFrom_snoc, Nat.zero_add]; exact hlaid.snoc) (htl' _ _ _ _) (ja_apart (allLt_mem l1.2.2) htn) hD hI rfl rfl rfl rfl (by rw [hi]; show (i : Int) + 1 + 1 = (i : Int) + 2; omega) F9 (ja_perm N9))
  · rintro h tk ⟨done, rest, tl, vals, nn, mm, x, left, u1, u2, hps, hcs, rfl, rfl, hlaid, htl, htn, hD, hI, g1, g2, g3, g4, F, N⟩
    have hc10 : 10 ≤ done.length := by
      have := congrArg List.length hcs
      simp only [List.length_nil, List.length_drop, List.length_range] at this; omega
    have hfull : rest = [] ∧ star = false := by
      have h1 := congrArg List.length hps
      rw [List.length_append] at h1
      cases star with
      | true => simp at hlen; omega
      | false => simp at hlen; exact ⟨List.length_eq_zero_iff.mp (by omega), rfl⟩
    obtain ⟨rfl, rfl⟩ := hfull
    have hpd : ps = done := by rw [hps]; simp
    subst hpd
    have hpre : l = ([40, 63, 115, 58] ++ trs ps) ++ [41, 92, 90] := by rw [hl]; simp [trText, joined, trs]
    have hprl : ([40, 63, 115, 58] ++ trs ps).length = 4 + (trs ps).length := by simp; omega
    have n1 : (S (l.take 4) != Str.ofString "(?s:") = false := by rw [hpre, List.append_assoc]; exact lit4
    have n2 : (S (l.drop (4 + (trs ps).length)) != Str.ofString ")\\Z") = false := by rw [hpre, ← hprl, List.drop_left]; exact lit_end2
    have hin : 4 + (trs ps).length ≤ l.length := by rw [hpre, ← hprl]; simp
    refine next_ran_end rfl F N (ja_hne N htl hI) (by omega) ?_
    intro h4 F4 N4
    refine ⟨rfl, ?_⟩
    replace F4 := fr_puts F4 [("text", .str (S l) t), ("asks", .ref _), ("place", .int ((4 + (trs ps).length : Nat) : Int) u1), ("ending", .str (Str.ofString ")\\Z") u2)] (List.forall_mem_cons.mpr ⟨g1, List.forall_mem_cons.mpr ⟨g2, List.forall_mem_cons.mpr ⟨g3, List.forall_mem_cons.mpr ⟨g4, List.forall_mem_nil _⟩⟩⟩⟩)
    dsimp only [kstB] at F4
    clear F N g1 g2 g3 g4 F3 N3
    generalize 4 + (trs ps).length = i at F4 n2 hin
    k_steps
    show wpAny _ _ (execs _ _) _ _ _
    k_steps
    rename Fr h₀ _ _ _ => F6
    rename News h₀ _ _ _ => N6
    exact hret _ ((D, listOf vals.toArray nn) :: tl) _ _ ⟨D, rfl, hlaid.asksIn⟩ F6 N6 (ja_own hD htn)
end
end Mine
end
section
open PySem PySem.W PyProof.Rows PySem.Calls PySem.Spec
set_option maxRecDepth 100000
namespace Mine
section
variable {prog : Program} {w : World} {K : Frag} {p : Program} {loose : List Str} {mean : ExcName → Option Value} {mg mb : Str → Option Value}
variable {dp un : Nat} {gd : Option (List Code)} {cn : Str} {cs : Scope} {a : Addr} {ccd : Value} {cl : List (Str × Addr)} {outer : List Env} {A₀ : Around} {base h₀ : Heap} {L : Addr} {m : Str → Option Value} {news : Led} {s : Shared} {Q : Value → Shared → Prop}

/-- a def with names of its own that a lambda keeps -/
theorem enterC {name qual : Str} {params : Arguments} {body : List Stmt} {scope : Scope} {dV kV doc pm cdv ct oc : Value} {an od : Option Addr} {osl : Array (Option Value)} {f : Addr} {vs : List Value} {binds : List (Str × Value)}
    (ho : K.lookup f = some ⟨oc, od, .func (fnOf name qual params body scope dV kV doc pm an cdv ct), osl⟩) (hcd : codeIn K cdv qual = true)
    (hbind : BindsTo s (fnOf name qual params body scope dV kV doc pm an cdv ct) ⟨vs, []⟩ binds) (hkind : (binds.all fun y => scope.names.lookup y.1 == some .local || scope.names.lookup y.1 == some .cell) = true) (hnd : ((cellsFrom 0 scope.names []).map (·.1)).Nodup)
    (hco : scope.isCoroutine = false) (hgen : scope.isGenerator = false) (hkf : scope.kind = .function)
    (B : Below A₀ base outer h₀) (F : Fr h₀ L s.heap m) (X : K.In h₀) (N : News h₀ L s.heap news) (T : Top p loose mean mg mb h₀) (hk : cs.kind = .function) (hd : dp < recursionLimit)
    (h : ∀ g L' h₁ tk cells, Fr g L' h₁ (bindL (envOfC qual scope L' f cdv).kindOf binds fun _ => none) → News g L' h₁ (cells ++ news) → CellsAre (bindC (envOfC qual scope L' f cdv).kindOf binds fun _ => none) (cellsFrom (L' + 1) scope.names []) cells →
      Below (ktrTop dp un gd cn cs L a ccd cl outer) base (envX cn cs L a ccd cl :: outer) g → K.In g → Top p loose mean mg mb g → (∀ p ∈ news, p.1 < L') →
      wpAny (model prog w) (ktrTop (dp + 1) (un + 3) gd qual scope L' f cdv (cellsFrom (L' + 1) scope.names []) (envX cn cs L a ccd cl :: outer)) (execs body (envX qual scope L' f cdv (cellsFrom (L' + 1) scope.names [])))
        (fun fl s' => LeaveK h₀ L m g (Ends h₀ L m Q) (match fl with | .ret v => v | _ => .none) s') NoE { s with heap := h₁, toks := tk }) :
    wpAny (model prog w) (ktrTop dp un gd cn cs L a ccd cl outer) (call (.ref f) vs) Q NoE s := by
  refine wpAny_call (codeAny_mono (code_defC (R := Ends h₀ L m Q) B F X N T rfl rfl hk ho hcd hd hbind hkind hnd (fun g L' h₁ tk cells _ F' N' Y B' X' T' l => ?_) hco hgen hkf) fun r s' e => ?_)
  · exact lift (h g L' h₁ tk cells F' N' Y B' X' T' l)
  · cases r with
    | error e => exact e.elim
    | ok f => cases f with
      | ret v => exact e
      | _ => exact e.elim
/-- a lambda of the ledger -/
theorem enterLam {name qual : Str} {params : Arguments} {body : Expr} {scope : Scope} {clos : List (Str × Addr)} {pm ctv : Value} {f c' : Addr} {vs : List Value} {binds : List (Str × Value)}
    (ho : (f, kla_obj name qual params body scope clos pm c' ctv) ∈ news) (hcd : s.heap.CodeRec (.ref c') qual)
    (hbind : bindArgs (kla_fn name qual params body scope clos pm (.ref c') ctv) ⟨vs, []⟩ = pure binds) (hloc : ∀ y ∈ binds, scope.names.lookup y.1 = some .local)
    (hco : scope.isCoroutine = false) (hgen : scope.isGenerator = false) (hkf : scope.kind = .function) (hcell : ∀ x ∈ scope.names, x.2 ≠ .cell)
    (B : Below A₀ base outer h₀) (F : Fr h₀ L s.heap m) (X : K.In h₀) (N : News h₀ L s.heap news) (T : Top p loose mean mg mb h₀) (hk : cs.kind = .function) (hd : dp < recursionLimit)
    (h : ∀ g L' h₁ tk, Fr g L' h₁ (fun y => binds.reverse.lookup y) → News g L' h₁ news → Below (ktrTop dp un gd cn cs L a ccd cl outer) base (envX cn cs L a ccd cl :: outer) g → K.In g → Top p loose mean mg mb g →
      wpAny (model prog w) (ktrTop (dp + 1) (un + 3) gd qual scope L' f (.ref c') clos (envX cn cs L a ccd cl :: outer)) (eval body (envX qual scope L' f (.ref c') clos))
        (fun v s' => LeaveK h₀ L m g (Ends h₀ L m Q) v s') NoE { s with heap := h₁, toks := tk }) :
    wpAny (model prog w) (ktrTop dp un gd cn cs L a ccd cl outer) (call (.ref f) vs) Q NoE s := by
  refine wpAny_call (codeAny_mono (kla_code (R := Ends h₀ L m Q) B F X N T rfl rfl hk ho hcd hd hbind hloc (fun g L' h₁ _ F' N' B' X' T' => ?_) hco hgen hkf hcell) fun r s' e => ?_)
  · exact lift (h g L' h₁ _ F' N' B' X' T')
  · cases r with
    | error e => exact e.elim
    | ok f => cases f with
      | ret v => exact e
      | _ => exact e.elim
end
end Mine
end
section
open PySem PySem.W PyProof.Rows PySem.Calls PySem.Spec
set_option maxRecDepth 100000
set_option maxHeartbeats 4000000
namespace Mine
section
variable {w : World} {p : Program} {loose : List Str} {mean : ExcName → Option Value} {mg mb : Str → Option Value}
theorem lines_EN1 : True := by
  k_with_none
  k_with "my room" => ((try simp only [depth_under_make, depth_under_kw, depth_in1, depth_deeper, depth_caller]); (try dsimp only [ktrTop]); omega)
  trivial
/-- what a new Entry holds -/
noncomputable abbrev entEs (w : World) (a b : Addr) (t1 t2 t3 t4 : Tok) : List DictEntry :=
  [{ hash := PyData.keyHash w.params "useragents", key := .str "useragents" t1, val := .ref a }, { hash := PyData.keyHash w.params "rulelines", key := .str "rulelines" t2, val := .ref b },
   { hash := PyData.keyHash w.params "delay", key := .str "delay" t3, val := .none }, { hash := PyData.keyHash w.params "req_rate", key := .str "req_rate" t4, val := .none }]
theorem d_entry : Does PySem.Challenge.rw_in0284_01.row.prog w (hd0.heap_1 w.params) p loose mean mg mb 8 203 [] [] (fun _ => True)
    (fun v own => ∃ (x d a b : Addr) (t1 t2 t3 t4 : Tok), v = .ref x ∧ own = [(b, listOf #[] 0), (a, listOf #[] 0), (x, instObj 203 d), (d, dictOf (entEs w a b t1 t2 t3 t4) 4)] ∧ d < x ∧ x < a ∧ a < b) := by
  unfold Does
  k_fill
  intro dp un gd cn cs a ccd cl outer A₀ base h₀ L m news s Q B F X N hap hrd T hk hr hu hret
  rw [List.nil_append] at N
  obtain ⟨kd, nms, ig, ic, mo⟩ := cs
  replace hk : kd = .function := hk
  subst hk
  k_steps
  rename Fr h₀ _ _ _ => F6
  rename News h₀ _ _ _ => N6
  rename _ ∧ _ ∧ AllLt _ _ => l3
  rename _ ∧ _ ∧ _ ∧ AllLt _ _ => l4
  rename @LT.lt Nat _ _ _ => l2
  rename ∀ p ∈ news, p.1 < _ => l1
  refine hret _ [_, _, _, _] _ _ ⟨_, _, _, _, _, _, _, _, rfl, rfl, l2, l3.1, l4.1⟩ F6 N6 ?_
  intro p hp q hq
  have h1 := ltN (l1 q hq)
  have e1 := l3.1
  have e2 := l3.2.1
  have e4 := l4.1
  have e5 := l4.2.1
  simp only [List.mem_cons, List.not_mem_nil, or_false] at hp
  rcases hp with rfl | rfl | rfl | rfl <;> (refine neN ?_; dsimp only; omega)
end
end Mine
end
section
open PySem PySem.W PyProof.Rows PySem.Calls PySem.Spec
set_option maxRecDepth 100000
set_option maxHeartbeats 2000000
namespace Mine
section
variable {w : World} {p : Program} {loose : List Str} {mean : ExcName → Option Value} {mg mb : Str → Option Value}
theorem lines_RU1 : True := by
  k_with_none
  k_with "my mem" => assumption
  k_with "my all" => assumption
  k_with "my steps" => repeat' ((fail_if_success (with_reducible show wpAny _ _ (exec (Stmt.For _ _ _ _ _) _) _ _ _)); (fail_if_success (with_reducible show wpAny _ _ (exec (Stmt.While _ _ _ _) _) _ _ _)); (fail_if_success (with_reducible show wpAny _ _ (call (Value.ref 221) _) _ _ _)); (fail_if_success (with_reducible show wpAny _ _ (call (Value.ref 203) _) _ _ _)); (fail_if_success (with_reducible show wpAny _ _ (call (Value.ref 228) _) _ _ _)); (fail_if_success (with_reducible show wpAny _ _ (eval (Expr.Lambda _ _ _ _) _) _ _ _)); (fail_if_success (with_reducible show wpAny _ _ (eval (Expr.Name (Str.ofString "asks") _) _) _ _ _)); first | walk1 | (dsimp only; walk1) | (leave1; walk_say "STEP leave1"; try dsimp only) | fail "no step")
  k_with "my ite" => first | with_reducible refine ite_tt ?_ | with_reducible refine ite_ff ?_ | (refine ite_neg (by simp only [decide_eq_true_eq, beq_iff_eq, bne_iff_ne, ne_eq]; omega) ?_) | (refine ite_pos (by simp only [decide_eq_true_eq, beq_iff_eq, bne_iff_ne, ne_eq]; omega) ?_)
  k_with "my exec If" => refine wpAny_If ?_
  k_with "my eval Name" => (k_dflt (refine' nameX_L ?F ?v ?_ ?a ?b; (case F => k_asm); (case a => rfl); (case b => rfl); (case v => rfl); k_whole))
  k_with "my And" => ((with_reducible show PySem.Str.length (_ ++ _) ≤ sizeLine ∧ wpAny _ _ (joinParts _ _) _ _ _); refine ⟨by size_fits, ?_⟩)
  k_with "my room" => ((try simp only [depth_under_make, depth_under_kw, depth_in1, depth_deeper, depth_caller]); (try dsimp only [ktrTop]); omega)
  trivial
noncomputable def lamPos : Pos := ⟨248, 22, 248, 55⟩
noncomputable abbrev lamQual : Str := (Str.ofString "_law_rule" ++ ".<locals>.") ++ "<lambda>"
/-- the one lambda's code, once it is made -/
noncomputable def lamLed : Option (Addr × Obj) → Led
  | none => [(230, tabObj #[])]
  | some (c, o) => [(230, tabObj #[rawInt 248, rawInt 22, .ref c]), (c, o)]
noncomputable def LamOk : Option (Addr × Obj) → Prop
  | none => True
  | some (_, o) => ∃ vs t, o.data = .fields vs ∧ vs[1]? = some (.str lamQual t)
section
variable {M : Model} {A : Around} {E : Value → Shared → Prop} {s : Shared} {h₀ : Heap} {L a : Addr} {m : Str → Option Value} {cs : Scope} {ccd : Value} {cl : List (Str × Addr)}
  {params : Arguments} {body : Expr} {scope : Scope} {clos : List (Str × Addr)}
theorem lam_rule {k : Option (Addr × Obj)} {rest : Led} {Q : Value → Shared → Prop} {P : Addr → Obj → Addr → Obj → Prop} (F : Fr h₀ L s.heap m) (N : News h₀ L s.heap (lamLed k ++ rest)) (T : Top p loose mean mg mb h₀) (C : CodeHd h₀ 234 230) (hcd : ccd = .ref 234) (h2 : ∀ p ∈ rest, p.1 ≠ 230) (hk : LamOk k)
    (hdef : defaultsOf params (envX (Str.ofString "_law_rule") cs L a ccd cl) = ([], [])) (hcl : closureFor scope (envX (Str.ofString "_law_rule") cs L a ccd cl) = pure clos)
    (hP : ∀ f c' oc' pm ctv, LamOk (some (c', oc')) → P f (kla_obj "<lambda>" lamQual params body scope clos pm c' ctv) c' oc')
    (h : ∀ f oF c' oc' h' tk, P f oF c' oc' → LamOk (some (c', oc')) → Fr h₀ L h' m → News h₀ L h' ((f, oF) :: (lamLed (some (c', oc')) ++ rest)) → (∀ q ∈ rest, q.1 ≠ f) → (∀ q ∈ rest, (∀ c o, k = some (c, o) → q.1 ≠ c) → q.1 ≠ c') → (∀ y, k = some y → y = (c', oc')) → (230 : Addr) ≠ f ∧ c' ≠ f → Q (.ref f) { s with heap := h', toks := tk }) :
    wpAny M A (eval (.Lambda params body scope lamPos) (envX (Str.ofString "_law_rule") cs L a ccd cl)) Q E s := by
  refine kla_eval hdef ?_
  cases k with
  | none =>
    refine kla_nest (P := 230) (ps := #[]) (g := fun o => (230, o) :: rest) F N T C hcd (.head h2) trivial rfl hcl fun f c' oc vs t ctv h' tk F' N' hd hv hlt hlf => ?_
    refine h f _ c' oc h' tk (hP f c' oc ((mg "__name__").getD .none) ctv ⟨vs, t, hd, hv⟩) ⟨vs, t, hd, hv⟩ F' (news_sub (l' := (f, _) :: (lamLed (some (c', oc)) ++ rest)) N' fun q hq => ?_) (fun q hq => Nat.ne_of_lt (Nat.lt_trans (hlt q (.tail _ hq)) hlf)) (fun q hq _ => Nat.ne_of_lt (hlt q (.tail _ hq))) (fun y e => by cases e) ⟨Nat.ne_of_lt (Nat.lt_trans (hlt _ (.head _)) hlf), Nat.ne_of_lt hlf⟩
    rcases List.mem_cons.mp hq with rfl | hq
    · exact .head _
    · rcases List.mem_cons.mp hq with rfl | hq
      · exact .tail _ (.tail _ (.head _))
      · rcases List.mem_cons.mp hq with rfl | hq
        · exact .tail _ (.head _)
        · exact .tail _ (.tail _ (.tail _ hq))
  | some y =>
    obtain ⟨c', oc'⟩ := y
    refine kla_hit (P := 230) (ps := #[rawInt 248, rawInt 22, .ref c']) (c' := c') F N T C hcd (.head _) trivial rfl hcl fun f ctv h' tk F' N' hlt => ?_
    exact h f _ c' oc' h' tk (hP f c' oc' _ ctv hk) hk F' N' (fun q hq => Nat.ne_of_lt (hlt q (.tail _ (.tail _ hq)))) (fun q _ hq => hq c' oc' rfl) (fun y e => by cases e; rfl) ⟨Nat.ne_of_lt (hlt _ (.head _)), Nat.ne_of_lt (hlt _ (.tail _ (.head _)))⟩
end
section
variable (w : World) (p : Program) (loose : List Str) (mean : ExcName → Option Value) (mg mb : Str → Option Value)
/-- what the lambda answers -/
noncomputable def LamCalls (clos : List (Str × Addr)) (f : Addr) (oF : Obj) (c' : Addr) (oc' : Obj) : Prop := ∀ (c : Addr) (oc : Obj) (la : Addr) (rows : List Ask) (row : List Nat) (t : Tok), clos = [(Str.ofString "asks", c)] → oc.data = .cell (some (.ref la)) → (∀ k ∈ rows, k.1 < row.length) → row.length ≤ 1048576 → rows.length ≤ 1000 →
  Does PySem.Challenge.rw_in0284_01.row.prog w (hd0.heap_1 w.params) p loose mean mg mb 12 f [.str (S row) t] [] (fun news => (f, oF) ∈ news ∧ (c', oc') ∈ news ∧ (c, oc) ∈ news ∧ AsksIn news la rows) (fun v own => (∃ u, v = .int (reach rows row) u) ∧ own = [])
/-- a rule that _law_rule has made -/
noncomputable def RuleAt (own : Led) (X : Addr) (rows : List Ask) (b : Bool) : Prop := ∃ (d f a bb : Addr) (oF : Obj) (t1 t2 t3 t4 t5 t6 : Tok), (X, instObj 203 d) ∈ own ∧
  (d, dictOf (entEs w a bb t1 t2 t3 t4 ++ [{ hash := PyData.keyHash w.params "applies_to", key := .str "applies_to" t5, val := .ref f }, { hash := PyData.keyHash w.params "allowance", key := .str "allowance" t6, val := .bool b }]) 6) ∈ own ∧ (f, oF) ∈ own ∧ (∃ fd, oF.data = .func fd) ∧
  ∀ (row : List Nat) (t : Tok), row.length = 10 → Does PySem.Challenge.rw_in0284_01.row.prog w (hd0.heap_1 w.params) p loose mean mg mb 12 f [.str (S row) t] [] (fun news => ∀ q ∈ own, q ∈ news) (fun v o => (∃ u, v = .int (reach rows row) u) ∧ o = [])
end
theorem does_rd {prog : Program} {K : Frag} {r : Nat} {f : Addr} {vs : List Value} {own₀ : Led} {rd rd' : Led → Prop} {post : Value → Led → Prop} (D : Does prog w K p loose mean mg mb r f vs own₀ rd post) (h : ∀ news, rd' news → rd news) : Does prog w K p loose mean mg mb r f vs own₀ rd' post := by
  unfold Does at D ⊢
  intro dp un gd cn cs a ccd cl outer A₀ base h₀ L m news s Q B F X N hap hrd
  exact D dp un gd cn cs a ccd cl outer A₀ base h₀ L m news s Q B F X N hap (h _ hrd)
theorem asksFrom_lt : ∀ (ps : List Pc) (k : Nat), ∀ y ∈ asksFrom k ps, y.1 < k + ps.length
  | [], _, y, hy => absurd hy List.not_mem_nil
  | x :: r, k, y, hy => by
    rcases List.mem_append.mp hy with h | h
    · have : y.1 = k := by
        cases x with
        | any => exact absurd h List.not_mem_nil
        | bar c => rw [List.mem_singleton.mp h]
        | ask c => rw [List.mem_singleton.mp h]
      rw [this, List.length_cons]; omega
    · have := asksFrom_lt r (k + 1) y h
      rw [List.length_cons]; omega
theorem RuleAt.mono {l l' : Led} {X : Addr} {rows : List Ask} {b : Bool} (h : RuleAt w p loose mean mg mb l X rows b) (hs : ∀ q ∈ l, q ∈ l') : RuleAt w p loose mean mg mb l' X rows b := by
  obtain ⟨d, f, a, bb, oF, t1, t2, t3, t4, t5, t6, m1, m2, m3, hf, hc⟩ := h
  exact ⟨d, f, a, bb, oF, t1, t2, t3, t4, t5, t6, hs _ m1, hs _ m2, hs _ m3, hf, fun row t hrow => does_rd (hc row t hrow) fun nw h q hq => h q (hs q hq)⟩
theorem d_rule (ps : List Pc) (star : Bool) (l : List Nat) (hl : l = trText ps star) (t : Tok) (hok : ∀ x ∈ ps, x.Ok) (hlen : if star then ps.length < 10 else ps.length = 10) (b : Bool) (k : Option (Addr × Obj)) (hlam : LamOk k) : Does PySem.Challenge.rw_in0284_01.row.prog w (hd0.heap_1 w.params) p loose mean mg mb 20 235 [.str (S l) t, .bool b] (lamLed k) (fun _ => True)
    (fun v own => ∃ (X c : Addr) (oc : Obj) (own' : Led), v = .ref X ∧ LamOk (some (c, oc)) ∧ (∀ y, k = some y → y = (c, oc)) ∧ (∀ q ∈ own', q.1 ≠ 230 ∧ q.1 ≠ c) ∧ own = lamLed (some (c, oc)) ++ own' ∧ RuleAt w p loose mean mg mb ((c, oc) :: own') X (asksFrom 0 ps) b) := by
  unfold Does
  k_fill
  intro dp un gd cn cs a ccd cl outer A₀ base h₀ L m news s Q B F X N hap hrd T hk hr hu hret
  refine enterC (binds := [("text", .str (S l) t), ("verdict", .bool b)]) (by k_is) (by k_is) (BindsTo.of_eq rfl) rfl (by decide +kernel) rfl rfl rfl B F X N T hk (by omega) ?_
  intro g L' h₁ tk0 cells F' N' Y B' X' T' hlt
  obtain ⟨oc, rfl, hoc⟩ := CellsAre.one Y
  k_steps
  rename Fr _ _ _ _ => F9
  rename News _ _ _ _ => N9
  refine does_use (own₀ := []) (d_asks ps star l hl t hok hlen) (by k_asm) F9 (by k_asm) N9 (fun _ h => absurd h List.not_mem_nil) trivial (by k_asm) rfl (by omega) (by omega) ?_
  rintro v own h11 tk11 ⟨la, rfl, hasks⟩ F11 N11 hap11
  clear F9 N9
  k_steps
  rename Fr _ _ _ _ => F9
  rename News _ _ _ _ => N9
  replace N9 := news_sub (l' := (L' + 1, oc) :: (own ++ (lamLed k ++ news))) N9 (fun p hp => by
    rcases List.mem_cons.mp hp with rfl | hp
    · exact List.mem_append_right _ (.head _)
    · rcases List.mem_append.mp hp with hp | hp
      · exact List.mem_append_left _ hp
      · exact List.mem_append_right _ (.tail _ hp))
  have hcell : ∀ p ∈ (own ++ (lamLed k ++ news) : Led), p.1 ≠ L' + 1 := by
    intro p hp
    rcases List.mem_append.mp hp with hp | hp
    · exact fun e => hap11 p hp (L' + 1, oc) (.head _) e.symm
    · exact Nat.ne_of_lt (Nat.lt_succ_of_lt (hlt p hp))
  refine storeX_C F9 N9 rfl (.head hcell) hoc ?_
  intro h12 oc2 F12 N12 hoc2
  clear F9 N9
  k_steps
  rename Fr _ _ _ _ => F9
  rename News _ _ _ _ => N9
  refine does_use (own₀ := []) d_entry (by k_asm) F9 (by k_asm) N9 (fun _ h => absurd h List.not_mem_nil) trivial (by k_asm) rfl (by omega) (by omega) ?_
  rintro v own2 h13 tk13 ⟨x, d, ua, rl, e1, e2, e3, e4, rfl, rfl, dx, xa, ab⟩ F13 N13 hap13
  clear F9 N9
  k_steps
  rename Fr _ _ _ _ => F9
  rename News _ _ _ _ => N9
  have h230 : ∀ q ∈ (own ++ news : Led), q.1 ≠ 230 := by
    intro q hq
    have h230k : ∃ o, (230, o) ∈ lamLed k := by
      cases k with
      | none => exact ⟨_, .head _⟩
      | some y => exact ⟨_, .head _⟩
    obtain ⟨o, ho⟩ := h230k
    rcases List.mem_append.mp hq with hq | hq
    · exact fun e => hap11 q hq (230, o) (.tail _ (List.mem_append_right _ (List.mem_append_left _ ho))) e.symm
    · exact hap (230, o) ho q hq
  have hL1 : ∀ q ∈ ((L' + 1, oc2) :: (own ++ (lamLed k ++ news)) : Led), ∀ r ∈ ([(rl, listOf #[] 0), (ua, listOf #[] 0), (x, instObj 203 d), (d, dictOf (entEs w ua rl e1 e2 e3 e4) 4)] : Led), q.1 ≠ r.1 := fun q hq r hr => hap13 r hr q hq
  refine lam_rule (k := k) (rest := [(rl, listOf #[] 0), (ua, listOf #[] 0), (x, instObj 203 d), (d, dictOf (entEs w ua rl e1 e2 e3 e4) 4), (L' + 1, oc2)] ++ (own ++ news)) (clos := [(Str.ofString "asks", L' + 1)]) (P := fun f oF c' oc' => LamCalls w p loose mean mg mb [(Str.ofString "asks", L' + 1)] f oF c' oc' ∧ ∃ fd, oF.data = .func fd) F9 (news_sub N9 fun q hq => ?_) T' (code234 rfl X') rfl ?_ hlam rfl rfl ?_ ?_
  · simp only [List.mem_append, List.mem_cons, List.not_mem_nil, or_false] at hq ⊢
    rcases hq with h | ((h | h | h | h | h) | h | h)
    · exact .inr (.inr (.inr (.inl h)))
    · exact .inl (.inl h)
    · exact .inl (.inr (.inl h))
    · exact .inl (.inr (.inr (.inl h)))
    · exact .inl (.inr (.inr (.inr h)))
    · exact .inr (.inl h)
    · exact .inr (.inr (.inl h))
    · exact .inr (.inr (.inr (.inr h)))
  · obtain ⟨o230, ho230⟩ : ∃ o, (230, o) ∈ lamLed k := by
      cases k with
      | none => exact ⟨_, .head _⟩
      | some y => exact ⟨_, .head _⟩
    have hq230 : (230, o230) ∈ ((L' + 1, oc2) :: (own ++ (lamLed k ++ news)) : Led) := .tail _ (List.mem_append_right _ (List.mem_append_left _ ho230))
    intro q hq
    simp only [List.mem_append, List.mem_cons, List.not_mem_nil, or_false] at hq
    rcases hq with (rfl | rfl | rfl | rfl | rfl) | h
    · exact fun e => hL1 _ hq230 _ (.head _) e.symm
    · exact fun e => hL1 _ hq230 _ (.tail _ (.head _)) e.symm
    · exact fun e => hL1 _ hq230 _ (.tail _ (.tail _ (.head _))) e.symm
    · exact fun e => hL1 _ hq230 _ (.tail _ (.tail _ (.tail _ (.head _)))) e.symm
    · exact fun e => hcell (230, o230) (List.mem_append_right _ (List.mem_append_left _ ho230)) e.symm
    · exact h230 q (List.mem_append.mpr h)
  · intro f c' oc' pm ctv hok2
    refine ⟨?_, _, rfl⟩
    clear hoc
    intro c oc la rows row t hclos hoc hcol hb hb2
    clear F9 N9 hap13 hL1 h230 hcell hasks hap11 hret hap
    obtain ⟨vs9, tq9, hvs1, hvs2⟩ := hok2
    have hcc : L' + 1 = c := by
      have := congrArg (fun l => l.map (·.2)) hclos
      simpa using this
    subst hcc
    unfold Does
    intro dp un gd cn cs a ccd cl outer A₀ base h₀ L m news s Q B F X N hap hrd T hk hr hu hret
    obtain ⟨m1, m2, m3, hasks⟩ := hrd
    rw [List.nil_append] at N
    refine enterLam (binds := [("row", .str (S row) t)]) m1 (codeRec_news N m2 hvs1 hvs2) rfl (locs rfl) rfl rfl rfl (by decide) B F X N T hk (by omega) ?_
    intro g L' h₁ tk0 F' N' B' X' T'
    k_steps
    rename Fr _ _ _ _ => F9
    rename News _ _ _ _ => N9
    refine nameX_F N9 rfl m3 hoc ?_
    k_steps
    rename Fr _ _ _ _ => F9
    rename News _ _ _ _ => N9
    refine does_val (mk := fun u => .int _ u) (d_reach rows row la t hcol hb hb2) B' F9 X' N9 hasks T' rfl (by omega) (by omega) ?_
    intro u9 h9 tk9 F10 N10
    clear F9 N9
    k_steps
    rename Fr h₀ _ _ _ => F6
    rename News h₀ _ _ _ => N6
    exact hret _ [] _ _ ⟨⟨_, rfl⟩, rfl⟩ F6 N6 (fun _ h => nomatch h)
  · rintro f oF c' oc' h14 tk14 ⟨hcalls, hfun⟩ hlam' F14 N14 hf hc' hsame hff
    clear F9 N9
    have hk230 : ∃ o, (230, o) ∈ lamLed k := by
      cases k with
      | none => exact ⟨_, .head _⟩
      | some y => exact ⟨_, .head _⟩
    obtain ⟨o230, hk230⟩ := hk230
    have hkc : ∀ c o, k = some (c, o) → (c, o) ∈ lamLed k := by
      rintro c o rfl
      exact .tail _ (.head _)
    have hrest : (d, dictOf (entEs w ua rl e1 e2 e3 e4) 4) ∈ ([(rl, listOf #[] 0), (ua, listOf #[] 0), (x, instObj 203 d), (d, dictOf (entEs w ua rl e1 e2 e3 e4) 4), (L' + 1, oc2)] ++ (own ++ news) : Led) := .tail _ (.tail _ (.tail _ (.head _)))
    have hd4 : (d, dictOf (entEs w ua rl e1 e2 e3 e4) 4) ∈ ([(rl, listOf #[] 0), (ua, listOf #[] 0), (x, instObj 203 d), (d, dictOf (entEs w ua rl e1 e2 e3 e4) 4)] : Led) := .tail _ (.tail _ (.tail _ (.head _)))
    have hd9 : ∀ q ∈ ((f, oF) :: (rl, listOf #[] 0) :: (ua, listOf #[] 0) :: (L' + 1, oc2) :: (lamLed (some (c', oc')) ++ (own ++ news)) : Led), q.1 ≠ d := by
      intro q hq
      simp only [lamLed, List.mem_append, List.mem_cons, List.not_mem_nil, or_false] at hq
      rcases hq with rfl | rfl | rfl | rfl | ((rfl | rfl) | h | h)
      · exact fun e => hf _ hrest e.symm
      · exact (Nat.ne_of_gt (Nat.lt_trans dx (Nat.lt_trans xa ab)))
      · exact (Nat.ne_of_gt (Nat.lt_trans dx xa))
      · exact hL1 _ (.head _) _ hd4
      · exact hL1 _ (.tail _ (List.mem_append_right _ (List.mem_append_left _ hk230))) _ hd4
      · exact fun e => hc' _ hrest (fun c o e2 => fun e3 => hL1 _ (.tail _ (List.mem_append_right _ (List.mem_append_left _ (hkc c o e2)))) _ hd4 e3.symm) e.symm
      · exact hL1 _ (.tail _ (List.mem_append_left _ h)) _ hd4
      · exact hL1 _ (.tail _ (List.mem_append_right _ (List.mem_append_right _ h))) _ hd4
    replace N14 := news_sub (l' := (d, dictOf (entEs w ua rl e1 e2 e3 e4) 4) :: (x, instObj 203 d) :: ((f, oF) :: (rl, listOf #[] 0) :: (ua, listOf #[] 0) :: (L' + 1, oc2) :: (lamLed (some (c', oc')) ++ (own ++ news)))) N14 (fun q hq => by
      simp only [List.mem_append, List.mem_cons, List.not_mem_nil, or_false] at hq ⊢
      rcases hq with h | h | h | h | h | h | (h | h | h)
      · exact .inr (.inr (.inl (.inr (.inr (.inr (.inl h))))))
      · exact .inr (.inr (.inl (.inr (.inr (.inl h)))))
      · exact .inl h
      · exact .inr (.inr (.inl (.inl h)))
      · exact .inr (.inr (.inl (.inr (.inl h))))
      · exact .inr (.inr (.inl (.inr (.inr (.inr (.inr h))))))
      · exact .inr (.inl h)
      · exact .inr (.inr (.inr (.inl h)))
      · exact .inr (.inr (.inr (.inr h))))
    generalize htl : ((f, oF) :: (rl, listOf #[] 0) :: (ua, listOf #[] 0) :: (L' + 1, oc2) :: (lamLed (some (c', oc')) ++ (own ++ news)) : Led) = tl at hd9 N14
    have dxN := ltN dx
    k_steps
    rename Fr h₀ _ _ _ => F6
    rename News h₀ _ _ _ => N6
    obtain ⟨t5, t6, N6⟩ : ∃ t5 t6, News h₀ L _ ((d, dictOf (entEs w ua rl e1 e2 e3 e4 ++ [{ hash := PyData.keyHash w.params "applies_to", key := .str "applies_to" t5, val := .ref f }, { hash := PyData.keyHash w.params "allowance", key := .str "allowance" t6, val := .bool b }]) 6) :: (x, instObj 203 d) :: tl) := ⟨_, _, N6⟩
    generalize hdic : dictOf (entEs w ua rl e1 e2 e3 e4 ++ [{ hash := PyData.keyHash w.params "applies_to", key := .str "applies_to" t5, val := .ref f }, { hash := PyData.keyHash w.params "allowance", key := .str "allowance" t6, val := .bool b }]) 6 = dic at N6
    subst htl
    have hlen10 : ps.length ≤ 10 := by cases star <;> simp at hlen <;> omega
    have hL3 : ∀ q ∈ news, ∀ r ∈ ([(rl, listOf #[] 0), (ua, listOf #[] 0), (x, instObj 203 d), (d, dictOf (entEs w ua rl e1 e2 e3 e4) 4)] : Led), q.1 ≠ r.1 := fun q hq r hr => hL1 q (.tail _ (List.mem_append_right _ (List.mem_append_right _ hq))) r hr
    have hq230 : (230, o230) ∈ ((L' + 1, oc2) :: (own ++ (lamLed k ++ news)) : Led) := .tail _ (List.mem_append_right _ (List.mem_append_left _ hk230))
    have hkq : ∀ r ∈ ([(rl, listOf #[] 0), (ua, listOf #[] 0), (x, instObj 203 d), (d, dictOf (entEs w ua rl e1 e2 e3 e4) 4)] : Led), ∀ c o, k = some (c, o) → r.1 ≠ c := fun r hr c o e e2 => hL1 _ (.tail _ (List.mem_append_right _ (List.mem_append_left _ (hkc c o e)))) r hr e2.symm
    have hown9 : ∀ q ∈ ((d, dic) :: (x, instObj 203 d) :: (f, oF) :: (rl, listOf #[] 0) :: (ua, listOf #[] 0) :: (L' + 1, oc2) :: own : Led), q.1 ≠ 230 ∧ q.1 ≠ c' := by
      intro q hq
      simp only [List.mem_cons] at hq
      rcases hq with rfl | rfl | rfl | rfl | rfl | rfl | h
      · exact ⟨fun e => hL1 _ hq230 _ hd4 e.symm, hc' (d, dictOf (entEs w ua rl e1 e2 e3 e4) 4) hrest (hkq _ hd4)⟩
      · exact ⟨fun e => hL1 _ hq230 (x, instObj 203 d) (.tail _ (.tail _ (.head _))) e.symm, hc' (x, instObj 203 d) (.tail _ (.tail _ (.head _))) (hkq (x, instObj 203 d) (.tail _ (.tail _ (.head _))))⟩
      · exact ⟨fun e => hff.1 e.symm, fun e => hff.2 e.symm⟩
      · exact ⟨fun e => hL1 _ hq230 (rl, listOf #[] 0) (.head _) e.symm, hc' (rl, listOf #[] 0) (.head _) (hkq (rl, listOf #[] 0) (.head _))⟩
      · exact ⟨fun e => hL1 _ hq230 (ua, listOf #[] 0) (.tail _ (.head _)) e.symm, hc' (ua, listOf #[] 0) (.tail _ (.head _)) (hkq (ua, listOf #[] 0) (.tail _ (.head _)))⟩
      · exact ⟨fun e => hcell (230, o230) (List.mem_append_right _ (List.mem_append_left _ hk230)) e.symm, hc' (L' + 1, oc2) (.tail _ (.tail _ (.tail _ (.tail _ (.head _))))) (fun c o e e2 => hcell (c, o) (List.mem_append_right _ (List.mem_append_left _ (hkc c o e))) e2.symm)⟩
      · exact ⟨h230 q (List.mem_append_left _ h), hc' q (List.mem_append_right _ (List.mem_append_left _ h)) (fun c o e e2 => hap11 q h (c, o) (.tail _ (show (c, o) ∈ lamLed k ++ news from List.mem_append_left _ (hkc c o e))) e2.symm)⟩
    refine hret _ (lamLed (some (c', oc')) ++ ((d, dic) :: (x, instObj 203 d) :: (f, oF) :: (rl, listOf #[] 0) :: (ua, listOf #[] 0) :: (L' + 1, oc2) :: own)) _ _ ⟨x, c', oc', _, rfl, hlam', hsame, hown9, rfl, d, f, ua, rl, oF, e1, e2, e3, e4, t5, t6, .tail _ (.tail _ (.head _)), by rw [hdic]; exact .tail _ (.head _), .tail _ (.tail _ (.tail _ (.head _))), hfun, fun row t hrow => ?_⟩ F6 (news_sub N6 fun q hq => ?_) ?_
    · refine does_rd (hcalls (L' + 1) oc2 la (asksFrom 0 ps) row t rfl hoc2 (fun y hy => by have := asksFrom_lt ps 0 y hy; omega) (by omega) (by have := asksFrom_len ps 0; omega)) fun nw hnw => ⟨hnw _ ?_, hnw _ (.head _), hnw _ ?_, hasks.mono fun q hq => hnw _ ?_⟩
      · exact .tail _ (.tail _ (.tail _ (.head _)))
      · exact .tail _ (.tail _ (.tail _ (.tail _ (.tail _ (.tail _ (.head _))))))
      · exact .tail _ (.tail _ (.tail _ (.tail _ (.tail _ (.tail _ (.tail _ hq))))))
    · simp only [lamLed, List.mem_append, List.mem_cons, List.not_mem_nil, or_false] at hq ⊢
      rcases hq with ((h | h) | h | h | h | h | h | h | h) | h
      · exact .inr (.inr (.inr (.inr (.inr (.inr (.inl (.inl h)))))))
      · exact .inr (.inr (.inr (.inr (.inr (.inr (.inl (.inr h)))))))
      · exact .inl h
      · exact .inr (.inl h)
      · exact .inr (.inr (.inl h))
      · exact .inr (.inr (.inr (.inl h)))
      · exact .inr (.inr (.inr (.inr (.inl h))))
      · exact .inr (.inr (.inr (.inr (.inr (.inl h)))))
      · exact .inr (.inr (.inr (.inr (.inr (.inr (.inr (.inl h)))))))
      · exact .inr (.inr (.inr (.inr (.inr (.inr (.inr (.inr h)))))))
    · intro r hr q hq
      simp only [lamLed, List.mem_append, List.mem_cons, List.not_mem_nil, or_false] at hr
      rcases hr with (rfl | rfl) | rfl | rfl | rfl | rfl | rfl | rfl | h
      · exact h230 q (List.mem_append_right _ hq)
      · exact hc' q (List.mem_append_right _ (List.mem_append_right _ hq)) (fun c o e => hap (c, o) (hkc c o e) q hq)
      · exact hL3 q hq (d, dictOf (entEs w ua rl e1 e2 e3 e4) 4) hd4
      · exact hL3 q hq (x, instObj 203 d) (.tail _ (.tail _ (.head _)))
      · exact hf q (List.mem_append_right _ (List.mem_append_right _ hq))
      · exact hL3 q hq _ (.head _)
      · exact hL3 q hq _ (.tail _ (.head _))
      · exact hcell q (List.mem_append_right _ (List.mem_append_right _ hq))
      · exact hap11 r h q (.tail _ (show q ∈ lamLed k ++ news from List.mem_append_right _ hq))
end
end Mine
end
section
open PySem PySem.W PyProof.Rows PySem.Calls PySem.Spec
set_option maxRecDepth 100000
namespace Mine
section
variable {prog : Program} {w : World} {A : Around} {E : Value → Shared → Prop} {s : Shared} {K : Frag} {h₀ : Heap} {L x C : Addr} {ox : Obj} {m : Str → Option Value} {name : Str} {es : List DictEntry} {n : Nat} {v a g : Value} {od : Obj}
theorem findObj_shadow (hh : hasDictIn K C = true) (ha : findIn K (.ref C) name = some (some a)) (hg : specialIn K a "__get__" = some (some g)) (ht : takesIn K a = some false) (hl : lookIn name od = some (some v)) :
    findObj K C (some od) name = some (.value v) := by
  obtain ⟨cd, hc, hd⟩ := any_some hh
  unfold findObj
  rw [hc, Option.bind_some, ha, Option.bind_some]
  have ho : W.ownOf cd (some od) name = some (some v) := by unfold W.ownOf; rw [if_pos hd]; exact hl
  simp [hg, ht, ho]
/-- an object's own attribute ahead of its class's function -/
theorem get_shadow {expr : Bool} {Q : Value → Shared → Prop} (F : Fr h₀ L s.heap m) (X₀ : K.In h₀) (I : InstAt s.heap x ox C (some (dictOf es n))) (hg : plainGet K C name = true) (hh : hasDictIn K C = true)
    (ha : findIn K (.ref C) name = some (some a)) (hn : specialIn K a "__get__" = some (some g)) (ht : takesIn K a = some false) (hl : getL name es = some (some v)) (hv : handedIn v = true) (h : Q v { s with toks := s.toks + 1 }) :
    wpAny (model prog w) A (getAttr (.ref x) name expr) Q E s :=
  get_value (X₀.keeps F.keep) I (plainGet_of hg).1 (findObj_shadow hh ha hn ht hl) hv h
theorem method_shadow {pl : Sem Bool} {Q : Value × List Value → Shared → Prop} {f : Addr} (F : Fr h₀ L s.heap m) (X₀ : K.In h₀) (I : InstAt s.heap x ox C (some (dictOf es n))) (hg : plainGet K C name = true) (hh : hasDictIn K C = true)
    (hf : findIn K (.ref C) name = some (some (.ref f))) (hfn : isFn K (.ref f) = true) (hn : specialIn K (.ref f) "__get__" = some (some g)) (ht : takesIn K (.ref f) = some false) (hl : getL name es = some (some v)) (hv : handedIn v = true) (h : Q (v, []) { s with toks := s.toks + 1 }) :
    wpAny (model prog w) A (getMethod (.ref x) name pl) Q E s := by
  have X := X₀.keeps F.keep
  have hga := (plainGet_of hg).1
  have hk := (plainGet_of hg).2
  have hcan := PySem.F.canon_object_ga
  have u : wpAny (model prog w) A (do return (← getAttr (.ref x) name, ([] : List Value))) Q E s := wpAny_bind (get_shadow F X₀ I hg hh hf hn ht hl hv (wpAny_pure h))
  unfold getMethod specialOf
  refine wpAny_bind (wpAny_bind (I.type.here ((looks_findIn X hga).here ?_)))
  dsimp only
  rw [hcan, if_neg (by decide)]
  refine wpAny_bind (wpAny_bind (I.type.here ((looks_findIn X hk).here ?_)))
  refine wpAny_bind (wpAny_bind (I.type.here ((looks_findIn X hf).here (wpAny_bind ((looks_typeIn X (beq_iff_eq.mp hfn)).here ?_)))))
  rw [if_neg (by decide +kernel)]
  refine wpAny_bind (wpAny_loadPart I.at_ ?_)
  have hd := I.dict
  cases e : ox.dict with
  | none => rw [e] at hd; exact hd.elim
  | some dx =>
    rw [e] at hd
    have hs : (lookIn name (dictOf es n)).map (·.isSome) = some true := by rw [lookIn_dict, hl]; rfl
    obtain ⟨r, a, b⟩ := Option.map_eq_some_iff.mp hs
    refine wpAny_bind (wpAny_bind (wpAny_loadPart hd ?_))
    rw [nsLook_of a]
    refine wpAny_pure ?_
    rw [b]
    exact u
end
end Mine
end
section
open PySem PySem.W PyProof.Rows PySem.Calls PySem.Spec
set_option maxRecDepth 100000
set_option maxHeartbeats 1000000
namespace Mine
section
variable {prog : Program} {w : World} {M : Model} {A : Around} {E : Value → Shared → Prop} {s : Shared} {h₀ : Heap} {L : Addr} {m : Str → Option Value} {news : Led}
noncomputable def FnAt (q : Addr) (h : Heap) : Prop := ∃ o fd, h.get? q = some o ∧ o.data = .func fd
theorem FnAt.of {q : Addr} {o : Obj} {h : Heap} (N : News h₀ L h news) (hm : (q, o) ∈ news) (hd : ∃ fd, o.data = .func fd) : FnAt q h := ⟨o, hd.choose, (N _ hm).1, hd.choose_spec⟩
theorem keeps_Fn {q : Addr} (h : Heap) (X : FnAt q h) : ∃ k, (k = Keeper.frame ∨ k = Keeper.machine ∨ k = Keeper.boundFrame) ∧ Looks M h (keeperOf (.ref q)) k :=
  let ⟨o, fd, e, hd⟩ := X; ⟨.frame, .inl rfl, (Looks.ld (part := none) e).andThen (by rw [hd]; exact .now)⟩
theorem callWith_Fn {env : Env} {pos : Pos} {q : Addr} {e : Expr} {rest : List Expr} {first : List Value} {Q : Value → Shared → Prop} (h : wpAny M A (spliced (backTo pos (starEach (e :: rest) env))) (fun vs s₁ => FnAt q s₁.heap ∧ wpAny M A (call (.ref q) (first ++ vs)) Q E s₁) E s)
    (he : starEach (e :: rest) env = (false, eval e env) :: starEach rest env := by rfl) (hplain : (backTo pos (starEach rest env)).any (·.1) = false := by rfl) :
    wpAny M A (callWith pos (.ref q) first (backTo pos (starEach (e :: rest) env)) []) Q E s := by
  rw [he] at h ⊢
  exact callWith_of (by show ((false || (backTo pos (starEach rest env)).any (·.1)) || false) = false; rw [hplain]; rfl) keeps_Fn (evalArgs_plain h)
end
/-- which rule tells -/
noncomputable def allowFrom (row : List Nat) : List (List Ask × Bool) → Int → Bool → Bool
  | [], _, al => al
  | r :: l, best, al => if reach r.1 row ≠ 0 then (if best < reach r.1 row then allowFrom row l (reach r.1 row) r.2 else if reach r.1 row = best ∧ al = false then allowFrom row l best r.2 else allowFrom row l best al) else allowFrom row l best al
section
variable {row : List Nat} {r : List Ask × Bool} {l : List (List Ask × Bool)} {best m9 : Int} {al : Bool}
theorem allow1 (hm : reach r.1 row = m9) (h0 : m9 ≠ 0) (h : best < m9) : allowFrom row (r :: l) best al = allowFrom row l m9 r.2 := by subst hm; exact (if_pos h0).trans (if_pos h)
theorem allow2 (hm : reach r.1 row = m9) (h0 : m9 ≠ 0) (h : ¬ best < m9) (he : m9 = best) (ha : al = true) : allowFrom row (r :: l) best al = allowFrom row l best al := by
  subst hm; exact (if_pos h0).trans ((if_neg h).trans (if_neg (by rw [ha]; simp)))
theorem allow3 (hm : reach r.1 row = m9) (h0 : m9 ≠ 0) (h : ¬ best < m9) (he : m9 = best) (ha : al = false) : allowFrom row (r :: l) best al = allowFrom row l best r.2 := by
  subst hm; exact (if_pos h0).trans ((if_neg h).trans (if_pos ⟨he, ha⟩))
theorem allow4 (hm : reach r.1 row = m9) (h0 : m9 ≠ 0) (h : ¬ best < m9) (he : m9 ≠ best) : allowFrom row (r :: l) best al = allowFrom row l best al := by
  subst hm; exact (if_pos h0).trans ((if_neg h).trans (if_neg (fun e => he e.1)))
theorem allow5 (hm : reach r.1 row = m9) (h0 : m9 = 0) : allowFrom row (r :: l) best al = allowFrom row l best al := by
  subst hm; exact if_neg (fun e => e h0)
end
section
variable (w : World) (p : Program) (loose : List Str) (mean : ExcName → Option Value) (mg mb : Str → Option Value)
/-- a list of rules, as it lies -/
noncomputable def RulesIn (news : Led) (vals : List Value) (rules : List (List Ask × Bool)) : Prop := vals.length = rules.length ∧ ∀ (i : Nat) (r : List Ask × Bool), rules[i]? = some r → ∃ X, vals[i]? = some (Value.ref X) ∧ RuleAt w p loose mean mg mb news X r.1 r.2
end
section
variable {w : World} {p : Program} {loose : List Str} {mean : ExcName → Option Value} {mg mb : Str → Option Value}
theorem lines_AL1 : True := by
  k_with_none
  k_with "my mem" => assumption
  k_with "my all" => assumption
  k_with "my steps" => repeat' ((fail_if_success (with_reducible show wpAny _ _ (exec (Stmt.For _ _ _ _ _) _) _ _ _)); (fail_if_success (with_reducible show wpAny _ _ (exec (Stmt.While _ _ _ _) _) _ _ _)); (fail_if_success (with_reducible show wpAny _ _ (call (Value.ref _) _) _ _ _)); first | walk1 | (dsimp only; walk1) | (leave1; walk_say "STEP leave1"; try dsimp only) | fail "no step")
  k_with "my ite" => first | with_reducible refine ite_tt ?_ | with_reducible refine ite_ff ?_ | (refine ite_neg (by simp only [decide_eq_true_eq, beq_iff_eq, bne_iff_ne, ne_eq]; omega) ?_) | (refine ite_pos (by simp only [decide_eq_true_eq, beq_iff_eq, bne_iff_ne, ne_eq]; omega) ?_)
  k_with "my exec If" => refine wpAny_If ?_
  k_with "my eval Name" => (k_dflt (refine' nameX_L ?F ?v ?_ ?a ?b; (case F => k_asm); (case a => rfl); (case b => rfl); (case v => rfl); k_whole))
  k_with "my callWith ref" => ((with_reducible show wpAny _ _ (callWith _ (Value.ref _) [] _ []) _ _ _); k_dflt (refine callWith_Fn ?_))
  k_with "my And" => ((with_reducible show FnAt _ _ ∧ _); refine And.intro (FnAt.of (by k_asm) (by assumption) (by assumption)) ?_)
  k_with "my getMethod ref" => (k_dflt (refine' method_shadow ?k1 ?k2 ?k3 ?k4 ?k5 ?k6 ?k7 ?k8 ?k9 ?k10 ?k11 ?_; (case k1 => k_asm); (case k2 => k_asm); (case k3 => k_inst); (case k4 => k_is); (case k5 => k_is); (case k6 => k_is); (case k7 => k_is); (case k8 => k_is); (case k9 => k_is); (case k10 => k_get); (case k11 => k_handed); k_whole))
  k_with "my getAttr ref" => (k_dflt (refine' get_shadow ?k1 ?k2 ?k3 ?k4 ?k5 ?k6 ?k7 ?k8 ?k9 ?k10 ?_; (case k1 => k_asm); (case k2 => k_asm); (case k3 => k_inst); (case k4 => k_is); (case k5 => k_is); (case k6 => k_is); (case k7 => k_is); (case k8 => k_is); (case k9 => k_get); (case k10 => k_handed); k_whole))
  k_with "my room" => ((try simp only [depth_under_make, depth_under_kw, depth_in1, depth_deeper, depth_caller]); (try dsimp only [ktrTop]); omega)
  trivial
noncomputable def JAl (g : Heap) (L' bb I : Addr) (news : Led) (row : List Nat) (t : Tok) (rules : List (List Ask × Bool)) (r : List (List Ask × Bool)) (h : Heap) : Prop :=
  ∃ (i : Nat) (o : Obj) (mm : Str → Option Value) (best : Int) (al : Bool) (u : Tok), rules.drop i = r ∧ i + r.length = rules.length ∧ LstIt bb i o ∧ allowFrom row r best al = allowFrom row rules (-1) true ∧ -1 ≤ best ∧ best ≤ 100 ∧ mm "filename" = some (.str (S row) t) ∧ mm "best_match" = some (.int best u) ∧ mm "allowance" = some (.bool al) ∧ Fr g L' h mm ∧ News g L' h ((I, o) :: news)
theorem d_allow (rules : List (List Ask × Bool)) (row : List Nat) (X d a bb : Addr) (t1 t2 t3 t4 : Tok) (vals : List Value) (n : Nat) (t : Tok) (hrow : row.length = 10) (hb : rules.length ≤ 1000) (hpos : ∀ r ∈ rules, 0 ≤ reach r.1 row ∧ reach r.1 row ≤ 100) :
    Does PySem.Challenge.rw_in0284_01.row.prog w (hd0.heap_1 w.params) p loose mean mg mb 24 200 [.ref X, .str (S row) t] []
      (fun news => (X, instObj 203 d) ∈ news ∧ (d, dictOf (entEs w a bb t1 t2 t3 t4) 4) ∈ news ∧ (bb, listOf vals.toArray n) ∈ news ∧ RulesIn w p loose mean mg mb news vals rules) (fun v own => v = .bool (allowFrom row rules (-1) true) ∧ own = []) := by
  unfold Does
  k_fill
  intro dp un gd cn cs ad ccd cl outer A₀ base h₀ L m news s Q B F X9 N hap hrd T hk hr hu hret
  refine enter (binds := [("self", .ref X), ("filename", .str (S row) t)]) (by k_is) (by k_is) (BindsTo.of_eq rfl) (locs rfl) rfl rfl rfl (by decide) B F X9 N T hk (by omega) ?_
  intro g L' h₁ tk0 F' N' B' X' T'
  rw [List.nil_append] at N'
  obtain ⟨m1, m2, m3, hrules⟩ := hrd
  k_steps
  refine for_do ?_
  k_steps
  rename Fr _ _ _ _ => F2
  rename News _ _ _ _ => N2
  have hvl : vals.length = rules.length := hrules.1
  refine iter_lst F2 N2 (isList_of N2 m3) ?_
  intro I o h3 hI F3 N3 hne
  refine for_indN (J := JAl g L' bb I news row t rules) rules ⟨0, o, _, _, _, _, rfl, Nat.zero_add _, hI, rfl, by decide, by decide, rfl, rfl, rfl, F3, N3⟩ ?_ ?_
  · rintro r rs h tk ⟨i, o, mm, best, al, u, hdr, hil, hI, htl, hb1, hb2, g1, g2, g3, F, N⟩
    have hx : rules[i]? = some r := by rw [← List.head?_drop, hdr]; rfl
    have hdk : rules.drop (i + 1) = rs := by
      have := congrArg List.tail hdr
      rw [List.tail_drop] at this
      exact this
    have hil' : i + 1 + rs.length = rules.length := by simp only [List.length_cons] at hil; omega
    obtain ⟨Xr, hv, d9, f, a9, b9, oF, q1, q2, q3, q4, q5, q6, k1, k2, k3, kf, kcall⟩ := hrules.2 i r hx
    have hr9 := hpos r (List.mem_of_getElem? hx)
    refine next_lst F N hne hI (isList_of N (.tail _ m3)) (v := .ref Xr) (by simpa using hv) ?_
    intro h' o' hI' F4 N4
    replace F4 := fr_puts F4 [("filename", .str (S row) t), ("best_match", .int best u), ("allowance", .bool al)] (List.forall_mem_cons.mpr ⟨g1, List.forall_mem_cons.mpr ⟨g2, List.forall_mem_cons.mpr ⟨g3, List.forall_mem_nil _⟩⟩⟩)
    dsimp only [kstB] at F4
    clear F N g1 g2 g3 F3 N3
    have k1' : (Xr, instObj 203 d9) ∈ ((I, o') :: news : Led) := .tail _ k1
    have k2' := List.mem_cons_of_mem (I, o') k2
    have k3' : (f, oF) ∈ ((I, o') :: news : Led) := .tail _ k3
    k_steps
    rename Fr _ _ _ _ => F9
    rename News _ _ _ _ => N9
    refine does_val (mk := fun u => .int _ u) (kcall row t hrow) B' F9 X' N9 (fun q hq => .tail _ hq) T' rfl (by omega) (by omega) ?_
    intro u9 h9 tk9 F10 N10
    clear F9 N9
    generalize hm9 : reach r.1 row = m9 at hr9
    k_steps
    all_goals rename Fr g _ _ _ => F9
    all_goals rename News g _ _ _ => N9
    · exact After.next ⟨i + 1, _, _, m9, _, _, hdk, hil', hI', by rw [← htl]; exact (allow1 hm9 (by assumption) (by assumption)).symm, by omega, by omega, rfl, rfl, rfl, F9, N9⟩
    · exact After.next ⟨i + 1, _, _, best, _, _, hdk, hil', hI', by rw [← htl]; exact (allow2 hm9 (by assumption) (by assumption) (by assumption) (by assumption)).symm, by omega, by omega, rfl, rfl, rfl, F9, N9⟩
    · exact After.next ⟨i + 1, _, _, best, _, _, hdk, hil', hI', by rw [← htl]; exact (allow3 hm9 (by assumption) (by assumption) (by assumption) (by assumption)).symm, by omega, by omega, rfl, rfl, rfl, F9, N9⟩
    · exact After.next ⟨i + 1, _, _, best, _, _, hdk, hil', hI', by rw [← htl]; exact (allow4 hm9 (by assumption) (by assumption) (by assumption)).symm, by omega, by omega, rfl, rfl, rfl, F9, N9⟩
    · exact After.next ⟨i + 1, _, _, best, _, _, hdk, hil', hI', by rw [← htl]; exact (allow5 hm9 (by assumption)).symm, by omega, by omega, rfl, rfl, rfl, F9, N9⟩
  · rintro h tk ⟨i, o, mm, best, al, u, hdr, hil, hI, htl, hb1, hb2, g1, g2, g3, F, N⟩
    have hx : rules[i]? = none := by rw [← List.head?_drop, hdr]; rfl
    have hv : vals[i]? = none := by rw [List.getElem?_eq_none_iff] at hx ⊢; omega
    refine next_lst_end rfl F N hne hI (isList_of N (.tail _ m3)) (by simpa using hv) ?_
    intro h4 F4 N4
    refine ⟨rfl, ?_⟩
    replace F4 := fr_puts F4 [("allowance", .bool al)] (List.forall_mem_cons.mpr ⟨g3, List.forall_mem_nil _⟩)
    dsimp only [kstB] at F4
    clear F N
    k_steps
    show wpAny _ _ (execs _ _) _ _ _
    k_steps
    rename Fr h₀ _ _ _ => F6
    rename News h₀ _ _ _ => N6
    exact hret _ [] _ _ ⟨by rw [← htl]; rfl, rfl⟩ F6 N6 (fun _ h => nomatch h)
end
end Mine
end
section
open PySem PySem.W PyProof.Rows PySem.Calls PySem.Spec
set_option maxRecDepth 100000
namespace Mine
theorem slot_object_init : Slot "object" "__init__" "object.__init__" :=
  .of (owner := "object") (n := "__init__") (by rw [typeLookup_type, builtinLookup_eq_fast]; kernel_rfl) (by decide +kernel) (by decide +kernel) (by decide +kernel)
    (by first | exact .inl (by decide +kernel) | exact .inr (by decide +kernel)) (by rw [isSubtype_type]; kernel_rfl)
theorem mro_object : mroOf (.type "object") = pure [.type "object"] := by kernel_rfl
theorem entry_object_new : entryFor table "object.__new__" = some Builtin.«object.__new__» := entryFor_of_tree (by kernel_rfl)
theorem lookup_object_new : typeLookup (.type "object") "__new__" = pure (some (.builtin "object.__new__")) := by rw [typeLookup_type, builtinLookup_eq_fast]; kernel_rfl
theorem called_object : TypeCalled "object" "object.__new__" "object.__init__" :=
  ⟨by decide +kernel, by decide +kernel, ⟨_, _, mro_object⟩, madeBy_type mro_object lookup_object_new (by decide +kernel), by decide +kernel, by rw [isSubtype_type]; kernel_rfl, slot_object_init⟩
theorem typeCall_object : checkTypeCall "object" ⟨[], []⟩ = pure () := by kernel_rfl
theorem newCall_object : checkBuiltinCall "object.__new__" ⟨[.type "object"], []⟩ = pure () := by kernel_rfl
theorem args_object_init0 (a : Value) : argsOk "object.__init__" ⟨[a], []⟩ := by unfold argsOk; kernel_rfl
theorem object_new_meets : Meets (Builtin.«object.__new__» ⟨[.type "object"], []⟩) (fun _ R s => R (.ok (.ret (.ref s.heap.objs.size))) { s with heap := s.heap.push { cls := .type "object", data := .plain } }) :=
  .of_wp fun prog w A R s hs => by
    have h1 := called_object.made
    unfold Builtin.«object.__new__»
    repeat (any_goals (first | assumption | wp_step))
    exact ⟨_, rfl, hs⟩
section
variable {prog : Program} {w : World} {A : Around} {E : Value → Shared → Prop} {s : Shared} {h₀ : Heap} {L : Addr} {m : Str → Option Value} {news : Led}
theorem call_object {Q : Value → Shared → Prop} (F : Fr h₀ L s.heap m) (N : News h₀ L s.heap news)
    (h : ∀ st h', Fr h₀ L h' m → News h₀ L h' ((st, { cls := .type "object", data := .plain }) :: news) → (∀ p ∈ news, p.1 ≠ st) → Q (.ref st) { s with heap := h' }) : wpAny (model prog w) A (call (.type "object") []) Q E s := by
  refine callType_meets (Q₁ := fun obj s₁ => obj = .ref s.heap.objs.size ∧ s₁ = { s with heap := s.heap.push { cls := .type "object", data := .plain } }) called_object typeCall_object newCall_object entry_object_new PySem.F.entry_object_init object_new_meets ⟨rfl, rfl⟩ ?_
  rintro obj s₁ ⟨rfl, rfl⟩
  refine ⟨⟨_, Heap.get?_push_size _ rfl, rfl⟩, args_object_init0 _, (fun _ R s => R (.ok (.ret .none)) s), ?_, rfl, ?_⟩
  · exact .of_wp fun prog w A R s hs => wpAny_pure ⟨_, rfl, hs⟩
  · exact h _ _ (F.push _) (N.push F _) fun p hp => Nat.ne_of_lt (Heap.lt_size (N p hp).1)
end
end Mine
end
section
open PySem PySem.W PyProof.Rows PySem.Calls PySem.Spec
set_option maxRecDepth 100000
set_option maxHeartbeats 4000000
namespace Mine
section
variable {w : World} {p : Program} {loose : List Str} {mean : ExcName → Option Value} {mg mb : Str → Option Value}
theorem lines_TT1 : True := by
  k_with_none
  k_with "my steps" => repeat' ((fail_if_success (with_reducible show wpAny _ _ (exec (Stmt.For _ _ _ _ _) _) _ _ _)); (fail_if_success (with_reducible show wpAny _ _ (exec (Stmt.While _ _ _ _) _) _ _ _)); (fail_if_success (with_reducible show wpAny _ _ (call (Value.ref 158) _) _ _ _)); (fail_if_success (with_reducible show wpAny _ _ (call (Value.ref 165) _) _ _ _)); first | walk1 | (dsimp only; walk1) | (leave1; walk_say "STEP leave1"; try dsimp only) | fail "no step")
  k_with "my ite" => first | (refine ite_neg (by simp only [decide_eq_true_eq, beq_iff_eq, bne_iff_ne, ne_eq]; omega) ?_) | (refine ite_pos (by simp only [decide_eq_true_eq, beq_iff_eq, bne_iff_ne, ne_eq]; omega) ?_)
  k_with "my room" => ((try simp only [depth_under_make, depth_under_kw, depth_in1, depth_deeper, depth_caller]); (try dsimp only [ktrTop]); omega)
  trivial
theorem d_translate (ps : List Pc) (star : Bool) (l : List Nat) (hl : l = srcs ps ++ if star then [42] else []) (tab : Array Value) (t : Tok) (hok : ∀ x ∈ ps, x.Ok) (hlen : ps.length ≤ 10) (htab : TabFine tab) : DoesG PySem.Challenge.rw_in0284_01.row.prog w (hd0.heap_1 w.params) p loose mean mg mb 20 139 [.str (S l) t] [(153, tabObj tab)] (fun _ => True)
    (fun v own => ∃ (tab' : Array Value) (u : Tok), v = .str (S (trText ps star)) u ∧ own = [(153, tabObj tab')] ∧ TabFine tab') := by
  unfold DoesG
  k_fill
  intro dp un gd cn cs a ccd cl outer A₀ base h₀ L m news s Q B F X N hap hrd T hk hr hu hgens hret
  refine enter (binds := [("pat", .str (S l) t)]) (by k_is) (by k_is) (BindsTo.of_eq rfl) (locs rfl) rfl rfl rfl (by decide) B F X N T hk (by omega) ?_
  intro g L' h₁ tk0 F' N' B' X' T'
  have h153 : ∀ p ∈ news, p.1 ≠ 153 := fun p hp => hap (153, tabObj tab) (.head _) p hp
  k_steps
  rename Fr _ _ _ _ => F9
  rename News _ _ _ _ => N9
  refine call_object F9 N9 ?_
  intro st h9 F10 N10 hst
  clear F9 N9
  k_steps
  rename Fr _ _ _ _ => F9
  rename News _ _ _ _ => N9
  have hst1 : (153 : Addr) ≠ st := hst (153, tabObj tab) (.head _)
  refine doesG_use (news := (st, { cls := .type "object", data := .plain }) :: news) (d_trans ps star l hl st tab t _ hok hlen htab) (by k_asm) F9 (by k_asm) (news_sub N9 fun p hp => ?_) ?_ trivial (by k_asm) rfl (by omega) (by omega) hgens ?_
  · rcases List.mem_cons.mp hp with rfl | hp
    · exact .tail _ (.head _)
    · rcases List.mem_cons.mp hp with rfl | hp
      · exact .head _
      · exact .tail _ (.tail _ hp)
  · intro p hp q hq
    rw [List.mem_singleton.mp hp]
    rcases List.mem_cons.mp hq with rfl | hq
    · exact fun e => hst1 e.symm
    · exact h153 q hq
  rintro v own h11 gs' dr' tk' hgs' ⟨D, tab', toks, n, rfl, rfl, htoks, htab'⟩ F11 N11 hap11
  clear F9 N9
  k_steps
  rename Fr _ _ _ _ => F9
  rename News _ _ _ _ => N9
  refine does_pure (d_join (ps.map Pc.tr) star D st toks n (by rw [htoks, List.map_map]; rfl) (by rw [List.length_map]; exact hlen) (by have := tr_len hlen; omega)) (by k_asm) F9 (by k_asm) N9 (.head _) (by k_asm) rfl (by omega) (by omega) ?_
  rintro v h12 tk12 ⟨u, rfl⟩ F12 N12
  clear F9 N9
  k_steps
  rename Fr h₀ _ _ _ => F6
  rename News h₀ _ _ _ => N6
  refine hret _ [(153, tabObj tab')] _ _ _ _ hgs' ⟨tab', _, rfl, rfl, htab'⟩ F6 (news_sub N6 fun p hp => ?_) ?_
  · rcases List.mem_cons.mp hp with rfl | hp
    · exact .tail _ (.head _)
    · exact .tail _ (.tail _ (.tail _ hp))
  · intro p hp q hq
    rw [List.mem_singleton.mp hp]
    exact h153 q hq
end
end Mine
end
section
open PySem PySem.W PyProof.Rows PySem.Calls PySem.Spec
set_option maxRecDepth 100000
set_option maxHeartbeats 8000000
namespace Mine
section
variable {w : World} {p : Program} {loose : List Str} {mean : ExcName → Option Value} {mg mb : Str → Option Value}
theorem lines_LP1 : True := by
  k_with_none
  k_with "my steps" => repeat' ((fail_if_success (with_reducible show wpAny _ _ (exec (Stmt.For _ _ _ _ _) _) _ _ _)); (fail_if_success (with_reducible show wpAny _ _ (exec (Stmt.While _ _ _ _) _) _ _ _)); first | walk1 | (dsimp only; walk1) | (dsimp only [List.cons_append, List.nil_append]; walk1) | (leave1; walk_say "STEP leave1"; try dsimp only) | fail "no step")
  k_with "my ite" => first | (refine ite_neg (by simp only [decide_eq_true_eq, beq_iff_eq, bne_iff_ne, ne_eq]; omega) ?_) | (refine ite_pos (by simp only [decide_eq_true_eq, beq_iff_eq, bne_iff_ne, ne_eq]; omega) ?_)
  k_with "my binaryOp FloorDiv int int" => (refine floordiv_int (by with_reducible assumption) ?_ (Or.inl (PyProof.noPylong_small (by with_reducible assumption))))
  k_with "my inplaceOp Add str str" => (refine iadd_S (by first | with_reducible rfl | exact lit_q | exact lit_n | exact lit_c | exact lit_k | exact lit_s) (by first | with_reducible rfl | exact lit_q | exact lit_n | exact lit_c | exact lit_k | exact lit_s) (by simp only [List.length_append, List.length_cons, List.length_nil]; omega) ?_; intro _ _)
  k_with "my binaryOp Add str str" => (refine add_S (by first | with_reducible rfl | exact lit_q | exact lit_n | exact lit_c | exact lit_k | exact lit_s) (by first | with_reducible rfl | exact lit_q | exact lit_n | exact lit_c | exact lit_k | exact lit_s) (by simp only [List.length_append, List.length_cons, List.length_nil]; omega) ?_; intro _ _)
  k_with "my room" => ((try simp only [depth_under_make, depth_under_kw, depth_in1, depth_deeper, depth_caller]); (try dsimp only [ktrTop]); omega)
  k_with "ev op" => first | exact Op2.addi | exact Op2.subi | exact Op2.modi (by decide) | exact Op2.andi
  k_with "ev at" => fail "no item"
  k_with "ev" => first
    | ((with_reducible show Ev _ (Expr.Name _ _) _ _ _); exact Ev.name (by k_asm) (by rfl) (by rfl) (by rfl) (by decide))
    | ((with_reducible show Ev _ (Expr.Constant _ _ _) _ _ _); first | exact Ev.int | exact Ev.strc | exact Ev.boolc | exact Ev.nonec)
    | ((with_reducible show Ev _ (Expr.BinOp _ _ _ _) _ _ _); exact Ev.bin (by k_extra "ev") (by k_extra "ev") (by k_extra "ev op"))
    | ((with_reducible show Ev _ (Expr.Subscript _ (Expr.Name _ _) _) _ _ _); exact Ev.item (by k_extra "ev") (by k_extra "ev") (by omega) (by k_extra "ev at") (by first | omega | simp) (by with_unfolding_all rfl) (by intro _; with_unfolding_all rfl))
    | ((with_reducible show Ev _ (Expr.Subscript _ (Expr.Constant _ _ _) _) _ _ _); exact Ev.item (by k_extra "ev") (by k_extra "ev") (by decide) (by first | rfl | k_extra "ev at") (by first | omega | simp) (by with_unfolding_all rfl) (by intro _; with_unfolding_all rfl))
    | ((with_reducible show Ev _ (Expr.IfExp _ _ _ _) _ _ _); exact Ev.ifexp (by k_extra "tr") (by first | exact EvB.t (by k_extra "ev") | exact EvB.f (by k_extra "ev")))
  k_with "evl" => first
    | exact EvL.nil
    | ((with_reducible show EvL _ (_ :: _) _ _ _); exact EvL.cons (by k_extra "ev") (by k_extra "evl") (by rfl))
  k_with "ev dec" => first | exact dT (by omega) | exact dF (by omega)
  k_with "ev sdec" => first | with_reducible assumption | exact asF (by decide +kernel) | exact asT (by decide +kernel)
  k_with "ev cmp" => first
    | ((with_reducible show Cm2 _ _ (Value.str _ _) (Value.str _ _) _ _); first
      | ((with_reducible show Cm2 _ CmpOp.Eq _ _ _ _); exact Cm2.eqs (by k_extra "ev sdec"))
      | ((with_reducible show Cm2 _ CmpOp.NotEq _ _ _ _); exact Cm2.nes (by k_extra "ev sdec"))
      | ((with_reducible show Cm2 _ CmpOp.NotIn _ _ _ _); exact Cm2.notins (by k_extra "ev sdec")))
    | ((with_reducible show Cm2 _ _ (Value.int _ _) (Value.int _ _) _ _); first
      | ((with_reducible show Cm2 _ CmpOp.Lt _ _ _ _); exact Cm2.lti (by k_extra "ev dec"))
      | ((with_reducible show Cm2 _ CmpOp.GtE _ _ _ _); exact Cm2.gei (by k_extra "ev dec"))
      | ((with_reducible show Cm2 _ CmpOp.Eq _ _ _ _); exact Cm2.eqi (by k_extra "ev dec")))
  k_with "trb" => first
    | exact TrAB.f
    | ((with_reducible show TrAB _ _ _ true _ _); exact TrAB.t (by k_extra "tra"))
  k_with "tra" => first
    | exact TrA.nil
    | ((with_reducible show TrA _ (_ :: _) _ _ _); exact TrA.cons (by k_extra "tr") (by k_extra "trb"))
  k_with "tr" => first
    | ((with_reducible show Tr _ (Expr.Compare _ [_] [_] _) _ _ _); exact Tr.cmp (by k_extra "ev") (by k_extra "ev") (by k_extra "ev cmp") (by with_unfolding_all rfl))
    | ((with_reducible show Tr _ (Expr.BoolOp BoolOp.And _ _) _ _ _); exact Tr.and (by k_extra "tra"))
    | ((with_reducible show Tr _ (Expr.UnaryOp UnaryOp.Not _ _) _ _ _); exact Tr.not (by k_extra "tr") (by rfl))
    | exact Tr.boolc
    | ((with_reducible show Tr _ (Expr.Name _ _) _ _ _); exact Tr.strp (by k_extra "ev") (by with_reducible rfl) (by first | omega | simp) (by first | rfl | (refine asT ?_; simp)) (by rfl))
  k_with "my execs cons" => (fail_if_success have : Mine.Full := trivial); first
    | ((with_reducible show wpAny _ _ (execs (Stmt.Assign [Expr.Name _ _] _ _ :: _) _) _ _ _); (fail_if_success (with_reducible show wpAny _ _ (execs (Stmt.Assign _ (Expr.Call _ _ _ _) _ :: _) _) _ _ _)); (fail_if_success (with_reducible show wpAny _ _ (execs (Stmt.Assign _ (Expr.Subscript _ (Expr.Slice _ _ _ _) _) _ :: _) _) _ _ _)); k_dflt (refine st_assign (by k_extra "ev") (by k_asm) (by k_asm) ?_ (by rfl) (by rfl) (by rfl)); intro _ _ _; (try k_sweep))
    | ((with_reducible show wpAny _ _ (execs (Stmt.If _ _ _ _ :: _) _) _ _ _); k_dflt (refine st_if (by k_extra "tr") ?_); dsimp only [pick, glue])
    | ((with_reducible show wpAny _ _ (execs (Stmt.Assign [Expr.Name _ _] _ _ :: _) _) _ _ _); k_dflt (refine st_assignC ?_ (by rfl)))
    | ((with_reducible show wpAny _ _ (execs (Stmt.Expr _ _ :: _) _) _ _ _); k_dflt (refine st_expr ?_ (by rfl) (by rfl)))
    | ((with_reducible show wpAny _ _ (execs (Stmt.Return (some _) _ :: _) _) _ _ _); k_dflt (refine st_ret ?_))
  k_with "my storeName" => ((fail_if_success have : Mine.Full := trivial); k_dflt (refine storeP (by k_asm) (by k_asm) ?_ (by rfl) (by rfl)); intro _ _ _; (try k_sweep))
  k_with "my isTrue Compare" => ((fail_if_success have : Mine.Full := trivial); k_dflt (refine tr_use (by k_extra "tr") ?_); (try dsimp only))
  k_with "my isTrue BoolOp" => ((fail_if_success have : Mine.Full := trivial); (with_reducible show wpAny _ _ (isTrue (Expr.BoolOp BoolOp.And (_ :: _ :: _) _) _ _) _ _ _); k_dflt (refine tr_use (by k_extra "tr") ?_); (try dsimp only))
  k_with "my spliced" => ((fail_if_success have : Mine.Full := trivial); (with_reducible show wpAny _ _ (spliced (backTo _ (starEach (_ :: _) _))) _ _ _); k_dflt (refine args_ev (by k_extra "evl") ?_); (try dsimp only [List.cons_append, List.nil_append]))
  k_with "my eval Subscript" => ((fail_if_success have : Mine.Full := trivial); (with_reducible show wpAny _ _ (eval (Expr.Subscript _ (Expr.Slice _ _ none _) _) _) _ _ _); k_dflt (refine sub_slice (by k_extra "ev") (by first | exact EvP.none | exact EvP.some (by k_extra "ev")) (by first | exact EvP.none | exact EvP.some (by k_extra "ev")) ?_))
  trivial

noncomputable def pieceOf (c : Nat) (d : Int) : List Nat := if d = 0 then [63] else if d = 2 then [91, 33, c, 93] else if c = 63 then [91, 63, 93] else [c]
noncomputable def colsFrom : List Nat → Int → List Nat
  | [], _ => []
  | c :: r, f => pieceOf c (f.fmod 3) ++ colsFrom r (f.fdiv 3)
theorem cols0 {c : Nat} {r : List Nat} {f : Int} (h : f.fmod 3 = 0) : colsFrom (c :: r) f = [63] ++ colsFrom r (f.fdiv 3) := congrArg (· ++ _) (if_pos h)
theorem cols2 {c : Nat} {r : List Nat} {f : Int} (h0 : f.fmod 3 ≠ 0) (h : f.fmod 3 = 2) : colsFrom (c :: r) f = [91, 33, c, 93] ++ colsFrom r (f.fdiv 3) := congrArg (· ++ _) ((if_neg h0).trans (if_pos h))
theorem cols1 {c : Nat} {r : List Nat} {f : Int} (h0 : f.fmod 3 ≠ 0) (h : f.fmod 3 ≠ 2) (hc : (S [c] == Str.ofString "?") = true) : colsFrom (c :: r) f = [91, 63, 93] ++ colsFrom r (f.fdiv 3) := congrArg (· ++ _) ((if_neg h0).trans ((if_neg h).trans (if_pos (by
  rw [lit_q] at hc
  have := S_inj (eq_of_beq hc)
  simpa using this))))
theorem cols3 {c : Nat} {r : List Nat} {f : Int} (h0 : f.fmod 3 ≠ 0) (h : f.fmod 3 ≠ 2) (hc : (S [c] == Str.ofString "?") = false) : colsFrom (c :: r) f = [c] ++ colsFrom r (f.fdiv 3) := congrArg (· ++ _) ((if_neg h0).trans ((if_neg h).trans (if_neg (by
  rintro rfl
  rw [lit_q] at hc
  exact absurd (beq_self_eq_true _) (by rw [hc]; decide)))))
noncomputable def pat (row : List Nat) (number : Int) : List Nat := if (number.fdiv 2).fmod 2 = 1 ∧ rstripL ([63] : List Nat).contains (colsFrom row number) ≠ colsFrom row number then rstripL ([63] : List Nat).contains (colsFrom row number) ++ [42] else colsFrom row number
theorem pat1 {row : List Nat} {number : Int} (h : (number.fdiv 2).fmod 2 = 1) (h2 : (S (rstripL ([63] : List Nat).contains (colsFrom row number)) != S (colsFrom row number)) = true) : pat row number = rstripL ([63] : List Nat).contains (colsFrom row number) ++ [42] := if_pos ⟨h, fun e => by rw [e] at h2; simp at h2⟩
theorem pat2 {row : List Nat} {number : Int} (h2 : (S (rstripL ([63] : List Nat).contains (colsFrom row number)) != S (colsFrom row number)) = false) : pat row number = colsFrom row number := if_neg fun h => h.2 (S_inj (by simpa using h2))
theorem pat3 {row : List Nat} {number : Int} (h : (number.fdiv 2).fmod 2 ≠ 1) : pat row number = colsFrom row number := if_neg fun e => h e.1

theorem d_pattern (row : List Nat) (number : Int) (t1 t2 : Tok) (hb : row.length ≤ 10) (h0 : 0 ≤ number) (h1 : number < 10000000000) : Does PySem.Challenge.rw_in0284_01.row.prog w (hd0.heap_1 w.params) p loose mean mg mb 8 214 [.str (S row) t1, .int number t2] [] (fun _ => True) (fun v own => (∃ u, v = .str (S (pat row number)) u) ∧ own = []) := by
  unfold Does
  k_fill
  intro dp un gd cn cs a ccd cl outer A₀ base h₀ L m news s Q B F X N hap hrd T hk hr hu hret
  refine enter (by k_is) (by k_is) (BindsTo.of_eq rfl) (locs rfl) rfl rfl rfl (by decide) B F X N T hk (by omega) ?_
  intro g L' h₁ tk0 F' N' B' X' T'
  rw [List.nil_append] at N'
  k_steps
  refine for_do ?_
  k_steps
  rename Fr _ _ _ _ => F2
  rename News _ _ _ _ => N2
  replace N2 := news_sub (l' := news) N2 (fun p hp => .tail _ hp)
  refine iter_str F2 N2 ?_
  intro I o h3 hI F3 N3 hne
  refine for_indN (J := fun r h => ∃ (i : Nat) (o : Obj) (mm : Str → Option Value) (done : List Nat) (f : Int) (u1 u2 : Tok), row.drop i = r ∧ i + r.length = row.length ∧ StrIt (S row) t1 i o ∧ done ++ colsFrom r f = colsFrom row number ∧ done.length ≤ 4 * i ∧ 0 ≤ f ∧ f < 10000000000 ∧ mm "columns" = some (.str (S done) u1) ∧ mm "figures" = some (.int f u2) ∧ mm "number" = some (.int number t2) ∧ mm "row" = some (.str (S row) t1) ∧ Fr g L' h mm ∧ News g L' h ((I, o) :: news)) row ⟨0, o, _, [], number, _, _, rfl, Nat.zero_add _, hI, rfl, by decide, h0, h1, rfl, rfl, rfl, rfl, F3, N3⟩ ?_ ?_
  · rintro k r h tk ⟨i, o, mm, done, f, u1, u2, hdr, hil, hI, htl, hdl, hf0, hf1, hc, hf, hn, hrw, F, N⟩
    have hx : row[i]? = some k := by rw [← List.head?_drop, hdr]; rfl
    have hdk : row.drop (i + 1) = r := by
      have := congrArg List.tail hdr
      rw [List.tail_drop] at this
      exact this
    have hil' : i + 1 + r.length = row.length := by simp only [List.length_cons] at hil; omega
    have hf2 : 0 ≤ f.fdiv 3 ∧ f.fdiv 3 < 10000000000 := by
      rw [Int.fdiv_eq_ediv_of_nonneg _ (by decide)]; omega
    refine next_str F N hne hI ((S_get _ _).trans hx) ?_
    intro h' tk' u' o' hI' F4 N4
    change Fr _ _ _ _ at F4
    show wpAny _ _ (assign _ _ (Value.str (S [k]) u')) _ _ _
    replace F4 := fr_puts F4 [("columns", .str (S done) u1), ("figures", .int f u2), ("number", .int number t2), ("row", .str (S row) t1)] (List.forall_mem_cons.mpr ⟨hc, List.forall_mem_cons.mpr ⟨hf, List.forall_mem_cons.mpr ⟨hn, List.forall_mem_cons.mpr ⟨hrw, List.forall_mem_nil _⟩⟩⟩⟩)
    dsimp only [kstB] at F4
    clear F N hc hf hn hrw
    k_steps
    · rename Int.fmod _ _ = _ => hm
      rename Fr g _ _ _ => F6
      rename News g _ _ _ => N6
      exact After.next ⟨i + 1, _, _, _, f.fdiv 3, _, _, hdk, hil', hI', by rw [← htl, cols0 hm, List.append_assoc], by simp only [List.length_append, List.length_cons, List.length_nil]; omega, hf2.1, hf2.2, rfl, rfl, rfl, rfl, F6, N6⟩
    · rename Int.fmod _ _ = _ => hm
      rename Int.fmod _ _ ≠ _ => hm0
      rename Fr g _ _ _ => F6
      rename News g _ _ _ => N6
      exact After.next ⟨i + 1, _, _, _, f.fdiv 3, _, _, hdk, hil', hI', by rw [← htl, cols2 hm0 hm, List.append_assoc]; rfl, by simp only [List.length_append, List.length_cons, List.length_nil]; omega, hf2.1, hf2.2, rfl, rfl, rfl, rfl, F6, N6⟩
    · rename (_ == _) = true => hc
      rename Int.fmod _ 3 ≠ 2 => hm2
      rename Int.fmod _ 3 ≠ 0 => hm0
      rename Fr g _ _ _ => F6
      rename News g _ _ _ => N6
      exact After.next ⟨i + 1, _, _, _, f.fdiv 3, _, _, hdk, hil', hI', by rw [← htl, cols1 hm0 hm2 hc, List.append_assoc], by simp only [List.length_append, List.length_cons, List.length_nil]; omega, hf2.1, hf2.2, rfl, rfl, rfl, rfl, F6, N6⟩
    · rename (_ == _) = false => hc
      rename Int.fmod _ 3 ≠ 2 => hm2
      rename Int.fmod _ 3 ≠ 0 => hm0
      rename Fr g _ _ _ => F6
      rename News g _ _ _ => N6
      exact After.next ⟨i + 1, _, _, _, f.fdiv 3, _, _, hdk, hil', hI', by rw [← htl, cols3 hm0 hm2 hc, List.append_assoc], by simp only [List.length_append, List.length_cons, List.length_nil]; omega, hf2.1, hf2.2, rfl, rfl, rfl, rfl, F6, N6⟩
  · rintro h tk ⟨i, o, mm, done, f, u1, u2, hdr, hil, hI, htl, hdl, hf0, hf1, hc, hf, hn, hrw, F, N⟩
    have hx : row[i]? = none := by rw [← List.head?_drop, hdr]; rfl
    refine next_str_end rfl F N hne hI ((S_get _ _).trans hx) ?_
    intro h4 F4 N4
    refine ⟨rfl, ?_⟩
    replace F4 := fr_puts F4 [("columns", .str (S done) u1), ("number", .int number t2)] (List.forall_mem_cons.mpr ⟨hc, List.forall_mem_cons.mpr ⟨hn, List.forall_mem_nil _⟩⟩)
    dsimp only [kstB] at F4
    clear F N hc hf hn hrw
    have hd : done = colsFrom row number := by rw [← htl]; simp [colsFrom]
    k_steps
    have hrl : (rstripL ([63] : List Nat).contains done).length ≤ done.length := by unfold rstripL; rw [List.length_take]; omega
    show wpAny _ _ (execs _ _) _ _ _
    k_steps
    refine call_rstrip rfl lit_q (by omega) ?_
    intro t9 k9
    k_steps
    all_goals subst hd
    all_goals rename Fr h₀ _ _ _ => F6
    all_goals rename News h₀ _ _ _ => N6
    · rename (_ != _) = true => hb2
      rename Int.fmod _ _ = _ => hm
      exact hret _ [] _ _ ⟨⟨_, by rw [pat1 hm hb2]⟩, rfl⟩ F6 N6 (fun _ h => nomatch h)
    · rename (_ != _) = false => hb2
      exact hret _ [] _ _ ⟨⟨_, by rw [pat2 hb2]⟩, rfl⟩ F6 N6 (fun _ h => nomatch h)
    · rename Int.fmod _ _ ≠ _ => hm
      exact hret _ [] _ _ ⟨⟨_, by rw [pat3 hm]⟩, rfl⟩ F6 N6 (fun _ h => nomatch h)
end
end Mine
end
section
open PySem PySem.W PyProof.Rows PySem.Calls PySem.Spec
set_option maxRecDepth 100000
set_option maxHeartbeats 8000000
namespace Mine
noncomputable def tabs : List (Addr × List (Addr × Int × Nat)) := [(95, [(88, 40960, 108), (89, 49152, 115), (90, 32768, 45), (91, 24576, 98), (92, 16384, 100), (93, 8192, 99), (94, 4096, 112)]),
  (97, [(96, 256, 114)]), (99, [(98, 128, 119)]), (103, [(100, 2112, 115), (101, 2048, 83), (102, 64, 120)]), (105, [(104, 32, 114)]), (107, [(106, 16, 119)]), (111, [(108, 1032, 115), (109, 1024, 83), (110, 8, 120)]),
  (113, [(112, 4, 114)]), (115, [(114, 2, 119)]), (119, [(116, 513, 116), (117, 512, 84), (118, 1, 120)])]
noncomputable def TabOk (h : Heap) (x : Addr × List (Addr × Int × Nat)) : Prop := h.IsTuple x.1 (x.2.map fun r => Value.ref r.1).toArray ∧ ∀ r ∈ x.2, ∃ t u, h.IsTuple r.1 #[.int r.2.1 t, .str (S [r.2.2]) u]
theorem TabOk.keeps {h h' : Heap} {x} (T : TabOk h x) (k : h.StaysIn h') : TabOk h' x := ⟨T.1.at fun o e => k _ o e, fun r hr => let ⟨t, u, q⟩ := T.2 r hr; ⟨t, u, q.at fun o e => k _ o e⟩⟩
theorem pair_of {h : Heap} {a : Addr} {o : Obj} {i : Int} {t u : Tok} {x : Str} {c : Nat} (e : h.get? a = some o) (hc : o.cls = .type "tuple") {n : Nat} (hd : o.data = .seq #[.int i t, .str x u] n) (hx : x = S [c]) : ∃ t u, h.IsTuple a #[.int i t, .str (S [c]) u] := ⟨t, u, o, e, hc, n, by rw [hd, hx]⟩
section
variable {w : World} {p : Program} {loose : List Str} {mean : ExcName → Option Value} {mg mb : Str → Option Value}
theorem tabs_ok {h : Heap} (X : (hd0.heap_1 w.params).In h) (hrow : PySem.Challenge.rw_in0284_01 = PySem.Challenge.rw_in0284_01) : h.IsTuple 120 (tabs.map fun x => Value.ref x.1).toArray ∧ ∀ x ∈ tabs, TabOk h x := by
  revert X hrow
  k_fill
  intro X _
  refine ⟨⟨_, X _ _ (by k_is), rfl, _, rfl⟩, ?_⟩
  unfold tabs
  simp only [List.forall_mem_cons, List.forall_mem_nil, TabOk, and_true]
  repeat' apply And.intro
  all_goals (first | exact ⟨_, X _ _ (by k_is), rfl, _, rfl⟩ | exact pair_of (X _ _ (by k_is)) rfl rfl (by decide +kernel) | exact fun _ h => nomatch h)

noncomputable def hit (t : Int → Bool) (d : Nat) : List (Addr × Int × Nat) → Nat
  | [] => d
  | r :: l => if t r.2.1 then r.2.2 else hit t d l
noncomputable def sgn (mode : Int) (i : Nat) (rows : List (Addr × Int × Nat)) : Nat :=
  if i = 0 then hit (fun b => decide (Builtin.bitAnd mode 61440 = b)) 63 rows else hit (fun b => decide (Builtin.bitAnd mode b = b)) 45 rows
noncomputable def fmFrom (mode : Int) (i : Nat) : List (Addr × List (Addr × Int × Nat)) → List Nat
  | [] => []
  | x :: r => sgn mode i x.2 :: fmFrom mode (i + 1) r
noncomputable def fm (mode : Int) : List Nat := fmFrom mode 0 tabs

theorem lines_FM1 : True := by
  k_with_none
  k_with "my steps" => repeat' ((fail_if_success (with_reducible show wpAny _ _ (exec (Stmt.For _ _ _ _ _) _) _ _ _)); (fail_if_success (with_reducible show wpAny _ _ (exec (Stmt.While _ _ _ _) _) _ _ _)); first | walk1 | (dsimp only; walk1) | (dsimp only [List.cons_append, List.nil_append]; walk1) | (leave1; walk_say "STEP leave1"; try dsimp only) | fail "no step")
  k_with "ev op" => first | exact Op2.addi | exact Op2.subi | exact Op2.modi (by decide) | exact Op2.andi
  k_with "ev at" => fail "no item"
  k_with "ev" => first
    | ((with_reducible show Ev _ (Expr.Name _ _) _ _ _); exact Ev.name (by k_asm) (by rfl) (by rfl) (by rfl) (by decide))
    | ((with_reducible show Ev _ (Expr.Constant _ _ _) _ _ _); first | exact Ev.int | exact Ev.strc | exact Ev.boolc | exact Ev.nonec)
    | ((with_reducible show Ev _ (Expr.BinOp _ _ _ _) _ _ _); exact Ev.bin (by k_extra "ev") (by k_extra "ev") (by k_extra "ev op"))
    | ((with_reducible show Ev _ (Expr.Subscript _ (Expr.Name _ _) _) _ _ _); exact Ev.item (by k_extra "ev") (by k_extra "ev") (by omega) (by k_extra "ev at") (by first | omega | simp) (by with_unfolding_all rfl) (by intro _; with_unfolding_all rfl))
    | ((with_reducible show Ev _ (Expr.Subscript _ (Expr.Constant _ _ _) _) _ _ _); exact Ev.item (by k_extra "ev") (by k_extra "ev") (by decide) (by first | rfl | k_extra "ev at") (by first | omega | simp) (by with_unfolding_all rfl) (by intro _; with_unfolding_all rfl))
    | ((with_reducible show Ev _ (Expr.IfExp _ _ _ _) _ _ _); exact Ev.ifexp (by k_extra "tr") (by first | exact EvB.t (by k_extra "ev") | exact EvB.f (by k_extra "ev")))
  k_with "evl" => first
    | exact EvL.nil
    | ((with_reducible show EvL _ (_ :: _) _ _ _); exact EvL.cons (by k_extra "ev") (by k_extra "evl") (by rfl))
  k_with "ev dec" => first | exact dT (by omega) | exact dF (by omega)
  k_with "ev sdec" => first | with_reducible assumption | exact asF (by decide +kernel) | exact asT (by decide +kernel)
  k_with "ev cmp" => first
    | ((with_reducible show Cm2 _ _ (Value.str _ _) (Value.str _ _) _ _); first
      | ((with_reducible show Cm2 _ CmpOp.Eq _ _ _ _); exact Cm2.eqs (by k_extra "ev sdec"))
      | ((with_reducible show Cm2 _ CmpOp.NotEq _ _ _ _); exact Cm2.nes (by k_extra "ev sdec"))
      | ((with_reducible show Cm2 _ CmpOp.NotIn _ _ _ _); exact Cm2.notins (by k_extra "ev sdec")))
    | ((with_reducible show Cm2 _ _ (Value.int _ _) (Value.int _ _) _ _); first
      | ((with_reducible show Cm2 _ CmpOp.Lt _ _ _ _); exact Cm2.lti (by k_extra "ev dec"))
      | ((with_reducible show Cm2 _ CmpOp.GtE _ _ _ _); exact Cm2.gei (by k_extra "ev dec"))
      | ((with_reducible show Cm2 _ CmpOp.Eq _ _ _ _); exact Cm2.eqi (by k_extra "ev dec")))
  k_with "trb" => first
    | exact TrAB.f
    | ((with_reducible show TrAB _ _ _ true _ _); exact TrAB.t (by k_extra "tra"))
  k_with "tra" => first
    | exact TrA.nil
    | ((with_reducible show TrA _ (_ :: _) _ _ _); exact TrA.cons (by k_extra "tr") (by k_extra "trb"))
  k_with "tr" => first
    | ((with_reducible show Tr _ (Expr.Compare _ [_] [_] _) _ _ _); exact Tr.cmp (by k_extra "ev") (by k_extra "ev") (by k_extra "ev cmp") (by with_unfolding_all rfl))
    | ((with_reducible show Tr _ (Expr.BoolOp BoolOp.And _ _) _ _ _); exact Tr.and (by k_extra "tra"))
    | ((with_reducible show Tr _ (Expr.UnaryOp UnaryOp.Not _ _) _ _ _); exact Tr.not (by k_extra "tr") (by rfl))
    | exact Tr.boolc
    | ((with_reducible show Tr _ (Expr.Name _ _) _ _ _); exact Tr.strp (by k_extra "ev") (by with_reducible rfl) (by first | omega | simp) (by first | rfl | (refine asT ?_; simp)) (by rfl))
  k_with "my execs cons" => (fail_if_success have : Mine.Full := trivial); first
    | ((with_reducible show wpAny _ _ (execs (Stmt.Assign [Expr.Name _ _] _ _ :: _) _) _ _ _); (fail_if_success (with_reducible show wpAny _ _ (execs (Stmt.Assign _ (Expr.Call _ _ _ _) _ :: _) _) _ _ _)); (fail_if_success (with_reducible show wpAny _ _ (execs (Stmt.Assign _ (Expr.Subscript _ (Expr.Slice _ _ _ _) _) _ :: _) _) _ _ _)); k_dflt (refine st_assign (by k_extra "ev") (by k_asm) (by k_asm) ?_ (by rfl) (by rfl) (by rfl)); intro _ _ _; (try k_sweep))
    | ((with_reducible show wpAny _ _ (execs (Stmt.If _ _ _ _ :: _) _) _ _ _); k_dflt (refine st_if (by k_extra "tr") ?_); dsimp only [pick, glue])
    | ((with_reducible show wpAny _ _ (execs (Stmt.Assign [Expr.Name _ _] _ _ :: _) _) _ _ _); k_dflt (refine st_assignC ?_ (by rfl)))
    | ((with_reducible show wpAny _ _ (execs (Stmt.Expr _ _ :: _) _) _ _ _); k_dflt (refine st_expr ?_ (by rfl) (by rfl)))
    | ((with_reducible show wpAny _ _ (execs (Stmt.Return (some _) _ :: _) _) _ _ _); k_dflt (refine st_ret ?_))
  k_with "my storeName" => ((fail_if_success have : Mine.Full := trivial); k_dflt (refine storeP (by k_asm) (by k_asm) ?_ (by rfl) (by rfl)); intro _ _ _; (try k_sweep))
  k_with "my isTrue Compare" => ((fail_if_success have : Mine.Full := trivial); k_dflt (refine tr_use (by k_extra "tr") ?_); (try dsimp only))
  k_with "my isTrue BoolOp" => ((fail_if_success have : Mine.Full := trivial); (with_reducible show wpAny _ _ (isTrue (Expr.BoolOp BoolOp.And (_ :: _ :: _) _) _ _) _ _ _); k_dflt (refine tr_use (by k_extra "tr") ?_); (try dsimp only))
  k_with "my spliced" => ((fail_if_success have : Mine.Full := trivial); (with_reducible show wpAny _ _ (spliced (backTo _ (starEach (_ :: _) _))) _ _ _); k_dflt (refine args_ev (by k_extra "evl") ?_); (try dsimp only [List.cons_append, List.nil_append]))
  k_with "my eval Subscript" => ((fail_if_success have : Mine.Full := trivial); (with_reducible show wpAny _ _ (eval (Expr.Subscript _ (Expr.Slice _ _ none _) _) _) _ _ _); k_dflt (refine sub_slice (by k_extra "ev") (by first | exact EvP.none | exact EvP.some (by k_extra "ev")) (by first | exact EvP.none | exact EvP.some (by k_extra "ev")) ?_))
  trivial


theorem fmFrom_length (mode : Int) : ∀ (l) (i : Nat), (fmFrom mode i l).length = l.length
  | [], _ => rfl
  | _ :: r, i => by simp [fmFrom, fmFrom_length mode r (i + 1)]
theorem fm_length (mode : Int) : (fm mode).length = 10 := fmFrom_length mode tabs 0


noncomputable def JO (mode : Int) (t : Tok) (g : Heap) (L' e it l' : Addr) (news : Led) (r : List (Addr × List (Addr × Int × Nat))) (h : Heap) : Prop :=
  ∃ (i : Nat) (mm : Str → Option Value) (ps : List (Str × Tok)) (n : Nat) (old : Value) (oi : Obj), tabs.drop i = r ∧ i + r.length = 10 ∧ TupIt 120 i oi ∧ ps.map (·.1) ++ (fmFrom mode i r).map (fun c => S [c]) = (fm mode).map (fun c => S [c]) ∧
      mm "perm" = some (.ref l') ∧ mm "mode" = some (.int mode t) ∧ Fr g L' h mm ∧ News g L' h ((e, enumO it i old) :: (it, oi) :: (l', listOf (strValues ps).toArray n) :: news)
theorem JO.step {mode : Int} {t : Tok} {g : Heap} {L' e it l' : Addr} {news : Led} {x : Addr × List (Addr × Int × Nat)} {r : List (Addr × List (Addr × Int × Nat))} {h : Heap} {i : Nat} {mm : Str → Option Value} {ps : List (Str × Tok)} {n : Nat} {old : Value} {oi : Obj} {y : Str} {u : Tok}
    (hd : tabs.drop i = x :: r) (hil : i + (x :: r).length = 10) (hit : TupIt 120 (i + 1) oi) (hps : ps.map (·.1) ++ (fmFrom mode i (x :: r)).map (fun c => S [c]) = (fm mode).map (fun c => S [c])) (hy : y = S [sgn mode i x.2])
    (hp : mm "perm" = some (.ref l')) (hm : mm "mode" = some (.int mode t)) (F : Fr g L' h mm) (N : News g L' h ((e, enumO it ((i + 1 : Nat) : Int) old) :: (it, oi) :: (l', listOf ((strValues ps).toArray.push (.str y u)) n) :: news)) : JO mode t g L' e it l' news r h := by
  refine ⟨i + 1, mm, ps ++ [(y, u)], n, old, oi, ?_, by simp only [List.length_cons] at hil; omega, hit, ?_, hp, hm, F, by rw [← strs_append]; exact N⟩
  · have := congrArg List.tail hd
    rw [List.tail_drop] at this
    exact this
  · rw [← hps, hy]; simp [fmFrom]
/-- the rows of one table that are left, none of those ahead having hit -/
noncomputable def JI (mode : Int) (t : Tok) (g : Heap) (L' e it l' I T' : Addr) (news : Led) (x : Addr × List (Addr × Int × Nat)) (i : Nat) (ps : List (Str × Tok)) (n : Nat) (old : Value) (oi : Obj) (u : Tok) (rest : List (Addr × Int × Nat)) (h : Heap) : Prop :=
  ∃ (k : Nat) (mm : Str → Option Value) (oI : Obj), x.2.drop k = rest ∧ TupIt x.1 k oI ∧ sgn mode i rest = sgn mode i x.2 ∧ mm "perm" = some (.ref l') ∧ mm "mode" = some (.int mode t) ∧ mm "index" = some (.int (i : Int) u) ∧ Fr g L' h mm ∧
    News g L' h ((I, oI) :: (T', tupO [.int (i : Int) u, .ref x.1]) :: (e, enumO it ((i + 1 : Nat) : Int) old) :: (it, oi) :: (l', listOf (strValues ps).toArray n) :: news)
theorem sgn_hit0 {mode : Int} {row : Addr × Int × Nat} {rest : List (Addr × Int × Nat)} (h : Builtin.bitAnd mode 61440 = row.2.1) : sgn mode 0 (row :: rest) = row.2.2 := by simp [sgn, hit, h]
theorem sgn_miss0 {mode : Int} {row : Addr × Int × Nat} {rest : List (Addr × Int × Nat)} (h : ¬ Builtin.bitAnd mode 61440 = row.2.1) : sgn mode 0 (row :: rest) = sgn mode 0 rest := by simp [sgn, hit, h]
theorem sgn_hit {mode : Int} {i : Nat} {row : Addr × Int × Nat} {rest : List (Addr × Int × Nat)} (h : Builtin.bitAnd mode row.2.1 = row.2.1) : sgn mode (i + 1) (row :: rest) = row.2.2 := by simp [sgn, hit, h]
theorem sgn_miss {mode : Int} {i : Nat} {row : Addr × Int × Nat} {rest : List (Addr × Int × Nat)} (h : ¬ Builtin.bitAnd mode row.2.1 = row.2.1) : sgn mode (i + 1) (row :: rest) = sgn mode (i + 1) rest := by simp [sgn, hit, h]

theorem lines_FM2 : True := by
  k_with "my ite" => first | (refine ite_neg (by simp only [decide_eq_true_eq, beq_iff_eq, bne_iff_ne, ne_eq]; omega) ?_) | (refine ite_pos (by simp only [decide_eq_true_eq, beq_iff_eq, bne_iff_ne, ne_eq]; omega) ?_)
  k_with "my room" => ((try simp only [depth_under_make, depth_under_kw, depth_in1, depth_deeper, depth_caller]); (try dsimp only [ktrTop]); omega)
  trivial

theorem d_filemode (mode : Int) (t : Tok) (h0 : 0 ≤ mode) (h1 : mode < 65536) : Does PySem.Challenge.rw_in0284_01.row.prog w (hd0.heap_1 w.params) p loose mean mg mb 8 127 [.int mode t] [] (fun _ => True) (fun v own => (∃ u, v = .str (S (fm mode)) u) ∧ own = []) := by
  unfold Does
  k_fill
  intro dp un gd cn cs a ccd cl outer A₀ base h₀ L m news s Q B F X N hap hrd T hk hr hu hret
  refine enter (by k_is) (by k_is) (BindsTo.of_eq rfl) (locs rfl) rfl rfl rfl (by decide) B F X N T hk (by omega) ?_
  intro g L' h₁ tk0 F' N' B' X' T'
  rw [List.nil_append] at N'
  have hap' : ∀ {b o}, g.get? b = some o → ∀ p ∈ news, p.1 ≠ b := fun e p hp q => by
    have z := (N' p hp).2.2
    rw [q, e] at z; cases z
  k_steps
  rename_i l' _ hl' h₂ F2 N2
  refine for_do ?_
  k_steps
  obtain ⟨hT0, hT1⟩ := tabs_ok X' rfl
  refine call_enum F2 N2 (hT0.at fun o e => F2.keep _ _ e) ?_
  intro e it oi h₃ hit F3 N3 hei hn1 hn2
  have b1 : l' ≠ it := hn1 _ (.head _)
  have b2 : l' ≠ e := hn2 _ (.head _)
  have hi1 : ∀ p ∈ news, p.1 ≠ it := fun p hp => hn1 p (.tail _ hp)
  have hi2 : ∀ p ∈ news, p.1 ≠ e := fun p hp => hn2 p (.tail _ hp)
  have a1 : ∀ {o : Obj}, ∀ p ∈ ((l', o) :: news : Led), p.1 ≠ it := fun {o} => List.forall_mem_cons.mpr ⟨b1, hi1⟩
  have a2 : ∀ {o : Obj}, ∀ p ∈ ((l', o) :: news : Led), p.1 ≠ e := fun {o} => List.forall_mem_cons.mpr ⟨b2, hi2⟩
  have hl2 : ∀ p ∈ news, p.1 ≠ l' := fun p hp => Nat.ne_of_lt (hl' p hp)
  clear hn1 hn2 hl'
  refine wpAny_pyIter_enum (N3 _ (.head _)).1 ?_
  have gK : ∀ {b o h m' o' l}, g.get? b = some o → Fr g L' h m' → News g L' h l → ∀ a, (a, o') ∈ l → b ≠ a := fun ho _ N a ha q => by
    have z := (N _ ha).2.2
    rw [← q] at z; rw [ho] at z; cases z
  have g120 : ∀ {h m' o' l}, Fr g L' h m' → News g L' h l → ∀ a, (a, o') ∈ l → (120 : Nat) ≠ a := by
    obtain ⟨o, ho, _⟩ := hT0
    exact fun F N => gK ho F N
  refine for_ind (J := JO mode t g L' e it l' news) tabs ⟨0, _, [], 0, _, oi, rfl, rfl, hit, rfl, rfl, rfl, F3, N3⟩ ?_ ?_
  · rintro x r h tk ⟨i, mm, ps, n, old, oi, hdr, hil, hit, hps, hp, hm, F, N⟩
    have hx : tabs[i]? = some x := by rw [← List.head?_drop, hdr]; rfl
    refine wpAny_mono (next_enum (Qn := fun _ => False) rfl F N hei a1 a2 hit (g120 F N _ (.tail _ (.head _))) (g120 F N _ (.head _)) (hT0.at fun o e => F.keep _ _ e) (v := .ref x.1) (by simp [hx]) ?_) (fun _ _ h => h) fun _ _ h => h
    intro T' u h' tk' old' oi' hit' F4 N4
    replace F4 := fr_puts F4 [("perm", .ref l'), ("mode", .int mode t)] (List.forall_mem_cons.mpr ⟨hp, List.forall_mem_cons.mpr ⟨hm, List.forall_mem_nil _⟩⟩)
    dsimp only [kstB] at F4
    clear F N
    k_steps
    rename_i F5 N5
    refine for_do ?_
    k_steps
    have hx2 := hT1 x (List.mem_of_getElem? hx)
    refine iter_tup F5 N5 (hx2.1.at fun o e => F5.keep _ _ e) ?_
    intro I oI h6 hI F6 N6 hne
    refine for_ind (J := JI mode t g L' e it l' I T' news x i ps n old' oi' u) x.2 ⟨0, _, oI, rfl, hI, rfl, rfl, rfl, rfl, F6, N6⟩ ?_ ?_
    · rintro row rest h7 tk7 ⟨k, mm, oI, hdk, hI, hs, hp, hm, hi, F7, N7⟩
      have hk7 : x.2[k]? = some row := by rw [← List.head?_drop, hdk]; rfl
      refine next_tup F7 N7 hne hI (hx2.1.at fun o e => F7.keep _ _ e) (v := .ref row.1) (by simp [hk7]) ?_
      intro h8 oI8 hI8 F8 N8
      refine letGo_tupleiter ⟨oI8, (N8 _ (.head _)).1, hI8⟩ ?_
      obtain ⟨bt, ct, hrow⟩ := hx2.2 row (List.mem_of_getElem? hk7)
      have hrow' : IsTup h8 row.1 #[.int row.2.1 bt, .str (S [row.2.2]) ct] := hrow.at fun o e => F8.keep _ _ e
      clear F7 N7
      replace F8 := fr_puts F8 [("perm", .ref l'), ("mode", .int mode t), ("index", .int (i : Int) u)] (List.forall_mem_cons.mpr ⟨hp, List.forall_mem_cons.mpr ⟨hm, List.forall_mem_cons.mpr ⟨hi, List.forall_mem_nil _⟩⟩⟩)
      dsimp only [kstB] at F8
      have hps10 : (strValues ps).toArray.size ≤ 1048576 := by
        have := congrArg List.length hps
        simp only [List.length_append, List.length_map, fm_length] at this
        simp only [strValues, List.size_toArray, List.length_map]; omega
      have hdk' : x.2.drop (k + 1) = rest := by
        have := congrArg List.tail hdk
        rw [List.tail_drop] at this
        exact this
      have hpre : ∀ p ∈ ([(I, oI8), (T', tupO [Value.int (i : Int) u, Value.ref x.1]), (e, enumO it ((i + 1 : Nat) : Int) old'), (it, oi')] : Led), p.2.cls ≠ .type "list" ∨ p.1 ≠ l' := by
        simp [hI8.1, hit'.1]
      cases i with
      | zero =>
        k_steps
        · rename Fr _ _ _ _ => F9
          rename News _ _ _ _ => N9
          rename Builtin.bitAnd _ _ = _ => hb
          refine app_led (pre := [_, _, _, _]) F9 N9 hpre hl2 hps10 ?_
          intro h10 F10 N10
          k_steps
          show wpAny _ _ (execs [] _) _ _ _
          k_steps
          exact After.next (JO.step hdr hil hit' hps (by rw [← hs, sgn_hit0 hb]) rfl rfl F10 (news_sub N10 fun p hp => .tail _ (.tail _ hp)))
        · rename Fr _ _ _ _ => F9
          rename News _ _ _ _ => N9
          rename Builtin.bitAnd _ _ ≠ _ => hb
          exact After.next ⟨k + 1, _, oI8, hdk', hI8, (sgn_miss0 hb).symm.trans hs, rfl, rfl, rfl, F9, N9⟩
      | succ i =>
        k_steps
        · rename Fr _ _ _ _ => F9
          rename News _ _ _ _ => N9
          rename Builtin.bitAnd _ _ = _ => hb
          refine app_led (pre := [_, _, _, _]) F9 N9 hpre hl2 hps10 ?_
          intro h10 F10 N10
          k_steps
          show wpAny _ _ (execs [] _) _ _ _
          k_steps
          exact After.next (JO.step hdr hil hit' hps (by rw [← hs, sgn_hit hb]) rfl rfl F10 (news_sub N10 fun p hp => .tail _ (.tail _ hp)))
        · rename Fr _ _ _ _ => F9
          rename News _ _ _ _ => N9
          rename Builtin.bitAnd _ _ ≠ _ => hb
          exact After.next ⟨k + 1, _, oI8, hdk', hI8, (sgn_miss hb).symm.trans hs, rfl, rfl, rfl, F9, N9⟩
    · rintro h7 tk7 ⟨k, mm, oI, hdk, hI, hs, hp, hm, hi, F7, N7⟩
      have hk7 : x.2[k]? = none := by rw [← List.head?_drop, hdk]; rfl
      refine next_tup_end rfl F7 N7 hne hI (hx2.1.at fun o e => F7.keep _ _ e) (by simp [hk7]) ?_
      intro h8 F8 N8
      refine ⟨rfl, ?_⟩
      clear F7 N7
      replace F8 := fr_puts F8 [("perm", .ref l'), ("mode", .int mode t), ("index", .int (i : Int) u)] (List.forall_mem_cons.mpr ⟨hp, List.forall_mem_cons.mpr ⟨hm, List.forall_mem_cons.mpr ⟨hi, List.forall_mem_nil _⟩⟩⟩)
      dsimp only [kstB] at F8
      have hps10 : (strValues ps).toArray.size ≤ 1048576 := by
        have := congrArg List.length hps
        simp only [List.length_append, List.length_map, fm_length] at this
        simp only [strValues, List.size_toArray, List.length_map]; omega
      have hpre : ∀ p ∈ ([(T', tupO [Value.int (i : Int) u, Value.ref x.1]), (e, enumO it ((i + 1 : Nat) : Int) old'), (it, oi')] : Led), p.2.cls ≠ .type "list" ∨ p.1 ≠ l' := by
        simp [hit'.1]
      cases i with
      | zero =>
        k_steps
        rename Fr _ _ _ _ => F9
        rename News _ _ _ _ => N9
        refine app_led (pre := [_, _, _]) F9 N9 hpre hl2 hps10 ?_
        intro h10 F10 N10
        k_steps
        show wpAny _ _ (execs [] _) _ _ _
        k_steps
        exact After.next (JO.step hdr hil hit' hps (by rw [← hs]; show _ = S [63]; decide +kernel) rfl rfl F10 (news_sub N10 fun p hp => .tail _ hp))
      | succ i =>
        k_steps
        rename Fr _ _ _ _ => F9
        rename News _ _ _ _ => N9
        refine app_led (pre := [_, _, _]) F9 N9 hpre hl2 hps10 ?_
        intro h10 F10 N10
        k_steps
        show wpAny _ _ (execs [] _) _ _ _
        k_steps
        exact After.next (JO.step hdr hil hit' hps (by rw [← hs]; show _ = S [45]; decide +kernel) rfl rfl F10 (news_sub N10 fun p hp => .tail _ hp))
  · rintro h tk ⟨i, mm, ps, n, old, oi, hdr, hil, hit, hps, hp, hm, F, N⟩
    have hi : i = tabs.length := hil
    refine next_enum_end rfl F N a1 hit (g120 F N _ (.tail _ (.head _))) (hT0.at fun o e => F.keep _ _ e) (by simp [hi]) ?_
    intro h4 F4 N4
    refine ⟨rfl, ?_⟩
    replace F4 := fr_puts F4 [("perm", .ref l'), ("mode", .int mode t)] (List.forall_mem_cons.mpr ⟨hp, List.forall_mem_cons.mpr ⟨hm, List.forall_mem_nil _⟩⟩)
    dsimp only [kstB] at F4
    clear F N
    k_steps
    show wpAny _ _ (execs _ _) _ _ _
    k_steps
    rename Fr _ _ _ _ => F5
    rename News _ _ _ _ => N5
    have hps' : ps.map (·.1) = ((fm mode).map fun c => [c]).map S := by
      rw [List.map_map]
      show _ = (fm mode).map fun c => S [c]
      simpa [fmFrom] using hps
    refine join_led (by decide +kernel) (isList_of N5 (.head _)) hps' (by rw [flat_ones, fm_length]; decide) ?_
    intro t' k'
    rw [flat_ones]
    k_steps
    rename Fr h₀ _ _ _ => F6
    rename News h₀ _ _ _ => N6
    exact hret _ [] _ _ ⟨⟨_, rfl⟩, rfl⟩ F6 (news_sub N6 fun p hp => .tail _ hp) (fun _ h => nomatch h)
end
end Mine
end
section
open PySem PySem.W PyProof.Rows PySem.Calls PySem.Spec
set_option maxRecDepth 100000
namespace Mine
noncomputable def pcOf (c : Nat) (d : Int) : Pc := if d = 0 then .any else if d = 2 then .bar c else .ask c
noncomputable def pcsFrom : List Nat → Int → List Pc
  | [], _ => []
  | c :: r, f => pcOf c (f.fmod 3) :: pcsFrom r (f.fdiv 3)
noncomputable def isAny : Pc → Bool
  | .any => true
  | _ => false
noncomputable def trimAny (ps : List Pc) : List Pc := (ps.reverse.dropWhile isAny).reverse
noncomputable def starOf (row : List Nat) (n : Int) : Bool := decide ((n.fdiv 2).fmod 2 = 1 ∧ (trimAny (pcsFrom row n)).length ≠ (pcsFrom row n).length)
noncomputable def psOf (row : List Nat) (n : Int) : List Pc := if starOf row n then trimAny (pcsFrom row n) else pcsFrom row n
/-- the other mode that a number names -/
noncomputable def otherOf (mode n : Int) : Int := Builtin.bitXor mode ((n.fdiv 59049).fmod 65536)
noncomputable def ruleOf (mode n : Int) : List Ask × Bool := (asksFrom 0 (psOf (fm (otherOf mode n)) n), n.fmod 2 == 1)
theorem isAny_iff {x : Pc} : isAny x = true ↔ x = .any := by cases x <;> simp [isAny]
theorem pcs_length : ∀ (row : List Nat) (f : Int), (pcsFrom row f).length = row.length
  | [], _ => rfl
  | _ :: r, f => by simp [pcsFrom, pcs_length r]
theorem pcOf_src (c : Nat) (d : Int) : pieceOf c d = (pcOf c d).src := by
  unfold pieceOf pcOf
  split
  · rfl
  · split
    · rfl
    · rfl
theorem cols_src : ∀ (row : List Nat) (f : Int), colsFrom row f = srcs (pcsFrom row f)
  | [], _ => rfl
  | c :: r, f => by
    show pieceOf c _ ++ colsFrom r _ = srcs (_ :: _)
    rw [cols_src r, pcOf_src]; simp [srcs]
theorem pcOf_ok {c : Nat} (d : Int) (h : c ∈ signs) : (pcOf c d).Ok := by
  unfold pcOf
  split
  · trivial
  · split
    · exact h
    · exact h
theorem pcs_ok : ∀ (row : List Nat) (f : Int), (∀ c ∈ row, c ∈ signs) → ∀ x ∈ pcsFrom row f, x.Ok
  | [], _, _, x, hx => absurd hx List.not_mem_nil
  | c :: r, f, h, x, hx => by
    rcases List.mem_cons.mp hx with rfl | hx
    · exact pcOf_ok _ (h c (.head _))
    · exact pcs_ok r _ (fun c hc => h c (.tail _ hc)) x hx
theorem trim_spec (ps : List Pc) : ∃ k, ps = trimAny ps ++ List.replicate k .any := by
  unfold trimAny
  refine ⟨(ps.reverse.takeWhile isAny).length, ?_⟩
  have h := List.takeWhile_append_dropWhile (p := isAny) (l := ps.reverse)
  have h2 : ps.reverse.takeWhile isAny = List.replicate (ps.reverse.takeWhile isAny).length .any := List.eq_replicate_iff.mpr ⟨rfl, fun b hb => isAny_iff.mp (List.all_eq_true.mp List.all_takeWhile b hb)⟩
  have h3 := congrArg List.reverse h
  rw [List.reverse_append, List.reverse_reverse] at h3
  rw [← List.reverse_replicate, ← h2]
  exact h3.symm
theorem trim_last (ps : List Pc) : ∀ x, (trimAny ps).getLast? = some x → isAny x = false := by
  intro x hx
  unfold trimAny at hx
  rw [List.getLast?_reverse] at hx
  have := List.head?_dropWhile_not isAny ps.reverse
  rw [hx] at this
  simpa using this
theorem srcs_app (a b : List Pc) : srcs (a ++ b) = srcs a ++ srcs b := by simp [srcs]
theorem srcs_any (k : Nat) : srcs (List.replicate k .any) = List.replicate k 63 := by
  induction k with
  | zero => rfl
  | succ k ih => rw [List.replicate_succ, List.replicate_succ, ← ih]; rfl
theorem src_last {x : Pc} (h : x.Ok) (ha : isAny x = false) : ∃ a, x.src.getLast? = some a ∧ a ≠ 63 := by
  cases x with
  | any => cases ha
  | bar c => exact ⟨93, rfl, by decide⟩
  | ask c =>
    unfold Pc.src
    by_cases hc : c = 63
    · exact ⟨93, by simp [hc], by decide⟩
    · exact ⟨c, by simp [hc], hc⟩
theorem rstrip_rep (l : List Nat) (k : Nat) (h : ∀ a, l.getLast? = some a → a ≠ 63) : rstripL ([63] : List Nat).contains (l ++ List.replicate k 63) = l := by
  unfold rstripL
  have h1 : ((l ++ List.replicate k 63).reverse.takeWhile ([63] : List Nat).contains).length = k := by
    rw [List.reverse_append, List.reverse_replicate, List.takeWhile_append_of_pos (fun a ha => by rw [List.eq_of_mem_replicate ha]; decide), List.length_append, List.length_replicate]
    have : l.reverse.takeWhile ([63] : List Nat).contains = [] := by
      cases hl : l.reverse with
      | nil => rfl
      | cons a r =>
        have : l.getLast? = some a := by rw [← List.head?_reverse, hl]; rfl
        rw [List.takeWhile_cons_of_neg (by simpa using h a this)]
    rw [this]; simp
  rw [h1, List.length_append, List.length_replicate, Nat.add_sub_cancel, List.take_left']
  rfl
theorem rstrip_srcs (ps : List Pc) (hok : ∀ x ∈ ps, x.Ok) : rstripL ([63] : List Nat).contains (srcs ps) = srcs (trimAny ps) := by
  obtain ⟨k, hk⟩ := trim_spec ps
  have e : srcs ps = srcs (trimAny ps) ++ List.replicate k 63 := by
    conv => lhs; rw [hk]
    rw [srcs_app, srcs_any]
  rw [e]
  refine rstrip_rep _ _ fun a ha => ?_
  cases hl : (trimAny ps).getLast? with
  | none =>
    rw [List.getLast?_eq_none_iff] at hl
    rw [hl] at ha
    simp [srcs] at ha
  | some x =>
    obtain ⟨pre, hpre⟩ := List.getLast?_eq_some_iff.mp hl
    have hx : x.Ok := hok x (by rw [hk, hpre]; simp)
    obtain ⟨b, hb, hne⟩ := src_last hx (trim_last ps x hl)
    rw [hpre, srcs_app, show srcs [x] = x.src by simp [srcs], List.getLast?_append, hb] at ha
    simp at ha
    exact ha ▸ hne
theorem srcs_pos : ∀ ps : List Pc, ps.length ≤ (srcs ps).length
  | [] => Nat.le_refl _
  | x :: r => by
    have h1 : 1 ≤ x.src.length := by
      cases x with
      | any => simp [Pc.src]
      | bar c => simp [Pc.src]
      | ask c => unfold Pc.src; dsimp only; split <;> simp
    have := srcs_pos r
    rw [show srcs (x :: r) = x.src ++ srcs r by simp [srcs], List.length_append, List.length_cons]; omega
theorem pat_eq (row : List Nat) (n : Int) (h : ∀ c ∈ row, c ∈ signs) : pat row n = srcs (psOf row n) ++ if starOf row n then [42] else [] := by
  have hok := pcs_ok row n h
  have e1 : ((trimAny (pcsFrom row n)).length ≠ (pcsFrom row n).length) ↔ srcs (trimAny (pcsFrom row n)) ≠ srcs (pcsFrom row n) := by
    obtain ⟨k, hk⟩ := trim_spec (pcsFrom row n)
    have hl := congrArg List.length hk
    rw [List.length_append, List.length_replicate] at hl
    have hs : srcs (pcsFrom row n) = srcs (trimAny (pcsFrom row n)) ++ List.replicate k 63 := by
      conv => lhs; rw [hk]
      rw [srcs_app, srcs_any]
    constructor
    · intro hne e
      rw [hs] at e
      have := congrArg List.length e
      rw [List.length_append, List.length_replicate] at this
      omega
    · intro hne e
      refine hne ?_
      have : k = 0 := by omega
      rw [hs, this]; simp
  unfold pat psOf starOf
  rw [cols_src, rstrip_srcs _ hok]
  by_cases hc : (n.fdiv 2).fmod 2 = 1 ∧ srcs (trimAny (pcsFrom row n)) ≠ srcs (pcsFrom row n)
  · have hd : (n.fdiv 2).fmod 2 = 1 ∧ (trimAny (pcsFrom row n)).length ≠ (pcsFrom row n).length := ⟨hc.1, e1.mpr hc.2⟩
    rw [if_pos hc, decide_eq_true hd]; simp
  · have hd : ¬ ((n.fdiv 2).fmod 2 = 1 ∧ (trimAny (pcsFrom row n)).length ≠ (pcsFrom row n).length) := fun e => hc ⟨e.1, e1.mp e.2⟩
    rw [if_neg hc, decide_eq_false hd]; simp
theorem trim_sub (ps : List Pc) : ∀ x ∈ trimAny ps, x ∈ ps := by
  intro x hx
  obtain ⟨k, hk⟩ := trim_spec ps
  rw [hk]; exact List.mem_append_left _ hx
theorem ps_ok (row : List Nat) (n : Int) (h : ∀ c ∈ row, c ∈ signs) : ∀ x ∈ psOf row n, x.Ok := by
  intro x hx
  unfold psOf at hx
  split at hx
  · exact pcs_ok row n h x (trim_sub _ x hx)
  · exact pcs_ok row n h x hx
theorem ps_len (row : List Nat) (n : Int) (h : row.length = 10) : if starOf row n then (psOf row n).length < 10 else (psOf row n).length = 10 := by
  unfold psOf
  obtain ⟨k, hk⟩ := trim_spec (pcsFrom row n)
  have hl := congrArg List.length hk
  rw [List.length_append, List.length_replicate, pcs_length, h] at hl
  split
  · rename_i hs
    have := (of_decide_eq_true hs).2
    rw [pcs_length, h] at this
    omega
  · rw [pcs_length, h]
theorem asks_any : ∀ (ps : List Pc) (k m : Nat), asksFrom k (ps ++ List.replicate m .any) = asksFrom k ps
  | [], k, m => by
    induction m generalizing k with
    | zero => rfl
    | succ m ih => rw [List.replicate_succ]; exact ih (k + 1)
  | x :: r, k, m => by
    show askOf k x ++ asksFrom (k + 1) (r ++ _) = _
    rw [asks_any r]; rfl
/-- the star takes nothing that is asked -/
theorem asks_ps (row : List Nat) (n : Int) : asksFrom 0 (psOf row n) = asksFrom 0 (pcsFrom row n) := by
  unfold psOf
  split
  · obtain ⟨k, hk⟩ := trim_spec (pcsFrom row n)
    conv => rhs; rw [hk]
    rw [asks_any]
  · rfl
end Mine
end
section
open PySem PySem.W PyProof.Rows PySem.Calls PySem.Spec
set_option maxRecDepth 100000
namespace Mine
theorem add_xor : ∀ n a b : Nat, a ≤ n → a + b = (a ^^^ b) + 2 * (a &&& b)
  | 0, a, b, h => by
    have : a = 0 := by omega
    subst this; simp
  | n + 1, a, b, h => by
    by_cases ha : a = 0
    · subst ha; simp
    · have ih := add_xor n (a / 2) (b / 2) (by omega)
      have h1 : (a ^^^ b) / 2 = a / 2 ^^^ b / 2 := Nat.xor_div_two
      have h2 : (a &&& b) / 2 = a / 2 &&& b / 2 := Nat.and_div_two
      have h3 : ((a ^^^ b) % 2 = 1) ↔ ¬((a % 2 = 1) ↔ (b % 2 = 1)) := by rw [Nat.xor_mod_two_eq_one]
      have h4 : ((a &&& b) % 2 = 1) ↔ (a % 2 = 1) ∧ (b % 2 = 1) := by rw [Nat.and_mod_two_eq_one]
      rw [← h1, ← h2] at ih
      clear h1 h2
      generalize a ^^^ b = X at *
      generalize a &&& b = Y at *
      rcases Nat.mod_two_eq_zero_or_one a with pa | pa <;> rcases Nat.mod_two_eq_zero_or_one b with pb | pb <;> simp only [pa, pb] at h3 h4 <;> simp at h3 h4 <;> omega
theorem xor_pp {x y : Int} (hx : 0 ≤ x) (hy : 0 ≤ y) : Builtin.bitXor x y = ((x.toNat ^^^ y.toNat : Nat) : Int) := by
  have := add_xor x.toNat x.toNat y.toNat (Nat.le_refl _)
  rw [bitXor_and, bitAnd_pp hx hy]
  omega
theorem xor_bd {x y : Int} (hx : 0 ≤ x) (hx2 : x < 65536) (hy : 0 ≤ y) (hy2 : y < 65536) : 0 ≤ Builtin.bitXor x y ∧ Builtin.bitXor x y < 65536 := by
  rw [xor_pp hx hy]
  have : x.toNat ^^^ y.toNat < 2 ^ 16 := Nat.xor_lt_two_pow (by omega) (by omega)
  omega
theorem other_bd {mode n : Int} (h0 : 0 ≤ mode) (h1 : mode < 65536) : 0 ≤ otherOf mode n ∧ otherOf mode n < 65536 := by
  have e : (n.fdiv 59049).fmod 65536 = (n.fdiv 59049) % 65536 := Int.fmod_eq_emod_of_nonneg _ (by decide)
  unfold otherOf
  exact xor_bd h0 h1 (by rw [e]; omega) (by rw [e]; omega)
end Mine
end
section
open PySem PySem.W PyProof.Rows PySem.Calls PySem.Spec
set_option maxRecDepth 100000
set_option maxHeartbeats 2000000
namespace Mine
/-- the law's own text -/
noncomputable def LawAt (K : Frag) (scope : Scope) (ss : List Stmt) : Prop := ∃ (oc : Value) (od : Option Addr) (osl : Array (Option Value)) (name qual : Str) (params : Arguments) (dV kV doc pm cdv ct : Value) (an : Option Addr), K.lookup 254 = some ⟨oc, od, .func (fnOf name qual params ss scope dV kV doc pm an cdv ct), osl⟩
theorem law_lit {K : Frag} {scope scope' : Scope} {ss ss' : List Stmt} {P : Scope → List Stmt → Prop} {oc : Value} {od : Option Addr} {osl : Array (Option Value)} {name qual : Str} {params : Arguments} {dV kV doc pm cdv ct : Value} {an : Option Addr} (h : LawAt K scope ss) (ho : K.lookup 254 = some ⟨oc, od, .func (fnOf name qual params ss' scope' dV kV doc pm an cdv ct), osl⟩) (hP : P scope' ss') : P scope ss := by
  obtain ⟨_, _, _, _, _, _, _, _, _, _, _, _, _, h⟩ := h
  rw [ho] at h
  cases h
  exact hP
noncomputable def Off (fx : List Addr) (rest : Led) : Prop := ∀ a ∈ fx, ∀ q ∈ rest, q.1 ≠ a
noncomputable def LamOff (k : Option (Addr × Obj)) (fx : List Addr) (rest : Led) : Prop := ∀ c oc, k = some (c, oc) → (∀ q ∈ rest, q.1 ≠ c) ∧ ∀ a ∈ fx, a ≠ c
/-- the list of (other, number, rule) -/
noncomputable def TupsIn (rest : Led) (tups vals : List Value) (mode : Int) (ns : List Int) : Prop := tups.length = ns.length ∧ ∀ (i : Nat) (n : Int), ns[i]? = some n → ∃ (T : Addr) (t u : Tok) (v : Value), tups[i]? = some (.ref T) ∧ vals[i]? = some v ∧ (T, tupO [.int (otherOf mode n) t, .int n u, v]) ∈ rest
theorem lamLed_ne {k : Option (Addr × Obj)} {fx : List Addr} {rest : Led} {a : Addr} (hlo : LamOff k fx rest) (ha : a ∈ fx) (h230 : (230 : Addr) ≠ a) : ∀ q ∈ lamLed k, q.1 ≠ a := by
  intro q hq
  cases k with
  | none => rw [List.mem_singleton.mp hq]; exact h230
  | some y =>
    obtain ⟨c, oc⟩ := y
    simp only [lamLed, List.mem_cons, List.not_mem_nil, or_false] at hq
    rcases hq with rfl | rfl
    · exact h230
    · exact fun e => (hlo c oc rfl).2 a ha e.symm
theorem hit_mem (t : Int → Bool) (d : Nat) : ∀ rows : List (Addr × Int × Nat), hit t d rows = d ∨ ∃ r ∈ rows, hit t d rows = r.2.2
  | [] => .inl rfl
  | r :: l => by
    unfold hit
    split
    · exact .inr ⟨r, .head _, rfl⟩
    · rcases hit_mem t d l with h | ⟨r', hr, h⟩
      · exact .inl h
      · exact .inr ⟨r', .tail _ hr, h⟩
theorem fmFrom_signs (mode : Int) : ∀ (l : List (Addr × List (Addr × Int × Nat))) (i : Nat), (∀ x ∈ l, ∀ r ∈ x.2, r.2.2 ∈ signs) → ∀ c ∈ fmFrom mode i l, c ∈ signs
  | [], _, _, c, hc => absurd hc List.not_mem_nil
  | x :: r, i, h, c, hc => by
    rcases List.mem_cons.mp hc with rfl | hc
    · unfold sgn
      split
      · rcases hit_mem (fun b => decide (Builtin.bitAnd mode 61440 = b)) 63 x.2 with e | ⟨y, hy, e⟩
        · rw [e]; exact .head _
        · rw [e]; exact h x (.head _) y hy
      · rcases hit_mem (fun b => decide (Builtin.bitAnd mode b = b)) 45 x.2 with e | ⟨y, hy, e⟩
        · rw [e]; exact .tail _ (.head _)
        · rw [e]; exact h x (.head _) y hy
    · exact fmFrom_signs mode r (i + 1) (fun x hx => h x (.tail _ hx)) c hc
theorem fm_signs (mode : Int) : ∀ c ∈ fm mode, c ∈ signs := fmFrom_signs mode tabs 0 (by decide)
theorem lam_ne230 {h₀ h : Heap} {L c : Addr} {oc : Obj} {own' news : Led} (N : News h₀ L h ((lamLed (some (c, oc)) ++ own') ++ news)) (hk : LamOk (some (c, oc))) : (230 : Addr) ≠ c := by
  rintro rfl
  have h1 := (N (230, tabObj #[rawInt 248, rawInt 22, .ref 230]) (.head _)).1
  have h2 := (N (230, oc) (.tail _ (.head _))).1
  obtain ⟨vs, t, e1, e2⟩ := hk
  rw [h1] at h2
  cases h2
  cases e1
  exact absurd e2 (by simp [rawInt])
noncomputable def lamCode : Option (Addr × Obj) → Led
  | none => []
  | some y => [y]
theorem lamCode_sub {k : Option (Addr × Obj)} : ∀ q ∈ lamCode k, q ∈ lamLed k := by
  intro q hq
  cases k with
  | none => exact absurd hq List.not_mem_nil
  | some y => rw [List.mem_singleton.mp hq]; exact .tail _ (.head _)
theorem lamLed_apart {k : Option (Addr × Obj)} {fx : List Addr} {rest news : Led} (hlo : LamOff k fx rest) (h230 : ∀ q ∈ news, q.1 ≠ 230) (h : ∀ q ∈ news, q.1 ∈ fx ∨ q ∈ rest) : ∀ r ∈ lamLed k, ∀ q ∈ news, q.1 ≠ r.1 := by
  intro r hr q hq
  cases k with
  | none => rw [List.mem_singleton.mp hr]; exact h230 q hq
  | some y =>
    obtain ⟨c, oc⟩ := y
    simp only [lamLed, List.mem_cons, List.not_mem_nil, or_false] at hr
    rcases hr with rfl | rfl
    · exact h230 q hq
    · rcases h q hq with h | h
      · exact (hlo c oc rfl).2 _ h
      · exact (hlo c oc rfl).1 q h
theorem std_ne {k : Option (Addr × Obj)} {fx : List Addr} {rest : Led} {a : Addr} {tab : Array Value} (heads : Led) (ha : a ∈ fx) (hh : ∀ q ∈ heads, q.1 ≠ a) (h230 : (230 : Addr) ≠ a) (h153 : (153 : Addr) ≠ a) (hlo : LamOff k fx rest) (hoff : Off fx rest) : ∀ q ∈ heads ++ (lamLed k ++ (153, tabObj tab) :: rest), q.1 ≠ a := by
  intro q hq
  rcases List.mem_append.mp hq with hq | hq
  · exact hh q hq
  rcases List.mem_append.mp hq with hq | hq
  · exact lamLed_ne hlo ha h230 q hq
  rcases List.mem_cons.mp hq with rfl | hq
  · exact h153
  · exact hoff a ha q hq
theorem tabFine0 : TabFine #[] := ⟨trivial, fun pos v e => by simp [codeAmong] at e⟩
section
variable (w : World) (p : Program) (loose : List Str) (mean : ExcName → Option Value) (mg mb : Str → Option Value)
/-- the rules, kept apart from the entries of fr -/
noncomputable def RulesF (fr : Led) (k : Option (Addr × Obj)) (rest : Led) (vals : List Value) (rules : List (List Ask × Bool)) : Prop := ∃ rs : Led, (∀ q ∈ rs, q ∈ rest) ∧ (∀ q ∈ rs, ∀ r ∈ fr, q.1 ≠ r.1) ∧ RulesIn w p loose mean mg mb (lamCode k ++ rs) vals rules
noncomputable def J1 (fr : Led) (g : Heap) (L I Rr Tr Rs NA : Addr) (mode : Int) (um : Tok) (nums : List Int) (rest0 : Led) (recX turX : Addr) (r : List Int) (h : Heap) : Prop :=
  ∃ (i : Nat) (oI : Obj) (mm : Str → Option Value) (vals tups : List Value) (n1 n2 n3 : Nat) (k : Option (Addr × Obj)) (tab : Array Value) (rest : Led),
    nums.drop i = r ∧ i + r.length = nums.length ∧ LstIt NA i oI ∧ RulesF w p loose mean mg mb fr k rest vals ((nums.take i).map (ruleOf mode)) ∧ TupsIn rest tups vals mode (nums.take i) ∧ LamOk k ∧ TabFine tab ∧
    Off [I, Rr, Tr, Rs, 230, 153] rest ∧ LamOff k [I, Rr, Tr, Rs, 230, 153] rest ∧ (∀ q ∈ rest0, q ∈ rest) ∧ mm "mode" = some (.int mode um) ∧ mm "record" = some (.ref recX) ∧ mm "turned" = some (.ref turX) ∧ mm "rules" = some (.ref Rs) ∧
    Fr g L h mm ∧ News g L h ((I, oI) :: (Rr, listOf vals.toArray n1) :: (Tr, listOf vals.reverse.toArray n2) :: (Rs, listOf tups.toArray n3) :: (lamLed k ++ (153, tabObj tab) :: rest))
/-- behind the first loop -/
noncomputable def J1E (fr : Led) (g : Heap) (L Rr Tr Rs : Addr) (mode : Int) (um : Tok) (nums : List Int) (rest0 : Led) (recX turX : Addr) (h : Heap) : Prop :=
  ∃ (mm : Str → Option Value) (vals tups : List Value) (n1 n2 n3 : Nat) (k : Option (Addr × Obj)) (tab : Array Value) (rest : Led),
    RulesF w p loose mean mg mb fr k rest vals (nums.map (ruleOf mode)) ∧ TupsIn rest tups vals mode nums ∧ LamOk k ∧ TabFine tab ∧
    Off [Rr, Tr, Rs, 230, 153] rest ∧ LamOff k [Rr, Tr, Rs, 230, 153] rest ∧ (∀ q ∈ rest0, q ∈ rest) ∧ mm "mode" = some (.int mode um) ∧ mm "record" = some (.ref recX) ∧ mm "turned" = some (.ref turX) ∧ mm "rules" = some (.ref Rs) ∧
    Fr g L h mm ∧ News g L h ((Rr, listOf vals.toArray n1) :: (Tr, listOf vals.reverse.toArray n2) :: (Rs, listOf tups.toArray n3) :: (lamLed k ++ (153, tabObj tab) :: rest))
end
section
variable {w : World} {p : Program} {loose : List Str} {mean : ExcName → Option Value} {mg mb : Str → Option Value}
theorem lines_LB1 : True := by
  k_with_none
  k_with "my mem" => assumption
  k_with "my all" => assumption
  k_with "my steps" => repeat' ((fail_if_success (with_reducible show wpAny _ _ (exec (Stmt.For _ _ _ _ _) _) _ _ _)); (fail_if_success (with_reducible show wpAny _ _ (call (Value.ref _) _) _ _ _)); (fail_if_success (with_reducible show wpAny _ _ (call (Value.builtin "list.append") _) _ _ _)); (fail_if_success (with_reducible show wpAny _ _ (call (Value.builtin "list.insert") _) _ _ _)); first | walk1 | (dsimp only; walk1) | (leave1; walk_say "STEP leave1"; try dsimp only) | fail "no step")
  k_with "my exec If" => refine wpAny_If ?_
  k_with "my eval Name" => (k_dflt (refine' nameX_L ?F ?v ?_ ?a ?b; (case F => k_asm); (case a => rfl); (case b => rfl); (case v => rfl); k_whole))
  k_with "my room" => ((try simp only [depth_under_make, depth_under_kw, depth_in1, depth_deeper, depth_caller]); (try dsimp only [ktrTop]); omega)
  trivial
theorem J1.step {fr : Led} {g : Heap} {L I Rr Tr Rs NA : Addr} {mode : Int} {um : Tok} {nums : List Int} {rest0 : Led} {recX turX : Addr} {n : Int} {r : List Int} {h : Heap} {i : Nat} {oI : Obj} {mm : Str → Option Value} {vals tups : List Value} {n1 n2 n3 : Nat} {c : Addr} {oc : Obj} {tab : Array Value} {rest : Led} {Xr T : Addr} {z : Int} {tz tn : Tok}
    (hdk : nums.drop (i + 1) = r) (hil : i + 1 + r.length = nums.length) (hI : LstIt NA (i + 1) oI) (hrules : RulesF w p loose mean mg mb fr (some (c, oc)) rest (vals ++ [.ref Xr]) ((nums.take (i + 1)).map (ruleOf mode))) (htups : TupsIn rest tups vals mode (nums.take i)) (hvl : vals.length = i) (htl : tups.length = i) (hx : nums[i]? = some n)
    (hk : LamOk (some (c, oc))) (htab : TabFine tab) (hoff : Off [I, Rr, Tr, Rs, 230, 153] rest) (hlo : LamOff (some (c, oc)) [I, Rr, Tr, Rs, 230, 153] rest) (hsub : ∀ q ∈ rest0, q ∈ rest)
    (g1 : mm "mode" = some (.int mode um)) (g2 : mm "record" = some (.ref recX)) (g3 : mm "turned" = some (.ref turX)) (g4 : mm "rules" = some (.ref Rs))
    (hlt : I < T ∧ Rr < T ∧ Tr < T ∧ Rs < T ∧ ∀ q ∈ (lamLed (some (c, oc)) ++ (153, tabObj tab) :: rest : Led), q.1 < T) (hz : z = otherOf mode n)
    (F : Fr g L h mm) (N : News g L h ([(T, tupO [.int z tz, .int n tn, .ref Xr]), (I, oI), (Rr, listOf (vals.toArray.push (.ref Xr)) n1), (Tr, listOf (kl_ins vals.reverse 0 (.ref Xr)).toArray n2)] ++ (Rs, listOf (tups.toArray.push (.ref T)) n3) :: (lamLed (some (c, oc)) ++ (153, tabObj tab) :: rest))) :
    J1 w p loose mean mg mb fr g L I Rr Tr Rs NA mode um nums rest0 recX turX r h := by
  subst hz
  obtain ⟨lI, lR, lT, lS, lA⟩ := hlt
  have l230 : (230 : Addr) < T := lA (230, _) (.head _)
  have lc : c < T := lA (c, oc) (.tail _ (.head _))
  have l153 : (153 : Addr) < T := lA (153, tabObj tab) (List.mem_append_right _ (.head _))
  refine ⟨i + 1, oI, mm, vals ++ [.ref Xr], tups ++ [.ref T], n1, n2, n3, some (c, oc), tab, (T, tupO [.int (otherOf mode n) tz, .int n tn, .ref Xr]) :: rest, hdk, hil, hI, (let ⟨rs, s1, s2, s3⟩ := hrules; ⟨rs, fun q hq => .tail _ (s1 q hq), s2, s3⟩), ?_, hk, htab, ?_, ?_, fun q hq => .tail _ (hsub q hq), g1, g2, g3, g4, F, ?_⟩
  · rw [List.take_add_one, hx]
    refine ⟨by simp [htups.1], fun j n9 h9 => ?_⟩
    by_cases hj : j < (nums.take i).length
    · rw [Option.toList_some, List.getElem?_append_left hj] at h9
      obtain ⟨T9, t9, u9, v9, a1, a2, a3⟩ := htups.2 j n9 h9
      have b1 := (List.getElem?_eq_some_iff.mp a1).1
      have b2 := (List.getElem?_eq_some_iff.mp a2).1
      exact ⟨T9, t9, u9, v9, by rw [List.getElem?_append_left b1]; exact a1, by rw [List.getElem?_append_left b2]; exact a2, .tail _ a3⟩
    · have hj2 := (List.getElem?_eq_some_iff.mp h9).1
      rw [Option.toList_some, List.length_append, List.length_singleton] at hj2
      have hti : (nums.take i).length = i := by rw [← htups.1, htl]
      have hj3 : j = (nums.take i).length := by omega
      rw [Option.toList_some, hj3, List.getElem?_append_right (Nat.le_refl _), Nat.sub_self] at h9
      cases h9
      refine ⟨T, tz, tn, .ref Xr, ?_, ?_, .head _⟩
      · rw [hj3, hti, ← htl, List.getElem?_append_right (Nat.le_refl _), Nat.sub_self]; rfl
      · rw [hj3, hti, ← hvl, List.getElem?_append_right (Nat.le_refl _), Nat.sub_self]; rfl
  · intro a ha q hq
    rcases List.mem_cons.mp hq with rfl | hq
    · simp only [List.mem_cons, List.not_mem_nil, or_false] at ha
      rcases ha with rfl | rfl | rfl | rfl | rfl | rfl
      · exact Nat.ne_of_gt lI
      · exact Nat.ne_of_gt lR
      · exact Nat.ne_of_gt lT
      · exact Nat.ne_of_gt lS
      · exact Nat.ne_of_gt l230
      · exact Nat.ne_of_gt l153
    · exact hoff a ha q hq
  · rintro c2 oc2 e
    cases e
    refine ⟨fun q hq => ?_, (hlo c oc rfl).2⟩
    rcases List.mem_cons.mp hq with rfl | hq
    · exact Nat.ne_of_gt lc
    · exact (hlo c oc rfl).1 q hq
  · have e1 : (vals.toArray.push (Value.ref Xr)) = (vals ++ [Value.ref Xr]).toArray := by simp
    have e2 : kl_ins vals.reverse 0 (Value.ref Xr) = (vals ++ [Value.ref Xr]).reverse := by simp [kl_ins]
    have e3 : (tups.toArray.push (Value.ref T)) = (tups ++ [Value.ref T]).toArray := by simp
    rw [e1, e2, e3] at N
    refine news_sub N fun q hq => ?_
    simp only [List.mem_append, List.mem_cons, List.not_mem_nil, or_false] at hq ⊢
    rcases hq with h | h | h | h | h | h | h | h
    · exact .inl (.inr (.inl h))
    · exact .inl (.inr (.inr (.inl h)))
    · exact .inl (.inr (.inr (.inr h)))
    · exact .inr (.inl h)
    · exact .inr (.inr (.inl h))
    · exact .inr (.inr (.inr (.inl h)))
    · exact .inl (.inl h)
    · exact .inr (.inr (.inr (.inr h)))
theorem law_loop1 {scope : Scope} {ss : List Stmt} (hlaw : LawAt (hd0.heap_1 w.params) scope ss) {s0 s1 s2 st : Stmt} {more : List Stmt} (hss : ss = s0 :: s1 :: s2 :: st :: more)
    {dp un : Nat} {gd : Option (List Code)} {L a : Addr} {ccd : Value} {cl : List (Str × Addr)} {outer : List Env} {A₀ : Around} {base g : Heap} {m : Str → Option Value} {s : Shared} {Q : Flow → Shared → Prop}
    {Rr Tr Rs NA recX turX recD turD ua ub : Addr} {e1 e2 e3 e4 f1 f2 f3 f4 um : Tok} {mode : Int} {nums : List Int} {nvals : List Value} {nn : Nat} {rest0 : Led}
    (B : Below A₀ base outer g) (F : Fr g L s.heap m) (X : (hd0.heap_1 w.params).In g) (T : Top p loose mean mg mb g) (hdp : dp + 40 < recursionLimit) (hu : un + 10 * 40 < cLine) (hgens : AllBare s.gens)
    (N : News g L s.heap ((Rr, listOf #[] 0) :: (Tr, listOf #[] 0) :: (Rs, listOf #[] 0) :: (lamLed none ++ (153, tabObj #[]) :: rest0)))
    (hoff : Off [Rr, Tr, Rs, 230, 153] rest0) (hnd : [Rr, Tr, Rs, 230, 153].Nodup)
    (b1 : (recX, instObj 203 recD) ∈ rest0) (b2 : (recD, dictOf (entEs w ua Rr e1 e2 e3 e4) 4) ∈ rest0) (b3 : (turX, instObj 203 turD) ∈ rest0) (b4 : (turD, dictOf (entEs w ub Tr f1 f2 f3 f4) 4) ∈ rest0)
    (b5 : (NA, listOf nvals.toArray nn) ∈ rest0) (hints : IntsAre nvals nums) (hlen : nums.length ≤ 100) (hnums : ∀ n ∈ nums, 0 ≤ n ∧ n < 10000000000) (hm0 : 0 ≤ mode) (hm1 : mode < 65536)
    (hv1 : m "numbers" = some (.ref NA)) (hv2 : m "mode" = some (.int mode um)) (hv3 : m "record" = some (.ref recX)) (hv4 : m "turned" = some (.ref turX)) (hv5 : m "rules" = some (.ref Rs))
    {fr : Led} (hfr : ∀ q ∈ fr, q ∈ rest0)
    (hQ : ∀ h gs dr tk, AllBare gs → J1E w p loose mean mg mb fr g L Rr Tr Rs mode um nums rest0 recX turX h → Q .next { heap := h, gens := gs, drawn := dr, toks := tk, os := s.os }) :
    wpAny (model PySem.Challenge.rw_in0284_01.row.prog w) (ktrTop dp un gd "law" scope L a ccd cl outer) (exec st (envX "law" scope L a ccd cl)) Q NoE s := by
  revert hlaw X hss
  k_fill
  intro hlaw hss X
  revert hss
  refine law_lit (P := fun scope ss => ss = s0 :: s1 :: s2 :: st :: more → wpAny (model PySem.Challenge.rw_in0284_01.row.prog w) (ktrTop dp un gd "law" scope L a ccd cl outer) (exec st (envX "law" scope L a ccd cl)) Q NoE s) hlaw (by k_is) ?_
  intro hss
  cases hss
  refine for_do ?_
  replace F := fr_puts F [("numbers", .ref NA), ("mode", .int mode um), ("record", .ref recX), ("turned", .ref turX), ("rules", .ref Rs)] (List.forall_mem_cons.mpr ⟨hv1, List.forall_mem_cons.mpr ⟨hv2, List.forall_mem_cons.mpr ⟨hv3, List.forall_mem_cons.mpr ⟨hv4, List.forall_mem_cons.mpr ⟨hv5, List.forall_mem_nil _⟩⟩⟩⟩⟩)
  dsimp only [kstB] at F
  k_steps
  have m5 : (NA, listOf nvals.toArray nn) ∈ ((Rr, listOf #[] 0) :: (Tr, listOf #[] 0) :: (Rs, listOf #[] 0) :: (lamLed none ++ (153, tabObj #[]) :: rest0) : Led) := .tail _ (.tail _ (.tail _ (List.mem_append_right _ (.tail _ b5))))
  refine iter_lst F N (isList_of N m5) ?_
  intro I oI h3 hI F3 N3 hne
  have hnd6 : [I, Rr, Tr, Rs, 230, 153].Nodup := List.nodup_cons.mpr ⟨by
    intro hm
    simp only [List.mem_cons, List.not_mem_nil, or_false] at hm
    rcases hm with e | e | e | e | e
    · exact hne _ (.head _) e.symm
    · exact hne _ (.tail _ (.head _)) e.symm
    · exact hne _ (.tail _ (.tail _ (.head _))) e.symm
    · exact hne (230, tabObj #[]) (.tail _ (.tail _ (.tail _ (.head _)))) e.symm
    · exact hne (153, tabObj #[]) (.tail _ (.tail _ (.tail _ (.tail _ (.head _))))) e.symm, hnd⟩
  have hoff6 : Off [I, Rr, Tr, Rs, 230, 153] rest0 := by
    intro a ha q hq
    rcases List.mem_cons.mp ha with rfl | ha
    · exact hne q (.tail _ (.tail _ (.tail _ (List.mem_append_right _ (.tail _ hq)))))
    · exact hoff a ha q hq
  clear hne hoff hnd
  refine for_indNG (J := J1 w p loose mean mg mb fr g L I Rr Tr Rs NA mode um nums rest0 recX turX) nums hgens ⟨0, oI, _, [], [], 0, 0, 0, none, #[], rest0, rfl, Nat.zero_add _, hI, ⟨[], fun _ h => absurd h List.not_mem_nil, fun _ h => absurd h List.not_mem_nil, rfl, fun i r e => by simp at e⟩, ⟨rfl, fun i r e => by simp at e⟩, trivial, tabFine0, hoff6, fun c oc e => (by cases e), fun _ h => h, rfl, rfl, rfl, rfl, F3, N3⟩ ?_ ?_
  · clear F N F3 N3 hI hv1 hv2 hv3 hv4 hv5 m5 hoff6
    rintro n r h gs dr tk hgs ⟨i, oI, mm, vals, tups, n1, n2, n3, k, tab, rest, hdr, hil, hI, hrules, htups, hk, htab, hoff, hlo, hsub, g1, g2, g3, g4, F, N⟩
    have hx : nums[i]? = some n := by rw [← List.head?_drop, hdr]; rfl
    have hdk : nums.drop (i + 1) = r := by
      have := congrArg List.tail hdr
      rw [List.tail_drop] at this
      exact this
    have hil' : i + 1 + r.length = nums.length := by simp only [List.length_cons] at hil; omega
    obtain ⟨un9, hun⟩ := hints.get i n hx
    have hn := hnums n (List.mem_of_getElem? hx)
    have hnd7 := hnd6
    simp only [List.nodup_cons, List.mem_cons, List.not_mem_nil, not_or, or_false, not_false_eq_true, List.nodup_nil, and_true] at hnd7
    obtain ⟨⟨i1, i2, i3, i4, i5⟩, ⟨r1, r2, r3, r4⟩, ⟨t1, t2, t3⟩, ⟨s1, s2⟩, z1⟩ := hnd7
    have hneI : ∀ q ∈ ((Rr, listOf vals.toArray n1) :: (Tr, listOf vals.reverse.toArray n2) :: (Rs, listOf tups.toArray n3) :: (lamLed k ++ (153, tabObj tab) :: rest) : Led), q.1 ≠ I := by
      intro q hq
      rcases List.mem_cons.mp hq with rfl | hq
      · exact fun e => i1 e.symm
      rcases List.mem_cons.mp hq with rfl | hq
      · exact fun e => i2 e.symm
      rcases List.mem_cons.mp hq with rfl | hq
      · exact fun e => i3 e.symm
      rcases List.mem_append.mp hq with hq | hq
      · exact lamLed_ne hlo (.head _) (fun e => i4 e.symm) q hq
      rcases List.mem_cons.mp hq with rfl | hq
      · exact fun e => i5 e.symm
      · exact hoff I (.head _) q hq
    have m5 : (NA, listOf nvals.toArray nn) ∈ rest := hsub _ b5
    refine next_lst F N hneI hI (isList_of N (.tail _ (.tail _ (.tail _ (.tail _ (List.mem_append_right _ (.tail _ m5))))))) (v := .int n un9) (by simpa using hun) ?_
    intro h' oI' hI' F4 N4
    replace F4 := fr_puts F4 [("mode", .int mode um), ("record", .ref recX), ("turned", .ref turX), ("rules", .ref Rs)] (List.forall_mem_cons.mpr ⟨g1, List.forall_mem_cons.mpr ⟨g2, List.forall_mem_cons.mpr ⟨g3, List.forall_mem_cons.mpr ⟨g4, List.forall_mem_nil _⟩⟩⟩⟩)
    dsimp only [kstB] at F4
    clear F N g1 g2 g3 g4
    have ob := other_bd (n := n) hm0 hm1
    k_steps
    rename Fr _ _ _ _ => F9
    rename News _ _ _ _ => N9
    refine does_val (mk := fun u => .str _ u) (d_filemode (otherOf mode n) _ ob.1 ob.2) B F9 X N9 trivial T rfl (by omega) (by omega) ?_
    intro u9 h9 tk9 F10 N10
    clear F9 N9
    k_steps
    rename Fr _ _ _ _ => F9
    rename News _ _ _ _ => N9
    refine does_val (mk := fun u => .str _ u) (d_pattern (fm (otherOf mode n)) n _ _ (by rw [fm_length]; omega) hn.1 hn.2) B F9 X N9 trivial T rfl (by omega) (by omega) ?_
    intro u9 h9 tk9 F10 N10
    clear F9 N9
    k_steps
    rename Fr _ _ _ _ => F9
    rename News _ _ _ _ => N9
    have hsg : ∀ c ∈ fm (otherOf mode n), c ∈ signs := fm_signs _
    have h153 : ∀ q ∈ ((I, oI') :: (Rr, listOf vals.toArray n1) :: (Tr, listOf vals.reverse.toArray n2) :: (Rs, listOf tups.toArray n3) :: (lamLed k ++ rest) : Led), q.1 ≠ 153 := by
      intro q hq
      rcases List.mem_cons.mp hq with rfl | hq
      · exact i5
      rcases List.mem_cons.mp hq with rfl | hq
      · exact r4
      rcases List.mem_cons.mp hq with rfl | hq
      · exact t3
      rcases List.mem_cons.mp hq with rfl | hq
      · exact s2
      rcases List.mem_append.mp hq with hq | hq
      · exact lamLed_ne hlo (by simp) z1 q hq
      · exact hoff 153 (by simp) q hq
    refine doesG_use (own₀ := [(153, tabObj tab)]) (news := (I, oI') :: (Rr, listOf vals.toArray n1) :: (Tr, listOf vals.reverse.toArray n2) :: (Rs, listOf tups.toArray n3) :: (lamLed k ++ rest)) (d_translate (psOf (fm (otherOf mode n)) n) (starOf (fm (otherOf mode n)) n) _ (pat_eq _ n hsg) tab _ (ps_ok _ n hsg) ?hl htab) B F9 X (news_sub N9 fun q hq => ?_) (fun q hq r hr => by rw [List.mem_singleton.mp hq]; exact h153 r hr) trivial T rfl (by omega) (by omega) hgs ?_
    case hl =>
      have := ps_len (fm (otherOf mode n)) n (fm_length _)
      split at this <;> omega
    · simp only [List.mem_append, List.mem_cons, List.not_mem_nil, or_false] at hq ⊢
      rcases hq with h | h | h | h | h | h | h
      · exact .inr (.inr (.inr (.inr (.inr (.inl h)))))
      · exact .inl h
      · exact .inr (.inl h)
      · exact .inr (.inr (.inl h))
      · exact .inr (.inr (.inr (.inl h)))
      · exact .inr (.inr (.inr (.inr (.inl h))))
      · exact .inr (.inr (.inr (.inr (.inr (.inr h)))))
    rintro v own h11 gs' dr' tk' hgs' ⟨tab', u', rfl, rfl, htab'⟩ F11 N11 hap11
    clear F9 N9
    k_steps
    rename Fr _ _ _ _ => F9
    rename News _ _ _ _ => N9
    have h230 : ∀ q ∈ ((I, oI') :: (Rr, listOf vals.toArray n1) :: (Tr, listOf vals.reverse.toArray n2) :: (Rs, listOf tups.toArray n3) :: (153, tabObj tab') :: rest : Led), q.1 ≠ 230 := by
      intro q hq
      rcases List.mem_cons.mp hq with rfl | hq
      · exact i4
      rcases List.mem_cons.mp hq with rfl | hq
      · exact r3
      rcases List.mem_cons.mp hq with rfl | hq
      · exact t2
      rcases List.mem_cons.mp hq with rfl | hq
      · exact s1
      rcases List.mem_cons.mp hq with rfl | hq
      · exact fun e => z1 e.symm
      · exact hoff 230 (by simp) q hq
    refine does_use (own₀ := lamLed k) (news := (I, oI') :: (Rr, listOf vals.toArray n1) :: (Tr, listOf vals.reverse.toArray n2) :: (Rs, listOf tups.toArray n3) :: (153, tabObj tab') :: rest) (d_rule (psOf (fm (otherOf mode n)) n) (starOf (fm (otherOf mode n)) n) _ rfl _ (ps_ok _ n hsg) (ps_len _ n (fm_length _)) _ k hk) B F9 X (news_sub N9 fun q hq => ?_) (lamLed_apart hlo h230 fun q hq => ?_) trivial T rfl (by omega) (by omega) ?_
    · simp only [List.mem_append, List.mem_cons, List.not_mem_nil, or_false] at hq ⊢
      rcases hq with h | h | h | h | h | h | h
      · exact .inr (.inr (.inr (.inr (.inr (.inl h)))))
      · exact .inr (.inl h)
      · exact .inr (.inr (.inl h))
      · exact .inr (.inr (.inr (.inl h)))
      · exact .inr (.inr (.inr (.inr (.inl h))))
      · exact .inl h
      · exact .inr (.inr (.inr (.inr (.inr (.inr h)))))
    · simp only [List.mem_cons] at hq ⊢
      rcases hq with rfl | rfl | rfl | rfl | rfl | h
      · simp
      · simp
      · simp
      · simp
      · simp
      · exact .inr h
    rintro v own h12 tk12 ⟨Xr, c, oc, own', rfl, hk', hsame, hown', rfl, hrule⟩ F12 N12 hap12
    clear F9 N9
    have hc12 := hap12 (c, oc) (.tail _ (.head _))
    have hlo' : LamOff (some (c, oc)) [I, Rr, Tr, Rs, 230, 153] (own' ++ rest) := by
      rintro c2 oc2 e
      cases e
      refine ⟨fun q hq => ?_, fun a ha => ?_⟩
      · rcases List.mem_append.mp hq with hq | hq
        · exact (hown' q hq).2
        · exact hc12 q (.tail _ (.tail _ (.tail _ (.tail _ (.tail _ hq)))))
      · simp only [List.mem_cons, List.not_mem_nil, or_false] at ha
        rcases ha with rfl | rfl | rfl | rfl | rfl | rfl
        · exact hc12 _ (.head _)
        · exact hc12 _ (.tail _ (.head _))
        · exact hc12 _ (.tail _ (.tail _ (.head _)))
        · exact hc12 _ (.tail _ (.tail _ (.tail _ (.head _))))
        · exact lam_ne230 N12 hk'
        · exact hc12 _ (.tail _ (.tail _ (.tail _ (.tail _ (.head _)))))
    have hoff' : Off [I, Rr, Tr, Rs, 230, 153] (own' ++ rest) := by
      intro a ha q hq
      rcases List.mem_append.mp hq with hq | hq
      · have hq12 := hap12 q (List.mem_append_right _ hq)
        simp only [List.mem_cons, List.not_mem_nil, or_false] at ha
        rcases ha with rfl | rfl | rfl | rfl | rfl | rfl
        · exact fun e => hq12 _ (.head _) e.symm
        · exact fun e => hq12 _ (.tail _ (.head _)) e.symm
        · exact fun e => hq12 _ (.tail _ (.tail _ (.head _))) e.symm
        · exact fun e => hq12 _ (.tail _ (.tail _ (.tail _ (.head _)))) e.symm
        · exact (hown' q hq).1
        · exact fun e => hq12 _ (.tail _ (.tail _ (.tail _ (.tail _ (.head _))))) e.symm
      · exact hoff a ha q hq
    have hrules' : RulesF w p loose mean mg mb fr (some (c, oc)) (own' ++ rest) (vals ++ [.ref Xr]) ((nums.take (i + 1)).map (ruleOf mode)) := by
      obtain ⟨rs, hs1, hs2, hl1, hl2⟩ := hrules
      rw [List.take_add_one, hx]
      refine ⟨own' ++ rs, fun q hq => ?_, fun q hq r9 hr9 => ?_, by simp [hl1], fun j r9 hr9 => ?_⟩
      · rcases List.mem_append.mp hq with hq | hq
        · exact List.mem_append_left _ hq
        · exact List.mem_append_right _ (hs1 q hq)
      · rcases List.mem_append.mp hq with hq | hq
        · exact fun e => hap12 q (List.mem_append_right _ hq) r9 (.tail _ (.tail _ (.tail _ (.tail _ (.tail _ (hsub _ (hfr r9 hr9))))))) e.symm
        · exact hs2 q hq r9 hr9
      simp only [Option.toList_some, List.map_append, List.map_cons, List.map_nil] at hr9
      by_cases hj : j < ((nums.take i).map (ruleOf mode)).length
      · rw [List.getElem?_append_left hj] at hr9
        obtain ⟨X9, hv9, hr9⟩ := hl2 j r9 hr9
        refine ⟨X9, by rw [List.getElem?_append_left (by omega)]; exact hv9, hr9.mono fun q hq => ?_⟩
        rcases List.mem_append.mp hq with hq | hq
        · refine List.mem_append_left _ ?_
          cases k with
          | none => exact absurd hq List.not_mem_nil
          | some y => rw [List.mem_singleton.mp hq, hsame y rfl]; exact .head _
        · exact List.mem_append_right _ (List.mem_append_right _ hq)
      · have hj2 := (List.getElem?_eq_some_iff.mp hr9).1
        rw [List.length_append, List.length_singleton] at hj2
        have hj3 : j = ((nums.take i).map (ruleOf mode)).length := by omega
        rw [hj3, List.getElem?_append_right (Nat.le_refl _), Nat.sub_self] at hr9
        cases hr9
        refine ⟨Xr, by rw [hj3, ← hl1, List.getElem?_append_right (Nat.le_refl _), Nat.sub_self]; rfl, ?_⟩
        unfold ruleOf
        dsimp only
        refine hrule.mono fun q hq => ?_
        rcases List.mem_cons.mp hq with rfl | hq
        · exact List.mem_append_left _ (.head _)
        · exact List.mem_append_right _ (List.mem_append_left _ hq)
    have hvl : vals.length = i := by
      obtain ⟨_, _, _, this, _⟩ := hrules
      rw [List.length_map, List.length_take] at this; omega
    have htl : tups.length = i := by
      have := htups.1
      rw [List.length_take] at this; omega
    replace N12 : News g L h12 ((I, oI') :: (Rr, listOf vals.toArray n1) :: (Tr, listOf vals.reverse.toArray n2) :: (Rs, listOf tups.toArray n3) :: (lamLed (some (c, oc)) ++ (153, tabObj tab') :: (own' ++ rest))) := news_sub N12 fun q hq => by
      simp only [List.mem_append, List.mem_cons] at hq ⊢
      rcases hq with h | h | h | h | h | h | h | h
      · exact .inr (.inl h)
      · exact .inr (.inr (.inl h))
      · exact .inr (.inr (.inr (.inl h)))
      · exact .inr (.inr (.inr (.inr (.inl h))))
      · exact .inl (.inl h)
      · exact .inr (.inr (.inr (.inr (.inr (.inl h)))))
      · exact .inl (.inr h)
      · exact .inr (.inr (.inr (.inr (.inr (.inr h)))))
    have hsub' : ∀ q ∈ rest0, q ∈ own' ++ rest := fun q hq => List.mem_append_right _ (hsub q hq)
    have htups' : TupsIn (own' ++ rest) tups vals mode (nums.take i) := ⟨htups.1, fun j n9 h9 => let ⟨T9, t9, u9, v9, a1, a2, a3⟩ := htups.2 j n9 h9; ⟨T9, t9, u9, v9, a1, a2, List.mem_append_right _ a3⟩⟩
    clear hc12 hap12 hown' hrule hrules hoff hlo hsub hneI h153 h230 htups hk hsame htab
    generalize own' ++ rest = rest1 at *
    have c1 : (recX, instObj 203 recD) ∈ ((I, oI') :: (Rr, listOf vals.toArray n1) :: (Tr, listOf vals.reverse.toArray n2) :: (Rs, listOf tups.toArray n3) :: (lamLed (some (c, oc)) ++ (153, tabObj tab') :: rest1) : Led) := .tail _ (.tail _ (.tail _ (.tail _ (List.mem_append_right _ (.tail _ (hsub' _ b1))))))
    have c2 : (recD, dictOf (entEs w ua Rr e1 e2 e3 e4) 4) ∈ ((I, oI') :: (Rr, listOf vals.toArray n1) :: (Tr, listOf vals.reverse.toArray n2) :: (Rs, listOf tups.toArray n3) :: (lamLed (some (c, oc)) ++ (153, tabObj tab') :: rest1) : Led) := .tail _ (.tail _ (.tail _ (.tail _ (List.mem_append_right _ (.tail _ (hsub' _ b2))))))
    k_steps
    rename Fr _ _ _ _ => F9
    rename News _ _ _ _ => N9
    have hne230 : ∀ {a : Addr}, a ∈ ([I, Rr, Tr, Rs] : List Addr) → (230 : Addr) ≠ a := by
      intro a ha
      simp only [List.mem_cons, List.not_mem_nil, or_false] at ha
      rcases ha with rfl | rfl | rfl | rfl
      · exact fun e => i4 e.symm
      · exact fun e => r3 e.symm
      · exact fun e => t2 e.symm
      · exact fun e => s1 e.symm
    have hne153 : ∀ {a : Addr}, a ∈ ([I, Rr, Tr, Rs] : List Addr) → (153 : Addr) ≠ a := by
      intro a ha
      simp only [List.mem_cons, List.not_mem_nil, or_false] at ha
      rcases ha with rfl | rfl | rfl | rfl
      · exact fun e => i5 e.symm
      · exact fun e => r4 e.symm
      · exact fun e => t3 e.symm
      · exact fun e => s2 e.symm
    refine app_led (pre := [(I, oI')]) F9 N9 (fun q hq => .inr (by rw [List.mem_singleton.mp hq]; exact i1)) (std_ne [(Tr, listOf vals.reverse.toArray n2), (Rs, listOf tups.toArray n3)] (by simp) (fun q hq => by
      simp only [List.mem_cons, List.not_mem_nil, or_false] at hq
      rcases hq with rfl | rfl
      · exact fun e => r1 e.symm
      · exact fun e => r2 e.symm) (hne230 (by simp)) (hne153 (by simp)) hlo' hoff') (by simp only [List.size_toArray]; omega) ?_
    intro h13 F13 N13
    clear F9 N9
    have d1 : (turX, instObj 203 turD) ∈ ([(I, oI')] ++ (Rr, listOf (vals.toArray.push (Value.ref Xr)) (n1 + 1)) :: (Tr, listOf vals.reverse.toArray n2) :: (Rs, listOf tups.toArray n3) :: (lamLed (some (c, oc)) ++ (153, tabObj tab') :: rest1) : Led) := .tail _ (.tail _ (.tail _ (.tail _ (List.mem_append_right _ (.tail _ (hsub' _ b3))))))
    have d2 : (turD, dictOf (entEs w ub Tr f1 f2 f3 f4) 4) ∈ ([(I, oI')] ++ (Rr, listOf (vals.toArray.push (Value.ref Xr)) (n1 + 1)) :: (Tr, listOf vals.reverse.toArray n2) :: (Rs, listOf tups.toArray n3) :: (lamLed (some (c, oc)) ++ (153, tabObj tab') :: rest1) : Led) := .tail _ (.tail _ (.tail _ (.tail _ (List.mem_append_right _ (.tail _ (hsub' _ b4))))))
    k_steps
    rename Fr _ _ _ _ => F9
    rename News _ _ _ _ => N9
    have U9 : Upd Tr (listOf vals.reverse.toArray n2) (listOf (kl_ins vals.reverse 0 (Value.ref Xr)).toArray (n2 + 1)) ((I, oI') :: (Rr, listOf (vals.toArray.push (Value.ref Xr)) (n1 + 1)) :: (Tr, listOf vals.reverse.toArray n2) :: (Rs, listOf tups.toArray n3) :: (lamLed (some (c, oc)) ++ (153, tabObj tab') :: rest1))
        ((I, oI') :: (Rr, listOf (vals.toArray.push (Value.ref Xr)) (n1 + 1)) :: (Tr, listOf (kl_ins vals.reverse 0 (Value.ref Xr)).toArray (n2 + 1)) :: (Rs, listOf tups.toArray n3) :: (lamLed (some (c, oc)) ++ (153, tabObj tab') :: rest1)) :=
      .tail i2 (.tail r1 (.head (std_ne [(Rs, listOf tups.toArray n3)] (by simp) (fun q hq => by rw [List.mem_singleton.mp hq]; exact fun e => t1 e.symm) (hne230 (by simp)) (hne153 (by simp)) hlo' hoff')))
    refine kl_insert F9 N9 rfl rfl U9 (by simp only [List.length_reverse]; rw [sizeLine_eq]; omega) ?_
    intro h14 F14 N14
    clear F9 N9 d1 d2 c1 c2 U9
    have d3 : (Rs, listOf tups.toArray n3) ∈ ((I, oI') :: (Rr, listOf (vals.toArray.push (Value.ref Xr)) (n1 + 1)) :: (Tr, listOf (kl_ins vals.reverse 0 (Value.ref Xr)).toArray (n2 + 1)) :: (Rs, listOf tups.toArray n3) :: (lamLed (some (c, oc)) ++ (153, tabObj tab') :: rest1) : Led) := .tail _ (.tail _ (.tail _ (.head _)))
    k_steps
    rename Fr _ _ _ _ => F9
    rename News _ _ _ _ => N9
    rename _ ∧ _ ∧ _ ∧ _ ∧ AllLt _ _ => l1
    rename_i T9 _ _
    obtain ⟨lI, lR, lT, lS, lA⟩ := l1
    replace lA := allLt_mem lA
    refine app_led (pre := [_, _, _, _]) F9 N9 ?_ (std_ne [] (by simp) (fun q hq => absurd hq List.not_mem_nil) (hne230 (by simp)) (hne153 (by simp)) hlo' hoff') (by simp only [List.size_toArray]; omega) ?_
    · intro q hq
      simp only [List.mem_cons, List.not_mem_nil, or_false] at hq
      rcases hq with rfl | rfl | rfl | rfl
      · exact .inl (by simp)
      · exact .inr i3
      · exact .inr r2
      · exact .inr t1
    intro h15 F15 N15
    clear F9 N9 d3
    k_steps
    rename Fr _ _ _ _ => F9
    rename News _ _ _ _ => N9
    exact AfterG.next hgs' (J1.step hdk hil' hI' hrules' htups' hvl htl hx hk' htab' hoff' hlo' hsub' rfl rfl rfl rfl ⟨lI, lR, lT, lS, lA⟩ rfl F9 N9)
  · rintro h gs dr tk hgs ⟨i, oI, mm, vals, tups, n1, n2, n3, k, tab, rest, hdr, hil, hI, hrules, htups, hk, htab, hoff, hlo, hsub, g1, g2, g3, g4, F, N⟩
    have hx : nums[i]? = none := by rw [← List.head?_drop, hdr]; rfl
    have hv : nvals[i]? = none := by
      have := hints.length
      rw [List.getElem?_eq_none_iff] at hx ⊢; omega
    have hfull : nums.take i = nums := List.take_of_length_le (by rw [List.getElem?_eq_none_iff] at hx; exact hx)
    rw [hfull] at hrules htups
    have hnd7 := hnd6
    simp only [List.nodup_cons, List.mem_cons, List.not_mem_nil, not_or, or_false, not_false_eq_true, List.nodup_nil, and_true] at hnd7
    obtain ⟨⟨i1, i2, i3, i4, i5⟩, _⟩ := hnd7
    have m5 : (NA, listOf nvals.toArray nn) ∈ rest := hsub _ b5
    refine next_lst_end rfl F N (std_ne [(Rr, listOf vals.toArray n1), (Tr, listOf vals.reverse.toArray n2), (Rs, listOf tups.toArray n3)] (.head _) (fun q hq => by
      simp only [List.mem_cons, List.not_mem_nil, or_false] at hq
      rcases hq with rfl | rfl | rfl
      · exact fun e => i1 e.symm
      · exact fun e => i2 e.symm
      · exact fun e => i3 e.symm) (fun e => i4 e.symm) (fun e => i5 e.symm) hlo hoff) hI (isList_of N (.tail _ (.tail _ (.tail _ (.tail _ (List.mem_append_right _ (.tail _ m5))))))) (by simpa using hv) ?_
    intro h4 F4 N4
    refine ⟨rfl, ?_⟩
    clear F N
    k_steps
    exact hQ _ gs dr tk hgs ⟨mm, vals, tups, n1, n2, n3, k, tab, rest, hrules, htups, hk, htab, fun a ha => hoff a (.tail _ ha), fun c oc e => ⟨(hlo c oc e).1, fun a ha => (hlo c oc e).2 a (.tail _ ha)⟩, hsub, g1, g2, g3, g4, F4, N4⟩
end
end Mine
end
section
open PySem PySem.W PyProof.Rows PySem.Calls PySem.Spec
set_option maxRecDepth 100000
set_option maxHeartbeats 2000000
namespace Mine
/-- what is told, in its order -/
noncomputable def toldL (asked mode : Int) : List Int → List (Int × Bool)
  | [] => []
  | n :: r => if told asked (otherOf mode n) n ≠ 0 then (told asked (otherOf mode n) n, n.fmod 2 == 1) :: toldL asked mode r else toldL asked mode r
noncomputable def ToldIn (rest : Led) (tv : List Value) (l : List (Int × Bool)) : Prop := tv.length = l.length ∧ ∀ (i : Nat) (x : Int × Bool), l[i]? = some x → ∃ (T : Addr) (t : Tok), tv[i]? = some (.ref T) ∧ (T, tupO [.int x.1 t, .bool x.2]) ∈ rest
theorem ToldIn.mono {r r' : Led} {tv : List Value} {l : List (Int × Bool)} (h : ToldIn r tv l) (hs : ∀ q ∈ r, q ∈ r') : ToldIn r' tv l := ⟨h.1, fun i x e => let ⟨T, t, a, b⟩ := h.2 i x e; ⟨T, t, a, hs _ b⟩⟩
theorem ToldIn.snoc {r : Led} {tv : List Value} {l : List (Int × Bool)} {T : Addr} {x : Int × Bool} {t : Tok} (h : ToldIn r tv l) : ToldIn ((T, tupO [.int x.1 t, .bool x.2]) :: r) (tv ++ [.ref T]) (l ++ [x]) := by
  refine ⟨by simp [h.1], fun j y e => ?_⟩
  by_cases hj : j < l.length
  · rw [List.getElem?_append_left hj] at e
    obtain ⟨T', t', a, b⟩ := h.2 j y e
    exact ⟨T', t', by rw [List.getElem?_append_left (by rw [h.1]; exact hj)]; exact a, .tail _ b⟩
  · have := (List.getElem?_eq_some_iff.mp e).1
    rw [List.length_append, List.length_singleton] at this
    have hj2 : j = l.length := by omega
    rw [hj2, List.getElem?_append_right (Nat.le_refl _), Nat.sub_self] at e
    cases e
    exact ⟨T, t, by rw [hj2, ← h.1, List.getElem?_append_right (Nat.le_refl _), Nat.sub_self]; rfl, .head _⟩
noncomputable def J2 (g : Heap) (L TD Rs Rs9 I : Addr) (asked mode : Int) (nums : List Int) (keep : List (Str × Value)) (rest0 : Led) (r : List Int) (h : Heap) : Prop :=
  ∃ (i : Nat) (oI : Obj) (mm : Str → Option Value) (tv : List Value) (nn : Nat) (rest new : Led) (acc : List (Int × Bool)), nums.drop i = r ∧ i + r.length = nums.length ∧ LstIt Rs i oI ∧ acc ++ toldL asked mode r = toldL asked mode nums ∧ acc.length ≤ i ∧ ToldIn rest tv acc ∧ Off [TD, I] rest ∧ (rest = new ++ rest0 ∧ ∀ r ∈ new, ∀ q ∈ rest0, q.1 ≠ r.1) ∧
    (∀ q ∈ keep, mm q.1 = some q.2) ∧ mm "told" = some (.ref TD) ∧ Fr g L h mm ∧ News g L h ((I, oI) :: (TD, listOf tv.toArray nn) :: rest)
section
variable {w : World} {p : Program} {loose : List Str} {mean : ExcName → Option Value} {mg mb : Str → Option Value}
theorem lines_LC1 : True := by
  k_with_none
  k_with "my mem" => assumption
  k_with "my all" => assumption
  k_with "my steps" => repeat' ((fail_if_success (with_reducible show wpAny _ _ (exec (Stmt.For _ _ _ _ _) _) _ _ _)); (fail_if_success (with_reducible show wpAny _ _ (call (Value.ref _) _) _ _ _)); (fail_if_success (with_reducible show wpAny _ _ (call (Value.builtin "list.append") _) _ _ _)); first | walk1 | (dsimp only; walk1) | (leave1; walk_say "STEP leave1"; try dsimp only) | fail "no step")
  k_with "my ite" => first | with_reducible refine ite_tt ?_ | with_reducible refine ite_ff ?_ | (refine ite_neg (by simp) ?_)
  k_with "my exec If" => refine wpAny_If ?_
  k_with "my eval Name" => first | (k_dflt (refine' nameX_L ?F ?v ?_ ?a ?b; (case F => k_asm); (case a => rfl); (case b => rfl); (case v => rfl); k_whole)) | (k_dflt (refine nameX_C (by k_asm) (by with_reducible assumption) (by with_reducible assumption) (by with_reducible assumption) ?_))
  k_with "my callWith ref" => ((with_reducible show wpAny _ _ (callWith _ (Value.ref _) [] _ []) _ _ _); (fail_if_success (with_reducible show wpAny _ _ (callWith _ (Value.ref 249) _ _ _) _ _ _)); k_dflt (refine callWith_Fn ?_))
  k_with "my And" => ((with_reducible show FnAt _ _ ∧ _); refine And.intro (FnAt.of (by k_asm) (by assumption) (by assumption)) ?_)
  k_with "my getMethod ref" => ((with_reducible show wpAny _ _ (getMethod _ (Str.ofString "applies_to") _) _ _ _); k_dflt (refine' method_shadow ?k1 ?k2 ?k3 ?k4 ?k5 ?k6 ?k7 ?k8 ?k9 ?k10 ?k11 ?_; (case k1 => k_asm); (case k2 => k_asm); (case k3 => k_inst); (case k4 => k_is); (case k5 => k_is); (case k6 => k_is); (case k7 => k_is); (case k8 => k_is); (case k9 => k_is); (case k10 => k_get); (case k11 => k_handed); k_whole))
  k_with "my room" => ((try simp only [depth_under_make, depth_under_kw, depth_in1, depth_deeper, depth_caller]); (try dsimp only [ktrTop]); omega)
  trivial
theorem keep4 {q : Str × Value} {o : Option Value} {v1 v2 v3 v4 : Value} (hq : q.1 ≠ "written" ∧ q.1 ≠ "figures" ∧ q.1 ≠ "line" ∧ q.1 ≠ "narrow") (h : o = some q.2) : (if q.1 = "narrow" then some v1 else if q.1 = "line" then some v2 else if q.1 = "figures" then some v3 else if q.1 = "written" then some v4 else o) = some q.2 := by
  rw [if_neg hq.2.2.2, if_neg hq.2.2.1, if_neg hq.2.1, if_neg hq.1, h]
theorem keep_told {q : Str × Value} {mm : Str → Option Value} {v : Value} (h : mm q.1 = some q.2) (g : mm "told" = some v) : (if q.1 = "told" then some v else mm q.1) = some q.2 := by
  split
  · rename_i e
    rw [← h, e, g]
  · exact h
theorem J2.snoc {g : Heap} {L TD Rs I : Addr} {asked mode : Int} {nums : List Int} {keep : List (Str × Value)} {rest0 : Led} {r : List Int} {h : Heap} {i : Nat} {oI : Obj} {mm : Str → Option Value} {tv : List Value} {nn : Nat} {rest : Led} {acc : List (Int × Bool)} {T : Addr} {x : Int × Bool} {t : Tok}
    (hdk : nums.drop (i + 1) = r) (hil : i + 1 + r.length = nums.length) (hI : LstIt Rs (i + 1) oI) (hacc : (acc ++ [x]) ++ toldL asked mode r = toldL asked mode nums) (hal : acc.length ≤ i) (htold : ToldIn rest tv acc) (hoff : Off [TD, I] rest) {new : Led} (hnew : rest = new ++ rest0 ∧ ∀ r ∈ new, ∀ q ∈ rest0, q.1 ≠ r.1)
    (hlt : I < T ∧ TD < T ∧ ∀ q ∈ rest, q.1 < T) (hkp : ∀ q ∈ keep, mm q.1 = some q.2) (g1 : mm "told" = some (.ref TD)) (F : Fr g L h mm) (N : News g L h ([(T, tupO [.int x.1 t, .bool x.2]), (I, oI)] ++ (TD, listOf (tv.toArray.push (.ref T)) nn) :: rest)) : J2 g L TD Rs Rs I asked mode nums keep rest0 r h := by
  refine ⟨i + 1, oI, mm, tv ++ [.ref T], nn, (T, tupO [.int x.1 t, .bool x.2]) :: rest, (T, tupO [.int x.1 t, .bool x.2]) :: new, acc ++ [x], hdk, hil, hI, hacc, by simp; omega, htold.snoc, ?_, ⟨by rw [hnew.1]; rfl, fun r hr q hq => ?_⟩, hkp, g1, F, ?_⟩
  rotate_left
  · rcases List.mem_cons.mp hr with rfl | hr
    · exact Nat.ne_of_lt (hlt.2.2 q (by rw [hnew.1]; exact List.mem_append_right _ hq))
    · exact hnew.2 r hr q hq
  rotate_left
  · intro a ha q hq
    rcases List.mem_cons.mp hq with rfl | hq
    · simp only [List.mem_cons, List.not_mem_nil, or_false] at ha
      rcases ha with rfl | rfl
      · exact Nat.ne_of_gt hlt.2.1
      · exact Nat.ne_of_gt hlt.1
    · exact hoff a ha q hq
  · have e3 : (tv.toArray.push (Value.ref T)) = (tv ++ [Value.ref T]).toArray := by simp
    rw [e3] at N
    refine news_sub N fun q hq => ?_
    simp only [List.mem_append, List.mem_cons, List.not_mem_nil, or_false] at hq ⊢
    rcases hq with h | h | h | h
    · exact .inl (.inr h)
    · exact .inr (.inl h)
    · exact .inl (.inl h)
    · exact .inr (.inr h)
theorem law_in1 {scope : Scope} {ss : List Stmt} (hlaw : LawAt (hd0.heap_1 w.params) scope ss) {s0 s1 s2 s3 b0 st : Stmt} {tgt iter : Expr} {orelse bmore more : List Stmt} {pos : Pos} (hss : ss = s0 :: s1 :: s2 :: s3 :: .For tgt iter (b0 :: st :: bmore) orelse pos :: more)
    {dp un : Nat} {gd : Option (List Code)} {L a : Addr} {ccd : Value} {cl : List (Str × Addr)} {outer : List Env} {A₀ : Around} {base g : Heap} {m : Str → Option Value} {s : Shared} {Q : Flow → Shared → Prop}
    {Rs TD cR cA : Addr} {oR oA : Obj} {asked mode : Int} {ta tr : Tok} {nums : List Int} {vals tups : List Value} {n3 : Nat} {rest0 : Led} {keep : List (Str × Value)}
    (B : Below A₀ base outer g) (F : Fr g L s.heap m) (X : (hd0.heap_1 w.params).In g) (T : Top p loose mean mg mb g) (hdp : dp + 40 < recursionLimit) (hu : un + 10 * 40 < cLine) (hgens : AllBare s.gens)
    (N : News g L s.heap ((TD, listOf #[] 0) :: rest0)) (hoff : ∀ q ∈ rest0, q.1 ≠ TD)
    (hcR : cl.lookup (Str.ofString "row") = some cR) (hcA : cl.lookup (Str.ofString "asked") = some cA) (hoR : (cR, oR) ∈ rest0) (hoA : (cA, oA) ∈ rest0) (hdR : oR.data = .cell (some (.str (S (fm asked)) tr))) (hdA : oA.data = .cell (some (.int asked ta)))
    (hRs : (Rs, listOf tups.toArray n3) ∈ rest0) (htups : TupsIn rest0 tups vals mode nums) (hrules : RulesIn w p loose mean mg mb rest0 vals (nums.map (ruleOf mode)))
    (hreach : ∀ n ∈ nums, reach (ruleOf mode n).1 (fm asked) = told asked (otherOf mode n) n) (hnums : ∀ n ∈ nums, 0 ≤ n ∧ n < 10000000000) (hlen : nums.length ≤ 100) (hm0 : 0 ≤ mode) (hm1 : mode < 65536) (ha0 : 0 ≤ asked) (ha1 : asked < 65536)
    (hv1 : m "rules" = some (.ref Rs)) (hv2 : m "told" = some (.ref TD)) (hkeep : ∀ q ∈ keep, m q.1 = some q.2) (hkn : ∀ q ∈ keep, q.1 ≠ "written" ∧ q.1 ≠ "figures" ∧ q.1 ≠ "line" ∧ q.1 ≠ "narrow")
    (hQ : ∀ h gs dr tk mm tv nn new, AllBare gs → ToldIn (new ++ rest0) tv (toldL asked mode nums) → (∀ q ∈ new ++ rest0, q.1 ≠ TD) → (∀ r ∈ new, ∀ q ∈ rest0, q.1 ≠ r.1) → (∀ q ∈ keep, mm q.1 = some q.2) → mm "told" = some (.ref TD) → Fr g L h mm → News g L h ((TD, listOf tv.toArray nn) :: (new ++ rest0)) → Q .next { heap := h, gens := gs, drawn := dr, toks := tk, os := s.os }) :
    wpAny (model PySem.Challenge.rw_in0284_01.row.prog w) (ktrTop dp un gd "law" scope L a ccd cl outer) (exec st (envX "law" scope L a ccd cl)) Q NoE s := by
  revert hlaw X hss
  k_fill
  intro hlaw hss X
  revert hss
  refine law_lit (P := fun scope ss => ss = s0 :: s1 :: s2 :: s3 :: .For tgt iter (b0 :: st :: bmore) orelse pos :: more → wpAny (model PySem.Challenge.rw_in0284_01.row.prog w) (ktrTop dp un gd "law" scope L a ccd cl outer) (exec st (envX "law" scope L a ccd cl)) Q NoE s) hlaw (by k_is) ?_
  intro hss
  cases hss
  refine for_do ?_
  replace F := fr_puts F [("rules", .ref Rs)] (List.forall_mem_cons.mpr ⟨hv1, List.forall_mem_nil _⟩)
  dsimp only [kstB] at F
  k_steps
  have hRs' : (Rs, listOf tups.toArray n3) ∈ ((TD, listOf #[] 0) :: rest0 : Led) := .tail _ hRs
  refine iter_lst F N (isList_of N hRs') ?_
  intro I oI h3 hI F3 N3 hne
  have hTDI : TD ≠ I := hne _ (.head _)
  refine for_indG (J := J2 g L TD Rs Rs I asked mode nums keep rest0) nums hgens ⟨0, oI, _, [], 0, rest0, [], [], rfl, Nat.zero_add _, hI, rfl, Nat.le_refl _, ⟨rfl, fun i x e => by simp at e⟩, ?_, ⟨rfl, fun r hr => absurd hr List.not_mem_nil⟩, ?_, ?_, F3, N3⟩ ?_ ?_
  · intro b hb q hq
    simp only [List.mem_cons, List.not_mem_nil, or_false] at hb
    rcases hb with rfl | rfl
    · exact hoff q hq
    · exact hne q (.tail _ hq)
  · intro q hq
    split
    · rename_i e
      rw [← hkeep q hq, e, hv1]
    · exact hkeep q hq
  · exact hv2
  · clear F N F3 N3 hI hv1 hv2 hkeep hRs'
    rintro n r h gs dr tk hgs ⟨i, oI, mm, tv, nn, rest, new, acc, hdr, hil, hI, hacc, hal, htold, hoff2, hnew, hkp, g1, F, N⟩
    have hsub : ∀ q ∈ rest0, q ∈ rest := fun q hq => by rw [hnew.1]; exact List.mem_append_right _ hq
    have hx : nums[i]? = some n := by rw [← List.head?_drop, hdr]; rfl
    have hdk : nums.drop (i + 1) = r := by
      have := congrArg List.tail hdr
      rw [List.tail_drop] at this
      exact this
    have hil' : i + 1 + r.length = nums.length := by simp only [List.length_cons] at hil; omega
    have hmem := List.mem_of_getElem? hx
    have hn := hnums n hmem
    have ob := other_bd (n := n) hm0 hm1
    obtain ⟨T9, t9, u9, v9, ht1, ht2, ht3⟩ := htups.2 i n hx
    obtain ⟨Xr, hv, hrule⟩ := hrules.2 i (ruleOf mode n) (by rw [List.getElem?_map, hx]; rfl)
    rw [hv] at ht2
    cases ht2
    obtain ⟨d9, f, a9, b9, oF, q1, q2, q3, q4, q5, q6, k1, k2, k3, kf, kcall⟩ := hrule
    have hneI : ∀ q ∈ ((TD, listOf tv.toArray nn) :: rest : Led), q.1 ≠ I := by
      intro q hq
      rcases List.mem_cons.mp hq with rfl | hq
      · exact hTDI
      · exact hoff2 I (by simp) q hq
    refine next_lst F N hneI hI (isList_of N (.tail _ (.tail _ (hsub _ hRs)))) (v := .ref T9) (by simpa using ht1) ?_
    intro h' oI' hI' F4 N4
    refine letGo_listiter ⟨oI', (N4 _ (.head _)).1, hI'⟩ ?_
    have hrow : IsTup h' T9 #[.int (otherOf mode n) t9, .int n u9, .ref Xr] := ⟨_, (N4 _ (.tail _ (.tail _ (hsub _ ht3)))).1, rfl, _, rfl⟩
    have hkc := kcall (fm asked) tr (fm_length _)
    rw [hreach n hmem] at hkc
    have k1' : (Xr, instObj 203 d9) ∈ ((I, oI') :: (TD, listOf tv.toArray nn) :: rest : Led) := .tail _ (.tail _ (hsub _ k1))
    have k2' := List.mem_cons_of_mem (I, oI') (List.mem_cons_of_mem (TD, listOf tv.toArray nn) (hsub _ k2))
    have k3' : (f, oF) ∈ ((I, oI') :: (TD, listOf tv.toArray nn) :: rest : Led) := .tail _ (.tail _ (hsub _ k3))
    have k4' : (cR, oR) ∈ ((I, oI') :: (TD, listOf tv.toArray nn) :: rest : Led) := .tail _ (.tail _ (hsub _ hoR))
    have k5' : (cA, oA) ∈ ((I, oI') :: (TD, listOf tv.toArray nn) :: rest : Led) := .tail _ (.tail _ (hsub _ hoA))
    replace F4 := fr_puts F4 [("told", .ref TD)] (List.forall_mem_cons.mpr ⟨g1, List.forall_mem_nil _⟩)
    dsimp only [kstB] at F4
    clear F N k1 k2 k3 hoR hoA
    k_steps
    rename Fr _ _ _ _ => F9
    rename News _ _ _ _ => N9
    refine does_val (mk := fun u => .int _ u) (d_told asked (otherOf mode n) n _ _ _ ha0 ha1 ob.1 ob.2 hn.1 hn.2) B F9 X N9 trivial T rfl (by omega) (by omega) ?_
    intro u10 h10 tk10 F10 N10
    clear F9 N9
    k_steps
    rename Fr _ _ _ _ => F9
    rename News _ _ _ _ => N9
    refine does_val (mk := fun u => .int _ u) hkc B F9 X N9 (fun q hq => .tail _ (.tail _ (hsub q hq))) T rfl (by omega) (by omega) ?_
    intro u11 h11 tk11 F11 N11
    clear F9 N9
    generalize htd : told asked (otherOf mode n) n = td
    k_steps
    · rename td ≠ _ => hbad
      exact absurd htd.symm hbad
    · rename told asked (otherOf mode n) n ≠ 0 => hne0
      rename _ ∧ _ ∧ AllLt _ _ => l1
      rename Fr _ _ _ _ => F9
      rename News _ _ _ _ => N9
      obtain ⟨lI, lT, lA⟩ := l1
      replace lA := allLt_mem lA
      refine app_led (pre := [_, _]) F9 N9 ?_ (hoff2 TD (.head _)) (by simp only [List.size_toArray]; have := htold.1; omega) ?_
      · intro q hq
        simp only [List.mem_cons, List.not_mem_nil, or_false] at hq
        rcases hq with rfl | rfl
        · exact .inl (by simp)
        · exact .inr (fun e => hTDI e.symm)
      intro h15 F15 N15
      clear F9 N9
      k_steps
      rename Fr _ _ _ _ => F9
      rename News _ _ _ _ => N9
      exact AfterG.next hgs (J2.snoc (x := (told asked (otherOf mode n) n, n.fmod 2 == 1)) hdk hil' hI' (by rw [← hacc]; show _ = acc ++ (if _ then _ else _); rw [if_pos hne0]; simp) hal htold hoff2 hnew ⟨lI, lT, lA⟩ (fun q hq => keep4 (hkn q hq) (keep_told (hkp q hq) g1)) rfl F9 N9)
    · rename told asked (otherOf mode n) n = 0 => he0
      rename Fr _ _ _ _ => F9
      rename News _ _ _ _ => N9
      exact AfterG.next hgs ⟨i + 1, oI', _, tv, nn, rest, new, acc, hdk, hil', hI', by rw [← hacc]; show _ = acc ++ (if _ then _ else _); rw [if_neg (fun e => e he0)], by omega, htold, hoff2, hnew, fun q hq => keep4 (hkn q hq) (keep_told (hkp q hq) g1), rfl, F9, N9⟩
  · rintro h gs dr tk hgs ⟨i, oI, mm, tv, nn, rest, new, acc, hdr, hil, hI, hacc, hal, htold, hoff2, hnew, hkp, g1, F, N⟩
    have hsub : ∀ q ∈ rest0, q ∈ rest := fun q hq => by rw [hnew.1]; exact List.mem_append_right _ hq
    have hx : nums[i]? = none := by rw [← List.head?_drop, hdr]; rfl
    have hv : tups[i]? = none := by
      have := htups.1
      rw [List.getElem?_eq_none_iff] at hx ⊢; omega
    refine next_lst_end rfl F N (fun q hq => ?_) hI (isList_of N (.tail _ (.tail _ (hsub _ hRs)))) (by simpa using hv) ?_
    · rcases List.mem_cons.mp hq with rfl | hq
      · exact hTDI
      · exact hoff2 I (by simp) q hq
    intro h4 F4 N4
    refine ⟨rfl, ?_⟩
    clear F N
    k_steps
    obtain ⟨rfl, hap⟩ := hnew
    refine hQ _ gs dr tk mm tv nn new hgs ?_ (hoff2 TD (.head _)) hap hkp g1 F4 N4
    rw [← hacc]; simpa [toldL] using htold
end
end Mine
end
section
open PySem PySem.W PyProof.Rows PySem.Calls PySem.Spec
set_option maxRecDepth 100000
set_option maxHeartbeats 1000000
namespace Mine
noncomputable abbrev pairO (x : Int × Bool) (t : Tok) : Obj := tupO [.int x.1 t, .bool x.2]
/-- one pair ahead of another -/
noncomputable def gtP (x y : Int × Bool) : Bool := if x.1 == y.1 then (if x.2 == y.2 then false else decide (b2i x.2 > b2i y.2)) else decide (x.1 > y.1)
section
variable {prog : Program} {w : World} {A : Around} {E : Value → Shared → Prop} {s : Shared}
theorem eqBool_bool {b d : Bool} {Q : Bool → Shared → Prop} (h : Q (b == d) s) : wpAny (model prog w) A (eqBool (.bool b) (.bool d)) Q E s := by
  unfold eqBool
  show wpAny _ _ (if (Value.bool b == Value.bool d) = true then _ else _) Q E s
  by_cases hab : (Value.bool b == Value.bool d) = true
  · rw [if_pos hab]
    have e : b = d := by have := eq_of_beq hab; injection this
    subst e
    exact wpAny_bind (wpAny_rule (wpAny_pure (by simpa using h)))
  · rw [if_neg hab]
    exact wpAny_bind (show wpAny _ _ (compareOp .Eq (.bool b) (.bool d)) _ _ s from PyProof.Rows.eq_bool (wpAny_truthy_bool h))
theorem gt_pair {T1 T2 : Addr} {x y : Int × Bool} {t u : Tok} {Q : Value → Shared → Prop} (h1 : s.heap.get? T1 = some (pairO x t)) (h2 : s.heap.get? T2 = some (pairO y u)) (hu : A.units < cLine) (h : Q (.bool (gtP x y)) s) :
    wpAny (model prog w) A (richCompare .Gt (.ref T1) (.ref T2)) Q E s := by
  have hT1 : s.TypeIs (.ref T1) "tuple" := ⟨_, h1, rfl⟩
  have hT2 : s.TypeIs (.ref T2) "tuple" := ⟨_, h2, rfl⟩
  refine wpAny_richCompare_same_room (op := .Gt) hT1 hT2 PySem.F.slot_tuple_gt (wpAny_call_entry PySem.F.slot_tuple_gt hT1 PySem.F.entry_tuple_gt ?_ (PySem.F.args_tuple_gt_2 _ _)) hu
  show wpAny _ _ (isInstance (.ref T2) (.type "tuple") >>= _) _ _ s
  refine wpAny_bind (wpAny_isInstance hT2 isSubtype_tuple_tuple ?_)
  simp only [Bool.not_true, Bool.false_eq_true, if_false]
  refine wpAny_bind (wpAny_tupleItemsOf h1 rfl ?_)
  refine wpAny_bind (wpAny_tupleItemsOf h2 rfl ?_)
  refine wpAny_bind ?_
  show wpAny _ _ (forIn [(Value.int x.1 t, Value.int y.1 u), (Value.bool x.2, Value.bool y.2)] _ _) _ _ s
  rw [List.forIn_cons]
  refine wpAny_bind (wpAny_bind (wpAny_eqBool_int ?_))
  cases e1 : x.1 == y.1 with
  | false =>
    simp only [Bool.not_false, if_true]
    refine wpAny_bind (wpAny_rule (wpAny_bind ?_))
    refine wpAny_mono (show wpAny (model prog w) A.in1 (compareOp .Gt (.int x.1 t) (.int y.1 u)) _ _ s from PyProof.Rows.gt_int (Q := fun v s' => v = .bool (gtP x y) ∧ s' = s) ⟨by unfold gtP; rw [e1]; rfl, rfl⟩) ?_ (fun _ _ h => h)
    rintro v s' ⟨rfl, rfl⟩
    exact wpAny_bind (wpAny_pure (wpAny_pure (wpAny_pure (wpAny_pure ⟨_, rfl, (fun e => by cases e), h⟩))))
  | true =>
    simp only [Bool.not_true, Bool.false_eq_true, if_false]
    refine wpAny_pure ?_
    dsimp only
    rw [List.forIn_cons]
    refine wpAny_bind (wpAny_bind (eqBool_bool ?_))
    cases e2 : x.2 == y.2 with
    | false =>
      simp only [Bool.not_false, if_true]
      refine wpAny_bind (wpAny_rule (wpAny_bind ?_))
      refine wpAny_mono (show wpAny (model prog w) A.in1 (compareOp .Gt (.bool x.2) (.bool y.2)) _ _ s from PyProof.Rows.gt_bool (Q := fun v s' => v = .bool (gtP x y) ∧ s' = s) ⟨by unfold gtP; rw [e1, e2]; rfl, rfl⟩) ?_ (fun _ _ h => h)
      rintro v s' ⟨rfl, rfl⟩
      exact wpAny_bind (wpAny_pure (wpAny_pure (wpAny_pure (wpAny_pure ⟨_, rfl, (fun e => by cases e), h⟩))))
    | true =>
      simp only [Bool.not_true, Bool.false_eq_true, if_false]
      refine wpAny_pure ?_
      dsimp only
      rw [List.forIn_nil]
      refine wpAny_pure (wpAny_pure ⟨_, rfl, (fun e => by cases e), ?_⟩)
      have e3 : gtP x y = false := by unfold gtP; rw [e1, e2]; rfl
      rw [e3] at h
      exact h
end
/-- the greatest so far -/
noncomputable def bestOf (l : List (Int × Bool)) : Nat → Int × Bool
  | 0 => l.getD 0 (0, false)
  | k + 1 => if gtP (l.getD (k + 1) (0, false)) (bestOf l k) then l.getD (k + 1) (0, false) else bestOf l k
section
variable {prog : Program} {w : World} {A : Around} {E : Value → Shared → Prop} {s : Shared} {h₀ : Heap} {L D I S : Addr} {m : Str → Option Value} {news : Led} {l : List (Int × Bool)} {tv : List Value} {n : Nat} {R : Result → Shared → Prop} {Q : Value → Shared → Prop}
noncomputable def ToldAt (news : Led) (tv : List Value) (l : List (Int × Bool)) : Prop := tv.length = l.length ∧ ∀ (i : Nat) (x : Int × Bool), l[i]? = some x → ∃ (T : Addr) (t : Tok), tv[i]? = some (.ref T) ∧ (T, pairO x t) ∈ news
theorem max_loop (hh : A.handled = none) (hu : A.units + 10 < cLine) (hD : (D, listOf tv.toArray n) ∈ news) (ht : ToldAt news tv l) (hnS : ∀ q ∈ news, q.1 ≠ S) (hnI : ∀ q ∈ news, q.1 ≠ I) (hSI : S ≠ I)
    (hR : ∀ T t h tk, (T, pairO (bestOf l (l.length - 1)) t) ∈ news → Fr h₀ L h m → News h₀ L h news → R (.ok (.ret (.ref T))) { s with heap := h, toks := tk }) :
    ∀ (r j : Nat) (h : Heap) (tk : Nat) (T : Addr) (t : Tok) (c : Nat) (oI : Obj), l.length - (j + 1) = r → j + 1 ≤ l.length → (T, pairO (bestOf l j) t) ∈ news → Fr h₀ L h m → News h₀ L h ((I, oI) :: (S, listOf #[.ref T, .ref T] c) :: news) → LstIt D (j + 1) oI →
      codeAny (model prog w) A (.builtin "max.loop" ⟨[.ref I, .none, .ref S], []⟩) R { s with heap := h, toks := tk } := by
  have hname : (toString "max" ++ toString ".loop" : String) = "max.loop" := by decide
  have hu2 : A.in1.units < cLine := by
    have e : A.in1.units ≤ A.units + 10 := by first | exact Nat.le_add_right _ _ | (show A.units + 1 ≤ _; omega) | (simp [Around.in1]; done)
    omega
  intro r
  induction r with
  | zero =>
    intro j h tk T t c oI hr hj hT F N hI
    refine codeAny_builtin PySem.F.entry_max_loop ?_
    rw [Around.under_plainId PySem.F.plain_max_loop _]
    show wpAny _ A.in1 (seqItems? (.ref S) >>= _) _ _ _
    refine wpAny_bind (wpAny_seqItems (N _ (.tail _ (.head _))).1 rfl ?_)
    show wpAny _ A.in1 (tryCatch (pyNext (.ref I)) _ >>= _) _ _ _
    have hneI : ∀ q ∈ ((S, listOf #[Value.ref T, Value.ref T] c) :: news : Led), q.1 ≠ I := fun q hq => by
      rcases List.mem_cons.mp hq with rfl | hq
      · exact hSI
      · exact hnI q hq
    have hjl : j + 1 = l.length := by omega
    refine wpAny_bind (wpAny_tryCatch (next_lst_end (s := { s with heap := h, toks := tk }) hh F N hneI hI (isList_of N (.tail _ (.tail _ hD))) (by rw [List.getElem?_toArray, List.getElem?_eq_none_iff, ht.1]; omega) ?_))
    intro h4 F4 N4
    show wpAny _ A.in1 (updateSeq S (fun _ => #[]) >>= _) _ _ _
    refine wpAny_bind (wpAny_updateSeq (N4 _ (.head _)).1 rfl (wpAny_bind (wpAny_letGo (wpAny_pure ?_))))
    have sb := Heap.SameBut.update h4 S (Obj.mapSeq fun _ => (#[] : Array Value))
    have zS := N4 _ (.head _)
    have hjj : j = l.length - 1 := by omega
    subst hjj
    exact hR T t _ _ hT (ksk_fr F4 sb zS.2.1 zS.2.2) (ksk_news (fun q hq => N4 q (.tail _ hq)) sb hnS)
  | succ r ih =>
    intro j h tk T t c oI hr hj hT F N hI
    have hjl : j + 1 < l.length := by omega
    refine codeAny_builtin PySem.F.entry_max_loop ?_
    rw [Around.under_plainId PySem.F.plain_max_loop _]
    show wpAny _ A.in1 (seqItems? (.ref S) >>= _) _ _ _
    refine wpAny_bind (wpAny_seqItems (N _ (.tail _ (.head _))).1 rfl ?_)
    show wpAny _ A.in1 (tryCatch (pyNext (.ref I)) _ >>= _) _ _ _
    have hneI : ∀ q ∈ ((S, listOf #[Value.ref T, Value.ref T] c) :: news : Led), q.1 ≠ I := fun q hq => by
      rcases List.mem_cons.mp hq with rfl | hq
      · exact hSI
      · exact hnI q hq
    obtain ⟨T2, t2, hv, hT2⟩ := ht.2 (j + 1) l[j + 1] (List.getElem?_eq_getElem hjl)
    have hgd : l.getD (j + 1) (0, false) = l[j + 1] := by simp [hjl]
    rw [← hgd] at hT2
    refine wpAny_bind (wpAny_tryCatch (next_lst (s := { s with heap := h, toks := tk }) F N hneI hI (isList_of N (.tail _ (.tail _ hD))) (v := .ref T2) (by simpa using hv) ?_))
    intro h4 oI' hI' F4 N4
    show wpAny _ A.in1 (tryCatch (holding [.ref T2, .ref T2] (richCompare .Gt (.ref T2) (.ref T) >>= _)) _ >>= _) _ _ _
    refine wpAny_bind (wpAny_tryCatch (wpAny_holding (wpAny_bind (gt_pair (s := { s with heap := h4, toks := tk }) (N4 _ (.tail _ (.tail _ hT2))).1 (N4 _ (.tail _ (.tail _ hT))).1 hu2 ?_))))
    refine wpAny_bind (wpAny_holding (wpAny_truthy_bool ?_))
    refine wpAny_bind (wpAny_letGo (wpAny_pure ?_))
    have zS := N4 (S, _) (.tail _ (.head _))
    cases hb : gtP (l.getD (j + 1) (0, false)) (bestOf l j) with
    | true =>
      simp only [if_true]
      have sb := Heap.SameBut.update h4 S (Obj.mapSeq fun _ => #[Value.ref T2, Value.ref T2])
      obtain ⟨c2, hc2⟩ : ∃ c2, (h4.update S (Obj.mapSeq fun _ => #[Value.ref T2, Value.ref T2])).get? S = some (listOf #[Value.ref T2, Value.ref T2] c2) := ⟨_, get?_update_seq zS.1 fun _ => #[Value.ref T2, Value.ref T2]⟩
      refine wpAny_bind (wpAny_updateSeq zS.1 rfl (wpAny_bind (wpAny_letGo ?_)))
      rw [hname]
      refine wpAny_pure ⟨plainId_quiet PySem.F.plain_max_loop _, ih (j + 1) _ _ T2 t2 c2 oI' (by omega) hjl (by show (T2, pairO (if _ then _ else _) t2) ∈ news; rw [hb]; exact hT2) (ksk_fr F4 sb zS.2.1 zS.2.2) (fun q hq => ?_) hI'⟩
      rcases List.mem_cons.mp hq with rfl | hq
      · have z := N4 (I, oI') (.head _)
        exact ⟨(sb.2 _ (fun e => hSI e.symm)).trans z.1, z.2⟩
      · rcases List.mem_cons.mp hq with rfl | hq
        · exact ⟨hc2, zS.2⟩
        · exact ksk_news (fun q hq => N4 q (.tail _ (.tail _ hq))) sb hnS q hq
    | false =>
      simp only [Bool.false_eq_true, if_false]
      refine wpAny_bind (wpAny_letGo ?_)
      rw [hname]
      exact wpAny_pure ⟨plainId_quiet PySem.F.plain_max_loop _, ih (j + 1) _ _ T t c oI' (by omega) hjl (by show (T, pairO (if _ then _ else _) t) ∈ news; rw [hb]; exact hT) F4 N4 hI'⟩
theorem call_max (hh : A.handled = none) (hu : A.units + 10 < cLine) (F : Fr h₀ L s.heap m) (N : News h₀ L s.heap news) (hD : (D, listOf tv.toArray n) ∈ news) (ht : ToldAt news tv l) (hne : 0 < l.length)
    (hQ : ∀ T t h tk, (T, pairO (bestOf l (l.length - 1)) t) ∈ news → Fr h₀ L h m → News h₀ L h news → Q (.ref T) { s with heap := h, toks := tk }) :
    wpAny (model prog w) A (call (.builtin "max") [.ref D]) Q E s := by
  have hname : (toString "max" ++ toString ".loop" : String) = "max.loop" := by decide
  refine call_function_tree PySem.F.kind_max PySem.F.plain_max PySem.F.entry_max (PySem.F.args_max1 _) ?_
  show wpAny _ A.in1 (Builtin.Builtins.bindParams "max" ["key", "default"] 0 ⟨[], []⟩ >>= _) _ _ s
  refine wpAny_bind (wpAny_of_eq (show Builtin.Builtins.bindParams "max" ["key", "default"] 0 ⟨[], []⟩ = pure [none, none] from rfl) ?_)
  refine wpAny_bind (wpAny_pure ?_)
  refine wpAny_bind (iter_lst F N (isList_of N hD) ?_)
  intro I oI h3 hI F3 N3 hneI
  refine wpAny_bind (wpAny_newList ?_ (Nat.zero_le _))
  rw [hname]
  refine wpAny_pure ⟨plainId_quiet PySem.F.plain_max_loop _, ?_⟩
  have hSn : ∀ q ∈ ((I, oI) :: news : Led), q.1 ≠ h3.objs.size := fun q hq => Nat.ne_of_lt (Heap.lt_size (N3 q hq).1)
  have hSI : h3.objs.size ≠ I := fun e => hSn _ (.head _) e.symm
  have F4 : Fr h₀ L (h3.push (listOf #[] 0)) m := F3.push _
  have N4 : News h₀ L (h3.push (listOf #[] 0)) ((h3.objs.size, listOf #[] 0) :: (I, oI) :: news) := N3.push F3 _
  refine codeAny_builtin PySem.F.entry_max_loop ?_
  rw [Around.under_plainId PySem.F.plain_max_loop _]
  show wpAny _ A.in1 (seqItems? (.ref h3.objs.size) >>= _) _ _ _
  refine wpAny_bind (wpAny_seqItems (N4 _ (.head _)).1 rfl ?_)
  show wpAny _ A.in1 (tryCatch (pyNext (.ref I)) _ >>= _) _ _ _
  have N5 : News h₀ L (h3.push (listOf #[] 0)) ((I, oI) :: (h3.objs.size, listOf #[] 0) :: news) := news_sub N4 fun q hq => by
    simp only [List.mem_cons] at hq ⊢
    rcases hq with h | h | h
    · exact .inr (.inl h)
    · exact .inl h
    · exact .inr (.inr h)
  have hneI2 : ∀ q ∈ ((h3.objs.size, listOf #[] 0) :: news : Led), q.1 ≠ I := fun q hq => by
    rcases List.mem_cons.mp hq with rfl | hq
    · exact hSI
    · exact hneI q hq
  obtain ⟨T, t, hv, hT⟩ := ht.2 0 l[0] (List.getElem?_eq_getElem hne)
  have hgd : bestOf l 0 = l[0] := by show l.getD 0 _ = _; simp [hne]
  rw [← hgd] at hT
  refine wpAny_bind (wpAny_tryCatch (next_lst (s := { s with heap := h3.push (listOf #[] 0) }) F4 N5 hneI2 hI (isList_of N5 (.tail _ (.tail _ hD))) (v := .ref T) (by simpa using hv) ?_))
  intro h6 oI6 hI6 F6 N6
  have zS := N6 (h3.objs.size, listOf #[] 0) (.tail _ (.head _))
  have sb := Heap.SameBut.update h6 h3.objs.size (Obj.mapSeq fun _ => #[Value.ref T, Value.ref T])
  obtain ⟨c2, hc2⟩ : ∃ c2, (h6.update h3.objs.size (Obj.mapSeq fun _ => #[Value.ref T, Value.ref T])).get? h3.objs.size = some (listOf #[Value.ref T, Value.ref T] c2) := ⟨_, get?_update_seq zS.1 fun _ => #[Value.ref T, Value.ref T]⟩
  show wpAny _ A.in1 (updateSeq h3.objs.size (fun _ => #[Value.ref T, Value.ref T]) >>= _) _ _ _
  refine wpAny_bind (wpAny_updateSeq zS.1 rfl ?_)
  rw [hname]
  refine wpAny_pure ⟨plainId_quiet PySem.F.plain_max_loop _, max_loop hh hu hD ht (fun q hq => hSn q (.tail _ hq)) hneI hSI hQ _ 0 _ _ T t c2 oI6 rfl hne hT (ksk_fr F6 sb zS.2.1 zS.2.2) (fun q hq => ?_) hI6⟩
  rcases List.mem_cons.mp hq with rfl | hq
  · have z := N6 (I, oI6) (.head _)
    exact ⟨(sb.2 _ (fun e => hSI e.symm)).trans z.1, z.2⟩
  · rcases List.mem_cons.mp hq with rfl | hq
    · exact ⟨hc2, zS.2⟩
    · exact ksk_news (fun q hq => N6 q (.tail _ (.tail _ hq))) sb (fun q hq => hSn q (.tail _ hq)) q hq
end
end Mine
end
section
open PySem PySem.W PyProof.Rows PySem.Calls PySem.Spec
set_option maxRecDepth 100000
set_option maxHeartbeats 1000000
namespace Mine
section
variable {prog : Program} {w : World} {A : Around} {E : Value → Shared → Prop} {s : Shared} {h₀ : Heap} {L : Addr} {m : Str → Option Value} {news : Led} {env : Env}
theorem self_str {x : Str} {t : Tok} {i : Nat} {I : Addr} {o : Obj} {Q : Value → Shared → Prop} (hh : A.handled = none) (ho : s.heap.get? I = some o) (hs : StrIt x t i o) (h : Q (.ref I) s) : wpAny (model prog w) A (pyIter (.ref I)) Q E s := by
  have hit : s.heap.IsStrIter I (strIterType x) x t i := ⟨o, ho, hs⟩
  unfold strIterType at hit
  cases ha : x.cps.all (· < 128) <;> rw [ha] at hit
  · exact (Walks.strWide (prog := prog) (w := w) (A := A) hh I x t).self i s Q E hit h
  · exact (Walks.strAscii (prog := prog) (w := w) (A := A) hh I x t).self i s Q E hit h
/-- a list made of a text's signs, where generators may run -/
theorem comp_signs {elt iter : Expr} {x y : Str} {px py : Pos} {scope : Scope} {cl : List (Str × Addr)} {pos spos : Pos} {l : List Nat} {f : Nat → Bool} {rest : Led} {tab : Array Value} {Q : Flow → Shared → Prop}
    (F : Fr h₀ L s.heap m) (N : News h₀ L s.heap ((153, tabObj tab) :: rest)) (h153 : ∀ q ∈ rest, q.1 ≠ 153) (htab : TabFine tab) (hg : AllBare s.gens) (hh : A.handled = none) (hLe : env.locals = L)
    (hsw : swapsWith (.ListComp elt [⟨.Name x px, iter, [], 0⟩] scope pos) (some (.Name y py)) spos.line env = pure true)
    (hclos : closureFor scope env = pure cl) (hcell : ∀ z ∈ scope.names, z.2 ≠ .cell) (hkind : scope.kind = .function)
    (hnames : ∀ z ∈ scope.names, z.2 = .local → scope.names.lookup z.1 = some .local) (hx : scope.names.lookup x = some .local)
    (hy : env.kindOf y = some .local) (hp : (env.scope.kind == .class || (env.scope.kind == .module && env.locals != env.globals)) = false)
    (hiter : wpAny (model prog w) A (eval iter env) (fun v s₁ => (∃ t, v = .str (S l) t) ∧ ∃ tk, s₁ = { s with toks := tk }) NoE s) (hlen : l.length ≤ 100)
    (turn : ∀ c ∈ l, ∀ (tab : Array Value) (own : Led) (m₂ : Str → Option Value) (C : Addr) (oC : Obj) (u : Tok) (h : Heap) (gs : Array GenState) (dr : Drawn) (tk : Nat), TabFine tab → AllBare gs → LCg.NsObj oC m₂ → m₂ x = some (.str (S [c]) u) → Fr h₀ L h m →
      News h₀ L h ((153, tabObj tab) :: (C, oC) :: (own ++ rest)) → (∀ q ∈ ((C, oC) :: (own ++ rest) : Led), q.1 ≠ 153) →
      wpAny (model prog w) A (eval elt (compEnvC scope cl C env)) (fun v s₂ => v = .bool (f c) ∧ ∃ h' gs' dr' tk' tab', s₂ = { heap := h', gens := gs', drawn := dr', toks := tk', os := s.os } ∧ AllBare gs' ∧ TabFine tab' ∧ Fr h₀ L h' m ∧ News h₀ L h' ((153, tabObj tab') :: (C, oC) :: (own ++ rest))) NoE { heap := h, gens := gs, drawn := dr, toks := tk, os := s.os })
    (hQ : ∀ D h gs dr tk tab' n, AllBare gs → TabFine tab' → Fr h₀ L h (fun z => if z = y then some (.ref D) else m z) → News h₀ L h ((D, listOf (l.map fun c => Value.bool (f c)).toArray n) :: (153, tabObj tab') :: rest) → (∀ q ∈ ((153, tabObj tab') :: rest : Led), q.1 ≠ D) → Q .next { heap := h, gens := gs, drawn := dr, toks := tk, os := s.os })
    (hs : ∀ x, foldedSetIterable iter env x = pure x := by intro _; rfl) :
    wpAny (model prog w) A (exec (.Assign [.Name y py] (.ListComp elt [⟨.Name x px, iter, [], 0⟩] scope pos) spos) env) Q NoE s := by
  subst hLe
  rw [exec_Assign_Name_used _ _ _ _ hsw]
  refine wpAny_bind (wpAny_standAt (wpAny_bind ?_))
  show wpAny _ A (do let _ ← comprehension (.ListComp elt [⟨.Name x px, iter, [], 0⟩] scope pos) scope env _ (newList []) false (eval iter env) (some (assign (.Name y py) env))) _ _ s
  refine wpAny_bind (wpAny_mono (wpAny_comprehension_free (use := some (assign (.Name y py) env)) (Q := fun _ s' => Q .next s') rfl hs hclos hkind hnames
    (wpAny_mono hiter (fun xv s₁ h₁ => ?_) fun _ _ e => e)) (fun _ s' hq => wpAny_pure (wpAny_pure hq)) fun _ _ e => e)
  obtain ⟨⟨t, rfl⟩, tk, rfl⟩ := h₁
  refine iter_str F N ?_
  intro I oI h3 hI F3 N3 hneI
  refine wpAny_newObj_type (wpAny_newFunctionEnv hcell (by intro y hy; simp at hy) (fun h₁ hns₁ hsb₁ => ?_) hkind)
  dsimp only at hns₁ hsb₁ ⊢
  have N4 : News h₀ env.locals (h3.push { cls := .type "list", data := .seq #[] }) ((h3.objs.size, listOf #[] 0) :: (I, oI) :: (153, tabObj tab) :: rest) := N3.push F3 _
  have F4 : Fr h₀ env.locals (h3.push { cls := .type "list", data := .seq #[] }) m := F3.push _
  have hD0 : ∀ q ∈ ((I, oI) :: (153, tabObj tab) :: rest : Led), q.1 ≠ h3.objs.size := fun q hq => Nat.ne_of_lt (Heap.lt_size (N3 q hq).1)
  have hC0 : ∀ q ∈ ((h3.objs.size, listOf #[] 0) :: (I, oI) :: (153, tabObj tab) :: rest : Led), q.1 ≠ (h3.push { cls := .type "list", data := .seq #[] }).objs.size := fun q hq => Nat.ne_of_lt (Heap.lt_size (N4 q hq).1)
  have hLC : env.locals ≠ (h3.push { cls := .type "list", data := .seq #[] }).objs.size := Nat.ne_of_lt F4.ns.lt
  have hC00 : h₀.get? (h3.push { cls := .type "list", data := .seq #[] }).objs.size = none := Heap.get?_none_of_le (Nat.le_of_lt (Nat.lt_of_le_of_lt F4.above F4.ns.lt))
  generalize (h3.push { cls := .type "list", data := .seq #[] }).objs.size = C at hns₁ hsb₁ hC0 hLC hC00 ⊢
  generalize hDe : h3.objs.size = D at N4 hD0 hC0 ⊢
  have old : ∀ b o, b ≠ C → (h3.push { cls := .type "list", data := .seq #[] }).get? b = some o → h₁.get? b = some o := fun b o hb e => hsb₁.extBut b o hb (Heap.get?_push_of_some _ e)
  obtain ⟨oC, hoC, hnC⟩ := LCg.ns_obj hns₁
  have F5 : Fr h₀ env.locals h₁ m := by
    obtain ⟨oL, es, ep, e, r⟩ := F4.ns
    exact ⟨⟨oL, es, ep, old _ _ hLC e, r⟩, fun b o e => old b o (fun q => by rw [q, hC00] at e; cases e) (F4.keep b o e), F4.above⟩
  have N5 : News h₀ env.locals h₁ ((I, oI) :: (C, oC) :: (D, listOf ([] : List Value).toArray 0) :: (153, tabObj tab) :: rest) := fun q hq => by
    simp only [List.mem_cons] at hq
    rcases hq with h | h | h | h | h
    · have z := N4 q (by rw [h]; exact .tail _ (.head _))
      exact ⟨old _ _ (hC0 q (by rw [h]; exact .tail _ (.head _))) z.1, z.2⟩
    · rw [h]; exact ⟨hoC, hLC.symm, hC00⟩
    · have z := N4 q (by rw [h]; exact .head _)
      exact ⟨old _ _ (hC0 q (by rw [h]; exact .head _)) z.1, z.2⟩
    · have z := N4 q (by rw [h]; exact .tail _ (.tail _ (.head _)))
      exact ⟨old _ _ (hC0 q (by rw [h]; exact .tail _ (.tail _ (.head _)))) z.1, z.2⟩
    · have z := N4 q (.tail _ (.tail _ (.tail _ h)))
      exact ⟨old _ _ (hC0 q (.tail _ (.tail _ (.tail _ h)))) z.1, z.2⟩
  have dID : I ≠ D := hD0 _ (.head _)
  have dIC : I ≠ C := hC0 _ (.tail _ (.head _))
  have dDC : D ≠ C := hC0 _ (.head _)
  have d1I : (153 : Addr) ≠ I := hneI _ (.head _)
  have d1D : (153 : Addr) ≠ D := hD0 (153, tabObj tab) (.tail _ (.head _))
  have d1C : (153 : Addr) ≠ C := hC0 (153, tabObj tab) (.tail _ (.tail _ (.head _)))
  have drI : ∀ q ∈ rest, q.1 ≠ I := fun q hq => hneI q (.tail _ hq)
  have drD : ∀ q ∈ rest, q.1 ≠ D := fun q hq => hD0 q (.tail _ (.tail _ hq))
  have drC : ∀ q ∈ rest, q.1 ≠ C := fun q hq => hC0 q (.tail _ (.tail _ (.tail _ hq)))
  clear N4 F4 hD0 hC0 N3 F3 hneI N F hsb₁ hns₁ old hoC
  have loop : codeAny (model prog w) A (.compLoop (.ListComp elt [⟨.Name x px, iter, [], 0⟩] scope pos) 0 (.ref I) (.ref D) (compEnvC scope cl C env)) (compPost (model prog w) A NoE (some (assign (.Name y py) env)) (fun _ s' => Q .next s') (.ref D) C) { heap := h₁, gens := s.gens, drawn := s.drawn, toks := tk, os := s.os } := by
    refine codeAny_compLoop_tests (fun k s' => ∃ (i : Nat) (oI oC : Obj) (m' : Str → Option Value) (nD : Nat) (tab' : Array Value) (h : Heap) (gs : Array GenState) (dr : Drawn) (tk : Nat), s' = { heap := h, gens := gs, drawn := dr, toks := tk, os := s.os } ∧ i ≤ l.length ∧ k = l.length + 1 - i ∧ StrIt (S l) t i oI ∧ LCg.NsObj oC m' ∧ TabFine tab' ∧ AllBare gs ∧
      Fr h₀ env.locals h m ∧ News h₀ env.locals h ((I, oI) :: (C, oC) :: (D, listOf ((l.take i).map fun c => Value.bool (f c)).toArray nD) :: (153, tabObj tab') :: rest)) ?_ (l.length + 1) ⟨0, oI, oC, _, 0, tab, h₁, _, _, _, rfl, Nat.zero_le _, rfl, hI, hnC, htab, hg, F5, N5⟩
    clear N5 F5 hnC hI htab hg
    rintro k s' ⟨i, oI, oC, m', nD, tab', h, gs, dr, tk, rfl, hi, rfl, hI, hnC, htab, hg, F, N⟩
    have hneI : ∀ q ∈ ((C, oC) :: (D, listOf ((l.take i).map fun c => Value.bool (f c)).toArray nD) :: (153, tabObj tab') :: rest : Led), q.1 ≠ I := by
      intro q hq
      simp only [List.mem_cons] at hq
      rcases hq with rfl | rfl | rfl | h
      · exact dIC.symm
      · exact dID.symm
      · exact d1I
      · exact drI q h
    by_cases hlt : i < l.length
    · have hxi : (S l).cps[i]? = some l[i] := by rw [S_get]; exact List.getElem?_eq_getElem hlt
      refine next_str (s := { heap := h, gens := gs, drawn := dr, toks := tk, os := s.os }) F N hneI hI hxi ?_
      intro h' tk' u oI' hI' F6 N6
      dsimp only
      have hnsC : h'.Ns C m' := hnC.ns (N6 (C, oC) (.tail _ (.head _))).1
      refine wpAny_assign_Name (wpAny_storeName_local (lookup_relabel_local hx) hnsC (fun h₃ hn₃ hs₃ => ?_) (by simp [compEnvC, relabel, hkind]))
      refine wpAny_tests_nil ?_
      simp only [if_true]
      obtain ⟨oC', hoC', hnC'⟩ := LCg.ns_obj hn₃
      have zC := N6 (C, oC) (.tail _ (.head _))
      have F7 : Fr h₀ env.locals h₃ m := F6.change hs₃ zC.2.1 zC.2.2
      have N7 : News h₀ env.locals h₃ ((153, tabObj tab') :: (C, oC') :: ([(I, oI'), (D, listOf ((l.take i).map fun c => Value.bool (f c)).toArray nD)] ++ rest)) := fun q hq => by
        simp only [List.mem_cons, List.mem_append, List.not_mem_nil, or_false] at hq
        rcases hq with h | h | (h | h) | h
        · have z := N6 q (by rw [h]; exact .tail _ (.tail _ (.tail _ (.head _))))
          exact ⟨hs₃.extBut _ _ (by rw [h]; exact d1C) z.1, z.2⟩
        · rw [h]; exact ⟨hoC', zC.2⟩
        · have z := N6 q (by rw [h]; exact .head _)
          exact ⟨hs₃.extBut _ _ (by rw [h]; exact dIC) z.1, z.2⟩
        · have z := N6 q (by rw [h]; exact .tail _ (.tail _ (.head _)))
          exact ⟨hs₃.extBut _ _ (by rw [h]; exact dDC) z.1, z.2⟩
        · have z := N6 q (.tail _ (.tail _ (.tail _ (.tail _ h))))
          exact ⟨hs₃.extBut _ _ (drC q h) z.1, z.2⟩
      have h153' : ∀ q ∈ ((C, oC') :: ([(I, oI'), (D, listOf ((l.take i).map fun c => Value.bool (f c)).toArray nD)] ++ rest) : Led), q.1 ≠ 153 := by
        intro q hq
        simp only [List.mem_cons, List.mem_append, List.not_mem_nil, or_false] at hq
        rcases hq with rfl | (rfl | rfl) | h
        · exact d1C.symm
        · exact d1I.symm
        · exact d1D.symm
        · exact h153 q h
      refine wpAny_mono (turn l[i] (List.getElem_mem hlt) tab' _ _ C oC' u h₃ gs dr _ htab hg hnC' (by simp; rfl) F7 N7 h153') (fun v s₂ hv => ?_) (fun _ _ e => e.elim)
      obtain ⟨rfl, h8, gs8, dr8, tk8, tab8, rfl, hg8, htab8, F8, N8⟩ := hv
      have zD := N8 (D, listOf ((l.take i).map fun c => Value.bool (f c)).toArray nD) (.tail _ (.tail _ (.tail _ (.head _))))
      refine append_at (s := { heap := h8, gens := gs8, drawn := dr8, toks := tk8, os := s.os }) (hsz := by rw [sizeLine_eq]; simp; omega) zD.1 fun h9 hs9 hD9 => ?_
      refine ⟨l.length + 1 - (i + 1), by omega, i + 1, oI', oC', _, nD + 1, tab8, h9, gs8, dr8, tk8, rfl, hlt, rfl, hI', hnC', htab8, hg8, F8.change hs9 zD.2.1 zD.2.2, fun q hq => ?_⟩
      have e9 : ((l.take i).map fun c => Value.bool (f c)).toArray.push (Value.bool (f l[i])) = ((l.take (i + 1)).map fun c => Value.bool (f c)).toArray := by
        rw [List.take_add_one, List.getElem?_eq_getElem hlt, Option.toList_some, List.map_append, List.push_toArray]; rfl
      simp only [List.mem_cons] at hq
      rcases hq with h | h | h | h | h
      · have z := N8 q (by rw [h]; exact .tail _ (.tail _ (.head _)))
        exact ⟨hs9.extBut _ _ (by rw [h]; exact dID) z.1, z.2⟩
      · have z := N8 q (by rw [h]; exact .tail _ (.head _))
        exact ⟨hs9.extBut _ _ (by rw [h]; exact dDC.symm) z.1, z.2⟩
      · rw [h, ← e9]; exact ⟨hD9, zD.2⟩
      · have z := N8 q (by rw [h]; exact .head _)
        exact ⟨hs9.extBut _ _ (by rw [h]; exact d1D) z.1, z.2⟩
      · have z := N8 q (.tail _ (.tail _ (.tail _ (.tail _ h))))
        exact ⟨hs9.extBut _ _ (drD q h) z.1, z.2⟩
    · have hil : i = l.length := by omega
      subst hil
      refine next_str_end (s := { heap := h, gens := gs, drawn := dr, toks := tk, os := s.os }) hh F N hneI hI (by rw [S_get]; exact List.getElem?_eq_none (Nat.le_refl _)) ?_
      intro h4 F6 N6
      rw [List.take_length] at N6
      show wpAny _ A (assign (.Name y py) env (.ref D)) _ _ _
      refine wpAny_assign_Name (wpAny_storeName_local hy F6.ns (fun h₂ hn₂ hs₂ => ?_) hp)
      have hL₀ : h₀.get? env.locals = none := Heap.get?_none_of_le F6.above
      have F7 : Fr h₀ env.locals h₂ (fun z => if z = y then some (.ref D) else m z) := ⟨hn₂, fun b o e => hs₂.extBut b o (fun q => by rw [q, hL₀] at e; cases e) (F6.keep b o e), F6.above⟩
      have N7 : News h₀ env.locals h₂ ((C, oC) :: (D, listOf (l.map fun c => Value.bool (f c)).toArray nD) :: (153, tabObj tab') :: rest) := fun q hq => ⟨hs₂.extBut _ _ (N6 q hq).2.1 (N6 q hq).1, (N6 q hq).2⟩
      refine ⟨m', hnC.ns (N7 _ (.head _)).1, fun h'' hs'' => hQ D h'' gs dr _ tab' nD hg htab (F7.change hs'' hLC.symm hC00) (fun q hq => ?_) ?_⟩
      · have z := N7 q (.tail _ hq)
        refine ⟨hs''.extBut _ _ ?_ z.1, z.2⟩
        simp only [List.mem_cons] at hq
        rcases hq with rfl | rfl | h
        · exact dDC
        · exact d1C
        · exact drC q h
      · intro q hq
        rcases List.mem_cons.mp hq with rfl | hq
        · exact d1D
        · exact drD q hq
  exact codeAny_compStart_list loop (self_str (s := { heap := h₁, gens := s.gens, drawn := s.drawn, toks := tk, os := s.os }) hh (N5 _ (.head _)).1 hI loop)
end
end Mine
end
section
open PySem PySem.W PyProof.Rows PySem.Calls PySem.Spec
set_option maxRecDepth 100000
set_option maxHeartbeats 2000000
namespace Mine
noncomputable def rightOf (tl : List (Int × Bool)) : Bool := tl.isEmpty || (bestOf tl (tl.length - 1)).2
section
variable {w : World} {p : Program} {loose : List Str} {mean : ExcName → Option Value} {mg mb : Str → Option Value}
theorem lines_LD1 : True := by
  k_with_none
  k_with "my mem" => assumption
  k_with "my all" => assumption
  k_with "my steps" => repeat' ((fail_if_success (with_reducible show wpAny _ _ (exec (Stmt.For _ _ _ _ _) _) _ _ _)); (fail_if_success (with_reducible show wpAny _ _ (call (Value.ref _) _) _ _ _)); (fail_if_success (with_reducible show wpAny _ _ (truthy (Value.ref _)) _ _ _)); (fail_if_success (with_reducible show wpAny _ _ (call (Value.builtin "max") _) _ _ _)); first | walk1 | (dsimp only; walk1) | (leave1; walk_say "STEP leave1"; try dsimp only) | fail "no step")
  k_with "my ite" => first | with_reducible refine ite_tt ?_ | with_reducible refine ite_ff ?_ | (refine ite_neg (by simp) ?_)
  k_with "my exec If" => refine wpAny_If ?_
  k_with "my eval Name" => first | (k_dflt (refine' nameX_L ?F ?v ?_ ?a ?b; (case F => k_asm); (case a => rfl); (case b => rfl); (case v => rfl); k_whole)) | (k_dflt (refine nameX_C (by k_asm) (by with_reducible assumption) (by with_reducible assumption) (by with_reducible assumption) ?_)) | (k_dflt (refine nameX_L (by k_asm) (by with_reducible assumption) ?_))
  k_with "my room" => ((try simp only [depth_under_make, depth_under_kw, depth_in1, depth_deeper, depth_caller]); (try dsimp only [ktrTop]); omega)
  trivial
theorem law_right {scope : Scope} {ss : List Stmt} (hlaw : LawAt (hd0.heap_1 w.params) scope ss) {s0 s1 s2 s3 b0 b1 st : Stmt} {tgt iter : Expr} {orelse bmore more : List Stmt} {pos : Pos} (hss : ss = s0 :: s1 :: s2 :: s3 :: .For tgt iter (b0 :: b1 :: st :: bmore) orelse pos :: more)
    {dp un : Nat} {gd : Option (List Code)} {L a : Addr} {ccd : Value} {cl : List (Str × Addr)} {outer : List Env} {A₀ : Around} {base g : Heap} {m : Str → Option Value} {s : Shared} {Q : Flow → Shared → Prop}
    {TD : Addr} {tv : List Value} {tl : List (Int × Bool)} {nn : Nat} {rest : Led}
    (B : Below A₀ base outer g) (F : Fr g L s.heap m) (X : (hd0.heap_1 w.params).In g) (T : Top p loose mean mg mb g) (hdp : dp + 40 < recursionLimit) (hu : un + 10 * 40 < cLine)
    (N : News g L s.heap ((TD, listOf tv.toArray nn) :: rest)) (ht : ToldIn rest tv tl) (hlen : tl.length ≤ 100) (hv2 : m "told" = some (.ref TD))
    (hQ : ∀ h tk, Fr g L h (fun y => if y = "right" then some (.bool (rightOf tl)) else m y) → News g L h ((TD, listOf tv.toArray nn) :: rest) → Q .next { s with heap := h, toks := tk }) :
    wpAny (model PySem.Challenge.rw_in0284_01.row.prog w) (ktrTop dp un gd "law" scope L a ccd cl outer) (exec st (envX "law" scope L a ccd cl)) Q NoE s := by
  revert hlaw X hss
  k_fill
  intro hlaw hss X
  revert hss
  refine law_lit (P := fun scope ss => ss = s0 :: s1 :: s2 :: s3 :: .For tgt iter (b0 :: b1 :: st :: bmore) orelse pos :: more → wpAny (model PySem.Challenge.rw_in0284_01.row.prog w) (ktrTop dp un gd "law" scope L a ccd cl outer) (exec st (envX "law" scope L a ccd cl)) Q NoE s) hlaw (by k_is) ?_
  intro hss
  cases hss
  have htv : tv.length = tl.length := ht.1
  have hTD : (TD, listOf tv.toArray nn) ∈ ((TD, listOf tv.toArray nn) :: rest : Led) := .head _
  have hat : ToldAt ((TD, listOf tv.toArray nn) :: rest) tv tl := ⟨ht.1, fun i x e => let ⟨T, t, a, b⟩ := ht.2 i x e; ⟨T, t, a, .tail _ b⟩⟩
  cases tl with
  | nil =>
    have htv0 : tv = [] := List.length_eq_zero_iff.mp htv
    subst htv0
    k_steps
    refine wpAny_truthy_list (isList_of N hTD) (by simp) ?_
    k_steps
    rename Fr _ _ _ _ => F9
    rename News _ _ _ _ => N9
    exact hQ _ _ F9 N9
  | cons x r =>
    k_steps
    refine wpAny_truthy_list (isList_of N hTD) (by simp only [List.size_toArray]; omega) ?_
    have hne : (!tv.toArray.isEmpty) = true := by
      cases tv with
      | nil => simp at htv
      | cons v vs => simp
    rw [hne]
    k_steps
    rename Fr _ _ _ _ => F9
    rename News _ _ _ _ => N9
    refine call_max rfl (by show un + 10 < cLine; omega) F9 N9 hTD hat (by simp) ?_
    intro T9 t9 h9 tk9 hT9 F10 N10
    clear F9 N9
    k_steps
    rename Fr _ _ _ _ => F9
    rename News _ _ _ _ => N9
    exact hQ _ _ F9 N9
theorem RulesIn.reverse {news : Led} {vals : List Value} {rules : List (List Ask × Bool)} (h : RulesIn w p loose mean mg mb news vals rules) : RulesIn w p loose mean mg mb news vals.reverse rules.reverse := by
  refine ⟨by simp [h.1], fun i r e => ?_⟩
  have hi := (List.getElem?_eq_some_iff.mp e).1
  rw [List.length_reverse] at hi
  rw [List.getElem?_reverse hi] at e
  obtain ⟨X, a, b⟩ := h.2 _ r e
  exact ⟨X, by rw [List.getElem?_reverse (by rw [h.1]; exact hi), h.1]; exact a, b⟩
theorem law_ans {scope : Scope} {ss : List Stmt} (hlaw : LawAt (hd0.heap_1 w.params) scope ss) {s0 s1 s2 s3 b0 b1 b2 st : Stmt} {tgt iter : Expr} {orelse bmore more : List Stmt} {pos : Pos} (hss : ss = s0 :: s1 :: s2 :: s3 :: .For tgt iter (b0 :: b1 :: b2 :: st :: bmore) orelse pos :: more)
    {dp un : Nat} {gd : Option (List Code)} {L a : Addr} {ccd : Value} {cl : List (Str × Addr)} {outer : List Env} {A₀ : Around} {base g : Heap} {m : Str → Option Value} {s : Shared} {Q : Flow → Shared → Prop}
    {cR recX recD turX turD ua ub Rr Tr : Addr} {oR : Obj} {tr e1 e2 e3 e4 f1 f2 f3 f4 : Tok} {row : List Nat} {vals : List Value} {rules : List (List Ask × Bool)} {n1 n2 : Nat} {rest : Led} {b : Bool}
    (B : Below A₀ base outer g) (F : Fr g L s.heap m) (X : (hd0.heap_1 w.params).In g) (T : Top p loose mean mg mb g) (hdp : dp + 40 < recursionLimit) (hu : un + 10 * 40 < cLine) (hgens : AllBare s.gens)
    (N : News g L s.heap rest) (hrow : row.length = 10) (hcR : cl.lookup (Str.ofString "row") = some cR) (hoR : (cR, oR) ∈ rest) (hdR : oR.data = .cell (some (.str (S row) tr)))
    (c1 : (recX, instObj 203 recD) ∈ rest) (c2 : (recD, dictOf (entEs w ua Rr e1 e2 e3 e4) 4) ∈ rest) (c3 : (turX, instObj 203 turD) ∈ rest) (c4 : (turD, dictOf (entEs w ub Tr f1 f2 f3 f4) 4) ∈ rest)
    (c5 : (Rr, listOf vals.toArray n1) ∈ rest) (c6 : (Tr, listOf vals.reverse.toArray n2) ∈ rest) (hrules : RulesIn w p loose mean mg mb rest vals rules) (hb : rules.length ≤ 1000)
    (hpos : ∀ r ∈ rules, 0 ≤ reach r.1 row ∧ reach r.1 row ≤ 100) (ha1 : allowFrom row rules (-1) true = b) (ha2 : allowFrom row rules.reverse (-1) true = b)
    (hv1 : m "record" = some (.ref recX)) (hv2 : m "turned" = some (.ref turX)) (hv3 : m "right" = some (.bool b))
    (hQ : ∀ h tk v, Fr g L h (fun y => if y = "answer" then some v else m y) → News g L h rest → Q .next { s with heap := h, toks := tk }) :
    wpAny (model PySem.Challenge.rw_in0284_01.row.prog w) (ktrTop dp un gd "law" scope L a ccd cl outer) (exec st (envX "law" scope L a ccd cl)) Q NoE s := by
  revert hlaw X hss
  k_fill
  intro hlaw hss X
  revert hss
  refine law_lit (P := fun scope ss => ss = s0 :: s1 :: s2 :: s3 :: .For tgt iter (b0 :: b1 :: b2 :: st :: bmore) orelse pos :: more → wpAny (model PySem.Challenge.rw_in0284_01.row.prog w) (ktrTop dp un gd "law" scope L a ccd cl outer) (exec st (envX "law" scope L a ccd cl)) Q NoE s) hlaw (by k_is) ?_
  intro hss
  cases hss
  refine for_do ?_
  k_steps
  rename Fr _ _ _ _ => F9
  rename News _ _ _ _ => N9
  refine does_pure (post := fun v => v = .bool (allowFrom row rules (-1) true)) (d_allow rules row recX recD ua Rr e1 e2 e3 e4 vals n1 tr hrow hb hpos) B F9 X N9 ⟨c1, c2, c5, hrules⟩ T rfl (by omega) (by omega) ?_
  rintro v h10 tk10 rfl F10 N10
  clear F9 N9
  rw [ha1]
  k_steps
  rename Fr _ _ _ _ => F9
  rename News _ _ _ _ => N9
  refine does_pure (post := fun v => v = .bool (allowFrom row rules.reverse (-1) true)) (d_allow rules.reverse row turX turD ub Tr f1 f2 f3 f4 vals.reverse n2 tr hrow (by simpa using hb) (fun r hr => hpos r (by simpa using hr))) B F9 X N9 ⟨c3, c4, c6, hrules.reverse⟩ T rfl (by omega) (by omega) ?_
  rintro v h11 tk11 rfl F11 N11
  clear F9 N9
  rw [ha2]
  k_steps
  rename Fr _ _ _ _ => F9
  rename News _ _ _ _ => N9
  rename_i Dt _ _
  refine iter_tup F9 N9 (its := #[.bool b, .bool b]) ⟨_, (N9 _ (.head _)).1, rfl, _, rfl⟩ ?_
  intro I oI h3 hI F3 N3 hne
  refine for_indN (J := fun r h => ∃ (i : Nat) (oI : Obj) (mm : Str → Option Value), i + r.length = 2 ∧ TupIt Dt i oI ∧ (∀ y : Str, y ≠ Str.ofString "answer" → mm y = m y) ∧ (1 ≤ i → ∃ v, mm (Str.ofString "answer") = some v) ∧ Fr g L h mm ∧ News g L h ((I, oI) :: (Dt, tupO [.bool b, .bool b]) :: rest)) [(), ()] ⟨0, oI, m, rfl, hI, fun _ _ => rfl, fun h => by omega, F3, N3⟩ ?_ ?_
  · clear F3 N3 hI
    rintro u r h tk ⟨i, oI, mm, hil, hI, hmm, hma, F, N⟩
    simp only [List.length_cons] at hil
    have hx : (#[Value.bool b, Value.bool b] : Array Value)[i]? = some (.bool b) := by
      have : i = 0 ∨ i = 1 := by omega
      rcases this with rfl | rfl <;> rfl
    refine next_tup F N hne hI (its := #[.bool b, .bool b]) ⟨_, (N _ (.tail _ (.head _))).1, rfl, _, rfl⟩ hx ?_
    intro h' o' hI' F4 N4
    have hv3' : mm "right" = some (.bool b) := by rw [hmm _ (by decide)]; exact hv3
    replace F4 := fr_puts F4 [("right", .bool b)] (List.forall_mem_cons.mpr ⟨hv3', List.forall_mem_nil _⟩)
    dsimp only [kstB] at F4
    clear F N
    k_steps
    rename Fr _ _ _ _ => F9
    rename News _ _ _ _ => N9
    refine After.next ⟨i + 1, o', _, by omega, hI', fun y hy => ?_, fun _ => ⟨.bool b, rfl⟩, F9, N9⟩
    show (if y = Str.ofString "answer" then _ else if y = Str.ofString "right" then _ else mm y) = m y
    rw [if_neg hy]
    split
    · rename_i e
      rw [e, hv3]
    · exact hmm y hy
  · rintro h tk ⟨i, oI, mm, hil, hI, hmm, hma, F, N⟩
    have hi2 : i = 2 := by simpa using hil
    subst hi2
    refine next_tup_end rfl F N hne hI (its := #[.bool b, .bool b]) ⟨_, (N _ (.tail _ (.head _))).1, rfl, _, rfl⟩ rfl ?_
    intro h4 F4 N4
    refine ⟨rfl, ?_⟩
    clear F N
    k_steps
    obtain ⟨v, hv⟩ := hma (by omega)
    refine hQ _ _ v ?_ (news_sub N4 fun q hq => .tail _ hq)
    have e : (fun y : Str => if y = Str.ofString "answer" then some v else m y) = mm := by
      funext y
      by_cases hy : y = Str.ofString "answer"
      · rw [if_pos hy, hy, hv]
      · rw [if_neg hy, hmm y hy]
    rw [e]
    exact F4
end
end Mine
end
section
open PySem PySem.W PyProof.Rows PySem.Calls PySem.Spec
set_option maxRecDepth 100000
set_option maxHeartbeats 2000000
namespace Mine
noncomputable abbrev kinds7 : List Nat := [112, 99, 100, 98, 45, 108, 115]
noncomputable def shownOf (row : List Nat) (c : Nat) : Bool := reach [(0, [c], true)] row == 2
theorem lit_kinds : Str.ofString "pcdb-ls" = S kinds7 := by decide +kernel
theorem kind_facts : ∀ c ∈ kinds7, c ≠ 63 ∧ c ∈ signs := by decide
section
variable {w : World} {p : Program} {loose : List Str} {mean : ExcName → Option Value} {mg mb : Str → Option Value}
theorem lines_LE1 : True := by
  k_with_none
  k_with "my mem" => assumption
  k_with "my all" => assumption
  k_with "my steps" => repeat' ((fail_if_success (with_reducible show wpAny _ _ (exec (Stmt.For _ _ _ _ _) _) _ _ _)); (fail_if_success (with_reducible show wpAny _ _ (call (Value.ref _) _) _ _ _)); (fail_if_success (with_reducible show wpAny _ _ (truthy (Value.ref _)) _ _ _)); first | walk1 | (dsimp only; walk1) | (leave1; walk_say "STEP leave1"; try dsimp only) | fail "no step")
  k_with "my ite" => first | with_reducible refine ite_tt ?_ | with_reducible refine ite_ff ?_ | (refine ite_neg (by simp) ?_)
  k_with "my exec If" => refine wpAny_If ?_
  k_with "my binaryOp Add str str" => (refine add_S rfl lit_s (by simp) ?_; intro _ _)
  k_with "my room" => ((try simp only [depth_under_make, depth_under_kw, depth_in1, depth_deeper, depth_caller]); (try dsimp only [ktrTop]); omega)
  trivial
theorem hide_post {M : Model} {A : Around} {α : Type} {c : Sem α} {Q : α → Shared → Prop} {E : Value → Shared → Prop} {s : Shared} (h : ∀ P : α → Shared → Prop, (∀ v s, Q v s → P v s) → wpAny M A c P E s) : wpAny M A c Q E s := h Q fun _ _ q => q
theorem law_shown {scope : Scope} {ss : List Stmt} (hlaw : LawAt (hd0.heap_1 w.params) scope ss) {s0 s1 s2 s3 b0 b1 b2 b3 st : Stmt} {tgt iter : Expr} {orelse bmore more : List Stmt} {pos : Pos} (hss : ss = s0 :: s1 :: s2 :: s3 :: .For tgt iter (b0 :: b1 :: b2 :: b3 :: st :: bmore) orelse pos :: more)
    {dp un : Nat} {gd : Option (List Code)} {L a : Addr} {ccd : Value} {cl : List (Str × Addr)} {outer : List Env} {A₀ : Around} {base g : Heap} {m : Str → Option Value} {s : Shared} {Q : Flow → Shared → Prop}
    {cR cA : Addr} {oR : Obj} {tr : Tok} {row : List Nat} {rest : Led} {tab : Array Value}
    (B : Below A₀ base outer g) (F : Fr g L s.heap m) (X : (hd0.heap_1 w.params).In g) (T : Top p loose mean mg mb g) (hdp : dp + 40 < recursionLimit) (hu : un + 10 * 40 < cLine) (hgens : AllBare s.gens)
    (hcl : cl = [(Str.ofString "row", cR), (Str.ofString "asked", cA)]) (N : News g L s.heap ((153, tabObj tab) :: rest)) (h153 : ∀ q ∈ rest, q.1 ≠ 153) (htab : TabFine tab) (hrow : row.length = 10) (hoR : (cR, oR) ∈ rest) (hdR : oR.data = .cell (some (.str (S row) tr)))
    (hQ : ∀ D h gs dr tk tab' n, AllBare gs → TabFine tab' → Fr g L h (fun y => if y = "shown" then some (.ref D) else m y) → News g L h ((D, listOf (kinds7.map fun c => Value.bool (shownOf row c)).toArray n) :: (153, tabObj tab') :: rest) → (∀ q ∈ ((153, tabObj tab') :: rest : Led), q.1 ≠ D) → Q .next { heap := h, gens := gs, drawn := dr, toks := tk, os := s.os }) :
    wpAny (model PySem.Challenge.rw_in0284_01.row.prog w) (ktrTop dp un gd "law" scope L a ccd cl outer) (exec st (envX "law" scope L a ccd cl)) Q NoE s := by
  revert hlaw X hss
  k_fill
  intro hlaw hss X
  revert hss
  refine law_lit (P := fun scope ss => ss = s0 :: s1 :: s2 :: s3 :: .For tgt iter (b0 :: b1 :: b2 :: b3 :: st :: bmore) orelse pos :: more → wpAny (model PySem.Challenge.rw_in0284_01.row.prog w) (ktrTop dp un gd "law" scope L a ccd cl outer) (exec st (envX "law" scope L a ccd cl)) Q NoE s) hlaw (by k_is) ?_
  intro hss
  cases hss
  subst hcl
  refine comp_signs (l := kinds7) (f := shownOf row) (cl := [(Str.ofString "row", cR)]) F N h153 htab hgens rfl rfl (by with_unfolding_all rfl) (by with_unfolding_all rfl) (by decide) rfl (by decide) rfl rfl rfl ?_ (by decide) ?_ hQ
  · k_steps
  · intro c hc tab2 own m₂ C oC u h gs dr tk htab2 hgs hnC hm2 F2 N2 h1532
    obtain ⟨hc63, hcs⟩ := kind_facts c hc
    have mC : (C, oC) ∈ ((153, tabObj tab2) :: (C, oC) :: (own ++ rest) : Led) := .tail _ (.head _)
    have mR : (cR, oR) ∈ ((153, tabObj tab2) :: (C, oC) :: (own ++ rest) : Led) := .tail _ (.tail _ (List.mem_append_right _ hoR))
    have ap0 : ∀ p ∈ ([(153, tabObj tab2)] : Led), ∀ q ∈ ((C, oC) :: (own ++ rest) : Led), q.1 ≠ p.1 := fun p hp q hq => by rw [List.mem_singleton.mp hp]; exact h1532 q hq
    clear F N htab hgens
    refine hide_post fun P hP => ?_
    k_steps
    rename Fr _ _ _ _ => F9
    rename News _ _ _ _ => N9
    refine doesG_use (own₀ := [(153, tabObj tab2)]) (d_translate [.ask c] true [c, 42] (by simp [srcs, Pc.src, hc63]) tab2 _ (by intro x hx; rw [List.mem_singleton.mp hx]; exact hcs) (by simp) htab2) B F9 X N9 ap0 trivial T rfl (by omega) (by omega) hgs ?_
    rintro v own5 h10 gs10 dr10 tk10 hgs10 ⟨tab5, u5, rfl, rfl, htab5⟩ F10 N10 ap10
    clear F9 N9
    k_steps
    rename Fr _ _ _ _ => F9
    rename News _ _ _ _ => N9
    refine does_use (own₀ := []) (d_asks [.ask c] true _ rfl _ (by intro x hx; rw [List.mem_singleton.mp hx]; exact hcs) (by simp)) B F9 X N9 (fun _ h => absurd h List.not_mem_nil) trivial T rfl (by omega) (by omega) ?_
    rintro v own6 h11 tk11 ⟨la, rfl, hasks⟩ F11 N11 hap11
    clear F9 N9
    have mR5 : (cR, oR) ∈ (own6 ++ ([(153, tabObj tab5)] ++ (C, oC) :: (own ++ rest)) : Led) := List.mem_append_right _ (List.mem_append_right _ (.tail _ (List.mem_append_right _ hoR)))
    k_steps
    rename Fr _ _ _ _ => F9
    rename News _ _ _ _ => N9
    refine does_val (mk := fun u => .int _ u) (d_reach (asksFrom 0 [.ask c]) row la _ (fun k hk => by have := asksFrom_lt [.ask c] 0 k hk; simp only [List.length_cons, List.length_nil] at this; omega) (by omega) (by have := asksFrom_len [.ask c] 0; simp only [List.length_cons, List.length_nil] at this; omega)) B F9 X N9 (hasks.mono fun q hq => List.mem_append_left _ hq) T rfl (by omega) (by omega) ?_
    intro u12 h12 tk12 F12 N12
    clear F9 N9
    k_steps
    exact hP _ _ ⟨rfl, _, _, _, _, tab5, rfl, hgs10, htab5, F12, news_sub N12 fun q hq => List.mem_append_right _ hq⟩
end
end Mine
end
section
open PySem PySem.W PyProof.Rows PySem.Calls PySem.Spec
set_option maxRecDepth 100000
set_option maxHeartbeats 1000000
namespace Mine
section
variable {prog : Program} {w : World} {A : Around} {E : Value → Shared → Prop} {s : Shared} {h₀ : Heap} {L : Addr} {m : Str → Option Value} {news : Led} {env : Env}
theorem self_tup {a I : Addr} {i : Nat} {o : Obj} {Q : Value → Shared → Prop} (ho : s.heap.get? I = some o) (hs : TupIt a i o) (h : Q (.ref I) s) : wpAny (model prog w) A (pyIter (.ref I)) Q E s :=
  wpAny_pyIter_tupleiter ⟨o, ho, hs⟩ h
/-- a list made of a tuple of ints -/
theorem comp_ints {elt iter : Expr} {x : Str} {px : Pos} {scope : Scope} {cl : List (Str × Addr)} {pos : Pos} {l : List Int} {f : Int → Bool} {rest : Led} {Q : Value → Shared → Prop}
    (hh : A.handled = none)
    (hclos : closureFor scope env = pure cl) (hcell : ∀ z ∈ scope.names, z.2 ≠ .cell) (hkind : scope.kind = .function)
    (hnames : ∀ z ∈ scope.names, z.2 = .local → scope.names.lookup z.1 = some .local) (hx : scope.names.lookup x = some .local)
    (hlen : l.length ≤ 100)
    (hiter : wpAny (model prog w) A (eval iter env) (fun v s₁ => ∃ T its h1 tk, v = .ref T ∧ s₁ = { s with heap := h1, toks := tk } ∧ its.length = l.length ∧ (∀ (i : Nat) (k : Int), l[i]? = some k → ∃ t, its[i]? = some (.int k t)) ∧ Fr h₀ L h1 m ∧ News h₀ L h1 ((T, tupO its) :: rest)) E s)
    (turn : ∀ k ∈ l, ∀ (own : Led) (m₂ : Str → Option Value) (C : Addr) (oC : Obj) (u : Tok) (h : Heap) (tk : Nat), LCg.NsObj oC m₂ → m₂ x = some (.int k u) → Fr h₀ L h m →
      News h₀ L h ((C, oC) :: (own ++ rest)) →
      wpAny (model prog w) A (eval elt (compEnvC scope cl C env)) (fun v s₂ => v = .bool (f k) ∧ ∃ h' tk', s₂ = { s with heap := h', toks := tk' } ∧ Fr h₀ L h' m ∧ News h₀ L h' ((C, oC) :: (own ++ rest))) NoE { s with heap := h, toks := tk })
    (hQ : ∀ D h tk n, Fr h₀ L h m → News h₀ L h ((D, listOf (l.map fun c => Value.bool (f c)).toArray n) :: rest) → (∀ q ∈ rest, q.1 ≠ D) → Q (.ref D) { s with heap := h, toks := tk })
    (hs : ∀ x, foldedSetIterable iter env x = pure x := by intro _; rfl) :
    wpAny (model prog w) A (eval (.ListComp elt [⟨.Name x px, iter, [], 0⟩] scope pos) env) Q E s := by
  rw [eval_ListComp]
  refine wpAny_comprehension_free (use := none) rfl hs hclos hkind hnames (wpAny_mono hiter (fun xv s₁ h₁ => ?_) fun _ _ e => e)
  obtain ⟨T, its, h1, tk, rfl, rfl, hits, hats, F, N⟩ := h₁
  refine iter_tup F N (its := its.toArray) ⟨_, (N _ (.head _)).1, rfl, _, rfl⟩ ?_
  intro I oI h3 hI F3 N3 hneI
  refine wpAny_newObj_type (wpAny_newFunctionEnv hcell (by intro y hy; simp at hy) (fun h₁ hns₁ hsb₁ => ?_) hkind)
  dsimp only at hns₁ hsb₁ ⊢
  have N4 : News h₀ L (h3.push { cls := .type "list", data := .seq #[] }) ((h3.objs.size, listOf #[] 0) :: (I, oI) :: (T, tupO its) :: rest) := N3.push F3 _
  have F4 : Fr h₀ L (h3.push { cls := .type "list", data := .seq #[] }) m := F3.push _
  have hD0 : ∀ q ∈ ((I, oI) :: (T, tupO its) :: rest : Led), q.1 ≠ h3.objs.size := fun q hq => Nat.ne_of_lt (Heap.lt_size (N3 q hq).1)
  have hC0 : ∀ q ∈ ((h3.objs.size, listOf #[] 0) :: (I, oI) :: (T, tupO its) :: rest : Led), q.1 ≠ (h3.push { cls := .type "list", data := .seq #[] }).objs.size := fun q hq => Nat.ne_of_lt (Heap.lt_size (N4 q hq).1)
  have hLC : L ≠ (h3.push { cls := .type "list", data := .seq #[] }).objs.size := Nat.ne_of_lt F4.ns.lt
  have hC00 : h₀.get? (h3.push { cls := .type "list", data := .seq #[] }).objs.size = none := Heap.get?_none_of_le (Nat.le_of_lt (Nat.lt_of_le_of_lt F4.above F4.ns.lt))
  generalize (h3.push { cls := .type "list", data := .seq #[] }).objs.size = C at hns₁ hsb₁ hC0 hLC hC00 ⊢
  generalize hDe : h3.objs.size = D at N4 hD0 hC0 ⊢
  have old : ∀ b o, b ≠ C → (h3.push { cls := .type "list", data := .seq #[] }).get? b = some o → h₁.get? b = some o := fun b o hb e => hsb₁.extBut b o hb (Heap.get?_push_of_some _ e)
  obtain ⟨oC, hoC, hnC⟩ := LCg.ns_obj hns₁
  have F5 : Fr h₀ L h₁ m := by
    obtain ⟨oL, es, ep, e, r⟩ := F4.ns
    exact ⟨⟨oL, es, ep, old _ _ hLC e, r⟩, fun b o e => old b o (fun q => by rw [q, hC00] at e; cases e) (F4.keep b o e), F4.above⟩
  have N5 : News h₀ L h₁ ((I, oI) :: (C, oC) :: (D, listOf ([] : List Value).toArray 0) :: (T, tupO its) :: rest) := fun q hq => by
    simp only [List.mem_cons] at hq
    rcases hq with h | h | h | h | h
    · have z := N4 q (by rw [h]; exact .tail _ (.head _))
      exact ⟨old _ _ (hC0 q (by rw [h]; exact .tail _ (.head _))) z.1, z.2⟩
    · rw [h]; exact ⟨hoC, hLC.symm, hC00⟩
    · have z := N4 q (by rw [h]; exact .head _)
      exact ⟨old _ _ (hC0 q (by rw [h]; exact .head _)) z.1, z.2⟩
    · have z := N4 q (by rw [h]; exact .tail _ (.tail _ (.head _)))
      exact ⟨old _ _ (hC0 q (by rw [h]; exact .tail _ (.tail _ (.head _)))) z.1, z.2⟩
    · have z := N4 q (.tail _ (.tail _ (.tail _ h)))
      exact ⟨old _ _ (hC0 q (.tail _ (.tail _ (.tail _ h)))) z.1, z.2⟩
  have dID : I ≠ D := hD0 _ (.head _)
  have dIC : I ≠ C := hC0 _ (.tail _ (.head _))
  have dDC : D ≠ C := hC0 _ (.head _)
  have d1I : T ≠ I := hneI _ (.head _)
  have d1D : T ≠ D := hD0 (T, tupO its) (.tail _ (.head _))
  have d1C : T ≠ C := hC0 (T, tupO its) (.tail _ (.tail _ (.head _)))
  have drI : ∀ q ∈ rest, q.1 ≠ I := fun q hq => hneI q (.tail _ hq)
  have drD : ∀ q ∈ rest, q.1 ≠ D := fun q hq => hD0 q (.tail _ (.tail _ hq))
  have drC : ∀ q ∈ rest, q.1 ≠ C := fun q hq => hC0 q (.tail _ (.tail _ (.tail _ hq)))
  clear N4 F4 hD0 hC0 N3 F3 hneI N F hsb₁ hns₁ old hoC
  have loop : codeAny (model prog w) A (.compLoop (.ListComp elt [⟨.Name x px, iter, [], 0⟩] scope pos) 0 (.ref I) (.ref D) (compEnvC scope cl C env)) (compPost (model prog w) A E none Q (.ref D) C) { s with heap := h₁, toks := tk } := by
    refine codeAny_compLoop_tests (fun k s' => ∃ (i : Nat) (oI oC : Obj) (m' : Str → Option Value) (nD : Nat) (h : Heap) (tk : Nat), s' = { s with heap := h, toks := tk } ∧ i ≤ l.length ∧ k = l.length + 1 - i ∧ TupIt T i oI ∧ LCg.NsObj oC m' ∧
      Fr h₀ L h m ∧ News h₀ L h ((I, oI) :: (C, oC) :: (D, listOf ((l.take i).map fun c => Value.bool (f c)).toArray nD) :: (T, tupO its) :: rest)) ?_ (l.length + 1) ⟨0, oI, oC, _, 0, h₁, _, rfl, Nat.zero_le _, rfl, hI, hnC, F5, N5⟩
    clear N5 F5 hnC hI
    rintro k s' ⟨i, oI, oC, m', nD, h, tk, rfl, hi, rfl, hI, hnC, F, N⟩
    have hneI : ∀ q ∈ ((C, oC) :: (D, listOf ((l.take i).map fun c => Value.bool (f c)).toArray nD) :: (T, tupO its) :: rest : Led), q.1 ≠ I := by
      intro q hq
      simp only [List.mem_cons] at hq
      rcases hq with rfl | rfl | rfl | h
      · exact dIC.symm
      · exact dID.symm
      · exact d1I
      · exact drI q h
    have hT : h.IsTuple T its.toArray := ⟨_, (N (T, tupO its) (.tail _ (.tail _ (.tail _ (.head _))))).1, rfl, _, rfl⟩
    by_cases hlt : i < l.length
    · obtain ⟨u, hxi⟩ := hats i l[i] (List.getElem?_eq_getElem hlt)
      refine next_tup (s := { s with heap := h, toks := tk }) F N hneI hI hT (by simpa using hxi) ?_
      intro h' oI' hI' F6 N6
      dsimp only
      have hnsC : h'.Ns C m' := hnC.ns (N6 (C, oC) (.tail _ (.head _))).1
      refine wpAny_assign_Name (wpAny_storeName_local (lookup_relabel_local hx) hnsC (fun h₃ hn₃ hs₃ => ?_) (by simp [compEnvC, relabel, hkind]))
      refine wpAny_tests_nil ?_
      simp only [if_true]
      obtain ⟨oC', hoC', hnC'⟩ := LCg.ns_obj hn₃
      have zC := N6 (C, oC) (.tail _ (.head _))
      have F7 : Fr h₀ L h₃ m := F6.change hs₃ zC.2.1 zC.2.2
      have N7 : News h₀ L h₃ ((C, oC') :: ([(I, oI'), (D, listOf ((l.take i).map fun c => Value.bool (f c)).toArray nD), (T, tupO its)] ++ rest)) := fun q hq => by
        simp only [List.mem_cons, List.mem_append, List.not_mem_nil, or_false] at hq
        rcases hq with h | (h | h | h) | h
        · rw [h]; exact ⟨hoC', zC.2⟩
        · have z := N6 q (by rw [h]; exact .head _)
          exact ⟨hs₃.extBut _ _ (by rw [h]; exact dIC) z.1, z.2⟩
        · have z := N6 q (by rw [h]; exact .tail _ (.tail _ (.head _)))
          exact ⟨hs₃.extBut _ _ (by rw [h]; exact dDC) z.1, z.2⟩
        · have z := N6 q (by rw [h]; exact .tail _ (.tail _ (.tail _ (.head _))))
          exact ⟨hs₃.extBut _ _ (by rw [h]; exact d1C) z.1, z.2⟩
        · have z := N6 q (.tail _ (.tail _ (.tail _ (.tail _ h))))
          exact ⟨hs₃.extBut _ _ (drC q h) z.1, z.2⟩
      refine wpAny_mono (turn l[i] (List.getElem_mem hlt) _ _ C oC' u h₃ _ hnC' (by simp) F7 N7) (fun v s₂ hv => ?_) (fun _ _ e => e.elim)
      obtain ⟨rfl, h8, tk8, rfl, F8, N8⟩ := hv
      have zD := N8 (D, listOf ((l.take i).map fun c => Value.bool (f c)).toArray nD) (.tail _ (.tail _ (.head _)))
      refine append_at (s := { s with heap := h8, toks := tk8 }) (hsz := by rw [sizeLine_eq]; simp; omega) zD.1 fun h9 hs9 hD9 => ?_
      refine ⟨l.length + 1 - (i + 1), by omega, i + 1, oI', oC', _, nD + 1, h9, tk8, rfl, hlt, rfl, hI', hnC', F8.change hs9 zD.2.1 zD.2.2, fun q hq => ?_⟩
      have e9 : ((l.take i).map fun c => Value.bool (f c)).toArray.push (Value.bool (f l[i])) = ((l.take (i + 1)).map fun c => Value.bool (f c)).toArray := by
        rw [List.take_add_one, List.getElem?_eq_getElem hlt, Option.toList_some, List.map_append, List.push_toArray]; rfl
      simp only [List.mem_cons] at hq
      rcases hq with h | h | h | h | h
      · have z := N8 q (by rw [h]; exact .tail _ (.head _))
        exact ⟨hs9.extBut _ _ (by rw [h]; exact dID) z.1, z.2⟩
      · have z := N8 q (by rw [h]; exact .head _)
        exact ⟨hs9.extBut _ _ (by rw [h]; exact dDC.symm) z.1, z.2⟩
      · rw [h, ← e9]; exact ⟨hD9, zD.2⟩
      · have z := N8 q (by rw [h]; exact .tail _ (.tail _ (.tail _ (.head _))))
        exact ⟨hs9.extBut _ _ (by rw [h]; exact d1D) z.1, z.2⟩
      · have z := N8 q (.tail _ (.tail _ (.tail _ (.tail _ h))))
        exact ⟨hs9.extBut _ _ (drD q h) z.1, z.2⟩
    · have hil : i = l.length := by omega
      subst hil
      refine next_tup_end (s := { s with heap := h, toks := tk }) hh F N hneI hI hT (by simp; omega) ?_
      intro h4 F6 N6
      rw [List.take_length] at N6
      refine ⟨m', hnC.ns (N6 _ (.head _)).1, fun h'' hs'' => hQ D h'' _ nD (F6.change hs'' hLC.symm hC00) (fun q hq => ?_) drD⟩
      rcases List.mem_cons.mp hq with h | hq
      · have z := N6 q (by rw [h]; exact .tail _ (.head _))
        exact ⟨hs''.extBut _ _ (by rw [h]; exact dDC) z.1, z.2⟩
      · have z := N6 q (.tail _ (.tail _ (.tail _ hq)))
        exact ⟨hs''.extBut _ _ (drC q hq) z.1, z.2⟩
  exact codeAny_compStart_list loop (self_tup (s := { s with heap := h₁, toks := tk }) (N5 _ (.head _)).1 hI loop)
theorem lay_bools : ∀ ns : List Bool, PyData.canLayAll0 (ns.map PyData.bool) = true
  | [] => rfl
  | _ :: r => by simp [PyData.canLayAll0, PyData.canLay0, lay_bools r]
theorem depth_bools : ∀ ns : List Bool, PyData.depthAll (ns.map PyData.bool) = 0
  | [] => rfl
  | _ :: r => by simp [PyData.depthAll, PyData.depth, depth_bools r]
theorem shaped_bools (ns : List Bool) : SeqAt.shaped (.list (ns.map PyData.bool)) = true := by
  simp [SeqAt.shaped, PyData.canLay0, PyData.depth, lay_bools, depth_bools]
theorem same_bools : ∀ ns : List Bool, PySem.Spec.sameAll (ns.map PyData.bool) (ns.map PyData.bool) = true
  | [] => by simp [PySem.Spec.sameAll]
  | a :: r => by simp [PySem.Spec.sameAll, PySem.Spec.same, same_bools r]
theorem carried_bools : ∀ (ns : List Bool), CarriedAll (ns.map Value.bool) (ns.map PyData.bool)
  | [] => .nil
  | _ :: r => .cons (.bool _) (carried_bools r)
theorem ne_bools {a b : Addr} {xs : List Bool} {Q : Value → Shared → Prop} (ha : s.heap.IsList a (xs.map Value.bool).toArray) (hb : s.heap.IsList b (xs.map Value.bool).toArray) (hu : A.units + 64 < cLine) (h : Q (.bool false) s) :
    wpAny (model prog w) A (compareOp .NotEq (.ref a) (.ref b)) Q E s :=
  ne_dataH_same (reads_newData ha (carried_bools xs)) (reads_newData hb (carried_bools xs)) (shaped_bools _) (shaped_bools _) hu (SeqAt.noMix_of_shape (.list .bool) rfl _ _ (list_map_has fun _ => rfl) (list_map_has fun _ => rfl)) (by show Q (.bool (!PySem.Spec.same (.list _) (.list _))) s; rw [PySem.Spec.same, same_bools]; exact h)
end
end Mine
end
section
open PySem PySem.W PyProof.Rows PySem.Calls PySem.Spec
set_option maxRecDepth 100000
set_option maxHeartbeats 2000000
namespace Mine
section
variable {w : World} {p : Program} {loose : List Str} {mean : ExcName → Option Value} {mg mb : Str → Option Value}
theorem lines_LF1 : True := by
  k_with_none
  k_with "my mem" => assumption
  k_with "my all" => assumption
  k_with "my steps" => repeat' ((fail_if_success (with_reducible show wpAny _ _ (eval (Expr.ListComp _ _ _ _) _) _ _ _)); (fail_if_success (with_reducible show wpAny _ _ (compareOp _ (Value.ref _) (Value.ref _)) _ _ _)); (fail_if_success (with_reducible show wpAny _ _ (exec (Stmt.For _ _ _ _ _) _) _ _ _)); (fail_if_success (with_reducible show wpAny _ _ (call (Value.ref _) _) _ _ _)); (fail_if_success (with_reducible show wpAny _ _ (truthy (Value.ref _)) _ _ _)); first | walk1 | (dsimp only; walk1) | (leave1; walk_say "STEP leave1"; try dsimp only) | fail "no step")
  k_with "my ite" => first | with_reducible refine ite_tt ?_ | with_reducible refine ite_ff ?_ | (refine ite_neg (by simp) ?_)
  k_with "my exec If" => refine wpAny_If ?_
  k_with "my binaryOp Add str str" => (refine add_S rfl lit_s (by simp) ?_; intro _ _)
  k_with "my room" => ((try simp only [depth_under_make, depth_under_kw, depth_in1, depth_deeper, depth_caller]); (try dsimp only [ktrTop]); omega)
  trivial
theorem put_self {m : Str → Option Value} {y : Str} {v : Value} (h : m y = some v) : (fun z => if z = y then some v else m z) = m := by
  funext z
  split
  · rename_i e
    rw [e, h]
  · rfl
theorem fdiv12 {x : Int} (h : 0 ≤ x) : x.fdiv (2 ^ Int.toNat 12) = x / 4096 := by
  rw [Int.fdiv_eq_ediv_of_nonneg _ (by decide)]; rfl
theorem law_if1 {scope : Scope} {ss : List Stmt} (hlaw : LawAt (hd0.heap_1 w.params) scope ss) {s0 s1 s2 s3 b0 b1 b2 b3 b4 st : Stmt} {tgt iter : Expr} {orelse bmore more : List Stmt} {pos : Pos} (hss : ss = s0 :: s1 :: s2 :: s3 :: .For tgt iter (b0 :: b1 :: b2 :: b3 :: b4 :: st :: bmore) orelse pos :: more)
    {dp un : Nat} {gd : Option (List Code)} {L a : Addr} {ccd : Value} {cl : List (Str × Addr)} {outer : List Env} {A₀ : Around} {base g : Heap} {m : Str → Option Value} {s : Shared} {Q : Flow → Shared → Prop}
    {cR cA D : Addr} {oA : Obj} {ta : Tok} {asked : Int} {bs : List Value} {n : Nat} {rest : Led}
    (B : Below A₀ base outer g) (F : Fr g L s.heap m) (X : (hd0.heap_1 w.params).In g) (T : Top p loose mean mg mb g) (hdp : dp + 40 < recursionLimit) (hu : un + 10 * 40 < cLine)
    (hcl : cl = [(Str.ofString "row", cR), (Str.ofString "asked", cA)]) (N : News g L s.heap rest) (hD : (D, listOf bs.toArray n) ∈ rest) (hoA : (cA, oA) ∈ rest) (hdA : oA.data = .cell (some (.int asked ta)))
    (ha0 : 0 ≤ asked) (ha1 : asked < 65536) (hv : m "shown" = some (.ref D)) (hbs : bs = [1, 2, 4, 6, 8, 10, 12].map fun k : Int => Value.bool (asked / 4096 == k))
    (hQ : ∀ h tk, Fr g L h m → News g L h rest → Q .next { s with heap := h, toks := tk }) :
    wpAny (model PySem.Challenge.rw_in0284_01.row.prog w) (ktrTop dp un gd "law" scope L a ccd cl outer) (exec st (envX "law" scope L a ccd cl)) Q NoE s := by
  revert hlaw X hss
  k_fill
  intro hlaw hss X
  revert hss
  refine law_lit (P := fun scope ss => ss = s0 :: s1 :: s2 :: s3 :: .For tgt iter (b0 :: b1 :: b2 :: b3 :: b4 :: st :: bmore) orelse pos :: more → wpAny (model PySem.Challenge.rw_in0284_01.row.prog w) (ktrTop dp un gd "law" scope L a ccd cl outer) (exec st (envX "law" scope L a ccd cl)) Q NoE s) hlaw (by k_is) ?_
  intro hss
  cases hss
  subst hcl
  replace F := fr_puts F [("shown", .ref D)] (List.forall_mem_cons.mpr ⟨hv, List.forall_mem_nil _⟩)
  dsimp only [kstB] at F
  k_steps
  refine comp_ints (l := [1, 2, 4, 6, 8, 10, 12]) (f := fun k => asked / 4096 == k) (cl := [(Str.ofString "asked", cA)]) (rest := rest) (m := fun z => if z = "shown" then some (.ref D) else m z) (h₀ := g) (L := L) rfl (by with_unfolding_all rfl) (by decide) rfl (by decide) rfl (by simp) ?_ ?_ ?_
  · refine hide_post fun P hP => ?_
    k_steps
    refine hP _ _ ⟨_, _, _, _, rfl, rfl, rfl, fun i k h => ?_, by assumption, by assumption⟩
    match i, h with
    | 0, h | 1, h | 2, h | 3, h | 4, h | 5, h | 6, h => cases h; exact ⟨_, rfl⟩
    | i + 7, h => simp at h
  · intro k hk own m₂ C oC u h tk hnC hm2 F2 N2
    have hk1 : 1 ≤ k ∧ k ≤ 12 := by
      simp only [List.mem_cons, List.not_mem_nil, or_false] at hk
      omega
    have mC : (C, oC) ∈ ((C, oC) :: (own ++ rest) : Led) := .head _
    have mA : (cA, oA) ∈ ((C, oC) :: (own ++ rest) : Led) := .tail _ (List.mem_append_right _ hoA)
    clear F N hv
    refine hide_post fun P hP => ?_
    k_steps
    rw [fdiv12 ha0]
    exact hP _ _ ⟨rfl, _, _, rfl, by assumption, by assumption⟩
  · intro D2 h2 tk2 n2 F2 N2 hne2
    clear F N
    k_steps
    rename Fr _ _ _ _ => F9
    rename News _ _ _ _ => N9
    refine ne_bools (xs := [1, 2, 4, 6, 8, 10, 12].map fun k : Int => (asked / 4096 == k)) (isList_of N9 (.tail _ (by rw [hbs] at hD; exact hD))) (isList_of N9 (.head _)) (by show un + 64 < cLine; omega) ?_
    k_steps
    rw [put_self hv] at F9
    exact hQ _ _ F9 (news_sub N9 fun q hq => .tail _ hq)
end
end Mine
end
section
open PySem PySem.W PyProof.Rows PySem.Calls PySem.Spec
set_option maxRecDepth 100000
set_option maxHeartbeats 2000000
namespace Mine
section
variable {w : World} {p : Program} {loose : List Str} {mean : ExcName → Option Value} {mg mb : Str → Option Value}
theorem lines_LG1 : True := by
  k_with_none
  k_with "my mem" => assumption
  k_with "my all" => assumption
  k_with "my steps" => repeat' ((fail_if_success (with_reducible show wpAny _ _ (eval (Expr.ListComp _ _ _ _) _) _ _ _)); (fail_if_success (with_reducible show wpAny _ _ (compareOp _ (Value.ref _) (Value.ref _)) _ _ _)); (fail_if_success (with_reducible show wpAny _ _ (exec (Stmt.For _ _ _ _ _) _) _ _ _)); (fail_if_success (with_reducible show wpAny _ _ (truthy (Value.ref _)) _ _ _)); first | walk1 | (dsimp only; walk1) | (dsimp only [List.cons_append, List.nil_append]; walk1) | (leave1; walk_say "STEP leave1"; try dsimp only) | fail "no step")
  k_with "my ite" => first | with_reducible refine ite_tt ?_ | with_reducible refine ite_ff ?_ | (refine ite_neg (by simp) ?_)
  k_with "my exec If" => refine wpAny_If ?_
  k_with "my binaryOp Add str str" => (refine add_S rfl lit_s (by simp) ?_; intro _ _)
  k_with "my room" => ((try simp only [depth_under_make, depth_under_kw, depth_in1, depth_deeper, depth_caller]); (try dsimp only [ktrTop]); omega)
  k_with "ev op" => first | exact Op2.addi | exact Op2.subi | exact Op2.modi (by decide) | exact Op2.andi
  k_with "ev at" => fail "no item"
  k_with "ev" => first
    | ((with_reducible show Ev _ (Expr.Name _ _) _ _ _); exact Ev.name (by k_asm) (by rfl) (by rfl) (by rfl) (by decide))
    | ((with_reducible show Ev _ (Expr.Constant _ _ _) _ _ _); first | exact Ev.int | exact Ev.strc | exact Ev.boolc | exact Ev.nonec)
    | ((with_reducible show Ev _ (Expr.BinOp _ _ _ _) _ _ _); exact Ev.bin (by k_extra "ev") (by k_extra "ev") (by k_extra "ev op"))
    | ((with_reducible show Ev _ (Expr.Subscript _ (Expr.Name _ _) _) _ _ _); exact Ev.item (by k_extra "ev") (by k_extra "ev") (by omega) (by k_extra "ev at") (by first | omega | simp) (by with_unfolding_all rfl) (by intro _; with_unfolding_all rfl))
    | ((with_reducible show Ev _ (Expr.Subscript _ (Expr.Constant _ _ _) _) _ _ _); exact Ev.item (by k_extra "ev") (by k_extra "ev") (by decide) (by first | rfl | k_extra "ev at") (by first | omega | simp) (by with_unfolding_all rfl) (by intro _; with_unfolding_all rfl))
    | ((with_reducible show Ev _ (Expr.IfExp _ _ _ _) _ _ _); exact Ev.ifexp (by k_extra "tr") (by first | exact EvB.t (by k_extra "ev") | exact EvB.f (by k_extra "ev")))
  k_with "evl" => first
    | exact EvL.nil
    | ((with_reducible show EvL _ (_ :: _) _ _ _); exact EvL.cons (by k_extra "ev") (by k_extra "evl") (by rfl))
  k_with "ev dec" => first | exact dT (by omega) | exact dF (by omega)
  k_with "ev sdec" => first | with_reducible assumption | exact asF (by decide +kernel) | exact asT (by decide +kernel)
  k_with "ev cmp" => first
    | ((with_reducible show Cm2 _ _ (Value.str _ _) (Value.str _ _) _ _); first
      | ((with_reducible show Cm2 _ CmpOp.Eq _ _ _ _); exact Cm2.eqs (by k_extra "ev sdec"))
      | ((with_reducible show Cm2 _ CmpOp.NotEq _ _ _ _); exact Cm2.nes (by k_extra "ev sdec"))
      | ((with_reducible show Cm2 _ CmpOp.NotIn _ _ _ _); exact Cm2.notins (by k_extra "ev sdec")))
    | ((with_reducible show Cm2 _ _ (Value.int _ _) (Value.int _ _) _ _); first
      | ((with_reducible show Cm2 _ CmpOp.Lt _ _ _ _); exact Cm2.lti (by k_extra "ev dec"))
      | ((with_reducible show Cm2 _ CmpOp.GtE _ _ _ _); exact Cm2.gei (by k_extra "ev dec"))
      | ((with_reducible show Cm2 _ CmpOp.Eq _ _ _ _); exact Cm2.eqi (by k_extra "ev dec")))
  k_with "trb" => first
    | exact TrAB.f
    | ((with_reducible show TrAB _ _ _ true _ _); exact TrAB.t (by k_extra "tra"))
  k_with "tra" => first
    | exact TrA.nil
    | ((with_reducible show TrA _ (_ :: _) _ _ _); exact TrA.cons (by k_extra "tr") (by k_extra "trb"))
  k_with "tr" => first
    | ((with_reducible show Tr _ (Expr.Compare _ [_] [_] _) _ _ _); exact Tr.cmp (by k_extra "ev") (by k_extra "ev") (by k_extra "ev cmp") (by with_unfolding_all rfl))
    | ((with_reducible show Tr _ (Expr.BoolOp BoolOp.And _ _) _ _ _); exact Tr.and (by k_extra "tra"))
    | ((with_reducible show Tr _ (Expr.UnaryOp UnaryOp.Not _ _) _ _ _); exact Tr.not (by k_extra "tr") (by rfl))
    | exact Tr.boolc
    | ((with_reducible show Tr _ (Expr.Name _ _) _ _ _); exact Tr.strp (by k_extra "ev") (by with_reducible rfl) (by first | omega | simp) (by first | rfl | (refine asT ?_; simp)) (by rfl))
  k_with "my execs cons" => (fail_if_success have : Mine.Full := trivial); first
    | ((with_reducible show wpAny _ _ (execs (Stmt.Assign [Expr.Name _ _] _ _ :: _) _) _ _ _); (fail_if_success (with_reducible show wpAny _ _ (execs (Stmt.Assign _ (Expr.Call _ _ _ _) _ :: _) _) _ _ _)); (fail_if_success (with_reducible show wpAny _ _ (execs (Stmt.Assign _ (Expr.Subscript _ (Expr.Slice _ _ _ _) _) _ :: _) _) _ _ _)); k_dflt (refine st_assign (by k_extra "ev") (by k_asm) (by k_asm) ?_ (by rfl) (by rfl) (by rfl)); intro _ _ _; (try k_sweep))
    | ((with_reducible show wpAny _ _ (execs (Stmt.If _ _ _ _ :: _) _) _ _ _); k_dflt (refine st_if (by k_extra "tr") ?_); dsimp only [pick, glue])
    | ((with_reducible show wpAny _ _ (execs (Stmt.Assign [Expr.Name _ _] _ _ :: _) _) _ _ _); k_dflt (refine st_assignC ?_ (by rfl)))
    | ((with_reducible show wpAny _ _ (execs (Stmt.Expr _ _ :: _) _) _ _ _); k_dflt (refine st_expr ?_ (by rfl) (by rfl)))
    | ((with_reducible show wpAny _ _ (execs (Stmt.Return (some _) _ :: _) _) _ _ _); k_dflt (refine st_ret ?_))
  k_with "my storeName" => ((fail_if_success have : Mine.Full := trivial); k_dflt (refine storeP (by k_asm) (by k_asm) ?_ (by rfl) (by rfl)); intro _ _ _; (try k_sweep))
  k_with "my isTrue Compare" => ((fail_if_success have : Mine.Full := trivial); k_dflt (refine tr_use (by k_extra "tr") ?_); (try dsimp only))
  k_with "my isTrue BoolOp" => ((fail_if_success have : Mine.Full := trivial); (with_reducible show wpAny _ _ (isTrue (Expr.BoolOp BoolOp.And (_ :: _ :: _) _) _ _) _ _ _); k_dflt (refine tr_use (by k_extra "tr") ?_); (try dsimp only))
  k_with "my spliced" => ((fail_if_success have : Mine.Full := trivial); (with_reducible show wpAny _ _ (spliced (backTo _ (starEach (_ :: _) _))) _ _ _); k_dflt (refine args_ev (by k_extra "evl") ?_); (try dsimp only [List.cons_append, List.nil_append]))
  k_with "my eval Subscript" => ((fail_if_success have : Mine.Full := trivial); (with_reducible show wpAny _ _ (eval (Expr.Subscript _ (Expr.Slice _ _ none _) _) _) _ _ _); k_dflt (refine sub_slice (by k_extra "ev") (by first | exact EvP.none | exact EvP.some (by k_extra "ev")) (by first | exact EvP.none | exact EvP.some (by k_extra "ev")) ?_))
  trivial
theorem law_if2 {scope : Scope} {ss : List Stmt} (hlaw : LawAt (hd0.heap_1 w.params) scope ss) {s0 s1 s2 s3 b0 b1 b2 b3 b4 b5 st : Stmt} {tgt iter : Expr} {orelse bmore more : List Stmt} {pos : Pos} (hss : ss = s0 :: s1 :: s2 :: s3 :: .For tgt iter (b0 :: b1 :: b2 :: b3 :: b4 :: b5 :: st :: bmore) orelse pos :: more)
    {dp un : Nat} {gd : Option (List Code)} {L a : Addr} {ccd : Value} {cl : List (Str × Addr)} {outer : List Env} {A₀ : Around} {base g : Heap} {m : Str → Option Value} {s : Shared} {Q : Flow → Shared → Prop}
    {cR cA D : Addr} {oA : Obj} {ta : Tok} {asked : Int} {bs : List Value} {n : Nat} {rest : Led}
    (B : Below A₀ base outer g) (F : Fr g L s.heap m) (X : (hd0.heap_1 w.params).In g) (T : Top p loose mean mg mb g) (hdp : dp + 40 < recursionLimit) (hu : un + 10 * 40 < cLine)
    (hcl : cl = [(Str.ofString "row", cR), (Str.ofString "asked", cA)]) (N : News g L s.heap rest) (hD : (D, listOf bs.toArray n) ∈ rest) (hoA : (cA, oA) ∈ rest) (hdA : oA.data = .cell (some (.int asked ta)))
    (ha0 : 0 ≤ asked) (ha1 : asked < 65536) (hv : m "shown" = some (.ref D)) (hbs : bs = [4096, 8192, 16384, 24576, 32768, 40960, 49152].map fun k : Int => Value.bool (Builtin.bitAnd asked 61440 == k))
    (hQ : ∀ h tk, Fr g L h m → News g L h rest → Q .next { s with heap := h, toks := tk }) :
    wpAny (model PySem.Challenge.rw_in0284_01.row.prog w) (ktrTop dp un gd "law" scope L a ccd cl outer) (exec st (envX "law" scope L a ccd cl)) Q NoE s := by
  revert hlaw X hss
  k_fill
  intro hlaw hss X
  revert hss
  refine law_lit (P := fun scope ss => ss = s0 :: s1 :: s2 :: s3 :: .For tgt iter (b0 :: b1 :: b2 :: b3 :: b4 :: b5 :: st :: bmore) orelse pos :: more → wpAny (model PySem.Challenge.rw_in0284_01.row.prog w) (ktrTop dp un gd "law" scope L a ccd cl outer) (exec st (envX "law" scope L a ccd cl)) Q NoE s) hlaw (by k_is) ?_
  intro hss
  cases hss
  subst hcl
  replace F := fr_puts F [("shown", .ref D)] (List.forall_mem_cons.mpr ⟨hv, List.forall_mem_nil _⟩)
  dsimp only [kstB] at F
  k_steps
  rename Fr _ _ _ _ => F9
  rename News _ _ _ _ => N9
  refine ne_bools (xs := [4096, 8192, 16384, 24576, 32768, 40960, 49152].map fun k : Int => (Builtin.bitAnd asked 61440 == k)) (isList_of N9 (.tail _ (by rw [hbs] at hD; exact hD))) (isList_of N9 (.head _)) (by show un + 64 < cLine; omega) ?_
  k_steps
  rename Fr _ _ _ _ => F9
  rename News _ _ _ _ => N9
  rw [put_self hv] at F9
  exact hQ _ _ F9 (news_sub N9 fun q hq => .tail _ hq)
end
end Mine
end
section
open PySem PySem.W PyProof.Rows PySem.Calls PySem.Spec
set_option maxRecDepth 100000
set_option maxHeartbeats 2000000
namespace Mine
theorem put_ne {m : Str → Option Value} {y z : Str} {v o : Option Value} (h : z ≠ y) (e : m z = o) : (fun u => if u = y then v else m u) z = o := by
  show (if z = y then v else m z) = o
  rw [if_neg h]; exact e
noncomputable def Fits (mode : Int) (nums : List Int) (asked : Int) : Prop :=
  (0 ≤ asked ∧ asked < 65536) ∧ (∀ n ∈ nums, reach (ruleOf mode n).1 (fm asked) = told asked (otherOf mode n) n) ∧ (∀ r ∈ nums.map (ruleOf mode), 0 ≤ reach r.1 (fm asked) ∧ reach r.1 (fm asked) ≤ 100) ∧
  allowFrom (fm asked) (nums.map (ruleOf mode)) (-1) true = rightOf (toldL asked mode nums) ∧ allowFrom (fm asked) (nums.map (ruleOf mode)).reverse (-1) true = rightOf (toldL asked mode nums) ∧
  (kinds7.map fun c => Value.bool (shownOf (fm asked) c)) = ([1, 2, 4, 6, 8, 10, 12].map fun k : Int => Value.bool (asked / 4096 == k)) ∧
  (kinds7.map fun c => Value.bool (shownOf (fm asked) c)) = ([4096, 8192, 16384, 24576, 32768, 40960, 49152].map fun k : Int => Value.bool (Builtin.bitAnd asked 61440 == k))
theorem toldL_len (asked mode : Int) : ∀ l : List Int, (toldL asked mode l).length ≤ l.length
  | [] => Nat.le_refl _
  | n :: r => by
    have := toldL_len asked mode r
    unfold toldL
    split <;> simp only [List.length_cons] <;> omega
noncomputable def J3 (g : Heap) (L cA cR I Dt : Addr) (tup : Obj) (asks : List Int) (mode : Int) (um : Tok) (recX turX Rs : Addr) (rest : Led) (r : List Int) (h : Heap) : Prop :=
  ∃ (i : Nat) (oI oA oR : Obj) (vA vR : Option Value) (mm : Str → Option Value) (tab : Array Value), asks.drop i = r ∧ i + r.length = asks.length ∧ TupIt Dt i oI ∧ oA.data = .cell vA ∧ oR.data = .cell vR ∧ TabFine tab ∧
    mm "record" = some (.ref recX) ∧ mm "turned" = some (.ref turX) ∧ mm "rules" = some (.ref Rs) ∧ Fr g L h mm ∧ News g L h ((cA, oA) :: (cR, oR) :: (I, oI) :: (153, tabObj tab) :: (Dt, tup) :: rest)
section
variable {w : World} {p : Program} {loose : List Str} {mean : ExcName → Option Value} {mg mb : Str → Option Value}
theorem lines_LH1 : True := by
  k_with_none
  k_with "my mem" => assumption
  k_with "my all" => assumption
  k_with "my steps" => repeat' ((fail_if_success (with_reducible show wpAny _ _ (exec (Stmt.For _ _ _ _ _) _) _ _ _)); (fail_if_success (with_reducible show wpAny _ _ (exec (Stmt.If _ _ _ _) _) _ _ _)); (fail_if_success (with_reducible show wpAny _ _ (exec (Stmt.Assign [Expr.Name _ _] _ _) _) _ _ _)); (fail_if_success (with_reducible show wpAny _ _ (call (Value.ref _) _) _ _ _)); (fail_if_success (with_reducible show wpAny _ _ (storeName _ (Str.ofString "row") _) _ _ _)); (fail_if_success (with_reducible show wpAny _ _ (storeName _ (Str.ofString "asked") _) _ _ _)); first | walk1 | (dsimp only; walk1) | (leave1; walk_say "STEP leave1"; try dsimp only) | fail "no step")
  k_with "my eval Name" => first | (k_dflt (refine' nameX_L ?F ?v ?_ ?a ?b; (case F => k_asm); (case a => rfl); (case b => rfl); (case v => rfl); k_whole)) | (k_dflt (refine nameX_C (by k_asm) (by with_reducible assumption) (by with_reducible assumption) (by with_reducible assumption) ?_)) | (k_dflt (refine nameX_L (by k_asm) (by with_reducible assumption) ?_))
  k_with "my room" => ((try simp only [depth_under_make, depth_under_kw, depth_in1, depth_deeper, depth_caller]); (try dsimp only [ktrTop]); omega)
  trivial
theorem law_loop2 {scope : Scope} {ss : List Stmt} (hlaw : LawAt (hd0.heap_1 w.params) scope ss) {s0 s1 s2 s3 st : Stmt} {more : List Stmt} (hss : ss = s0 :: s1 :: s2 :: s3 :: st :: more)
    {dp un : Nat} {gd : Option (List Code)} {L a : Addr} {ccd : Value} {cl : List (Str × Addr)} {outer : List Env} {A₀ : Around} {base g : Heap} {m : Str → Option Value} {s : Shared} {Q : Flow → Shared → Prop}
    {cR cA recX recD turX turD ua ub Rr Tr Rs : Addr} {oR oA : Obj} {vA vR : Option Value} {um e1 e2 e3 e4 f1 f2 f3 f4 : Tok} {mode : Int} {nums : List Int} {vals tups : List Value} {n1 n2 n3 : Nat} {rest : Led} {tab : Array Value}
    (B : Below A₀ base outer g) (F : Fr g L s.heap m) (X : (hd0.heap_1 w.params).In g) (T : Top p loose mean mg mb g) (hdp : dp + 40 < recursionLimit) (hu : un + 10 * 40 < cLine) (hgens : AllBare s.gens)
    (hcl : cl = [(Str.ofString "row", cR), (Str.ofString "asked", cA)]) (N : News g L s.heap ((cA, oA) :: (cR, oR) :: (153, tabObj tab) :: rest)) (hAR : cA ≠ cR) (h153 : cA ≠ 153 ∧ cR ≠ 153) (hoff : Off [cA, cR, 153] rest) (htab : TabFine tab)
    (hdA : oA.data = .cell vA) (hdR : oR.data = .cell vR)
    (c1 : (recX, instObj 203 recD) ∈ rest) (c2 : (recD, dictOf (entEs w ua Rr e1 e2 e3 e4) 4) ∈ rest) (c3 : (turX, instObj 203 turD) ∈ rest) (c4 : (turD, dictOf (entEs w ub Tr f1 f2 f3 f4) 4) ∈ rest)
    (c5 : (Rr, listOf vals.toArray n1) ∈ rest) (c6 : (Tr, listOf vals.reverse.toArray n2) ∈ rest) (c7 : (Rs, listOf tups.toArray n3) ∈ rest) (htups : TupsIn rest tups vals mode nums) (hrules : RulesIn w p loose mean mg mb rest vals (nums.map (ruleOf mode)))
    (hfit : ∀ asked ∈ [mode, Builtin.bitXor mode 8465], Fits mode nums asked) (hnums : ∀ n ∈ nums, 0 ≤ n ∧ n < 10000000000) (hlen : nums.length ≤ 100) (hm0 : 0 ≤ mode) (hm1 : mode < 65536)
    (hv1 : m "mode" = some (.int mode um)) (hv2 : m "record" = some (.ref recX)) (hv3 : m "turned" = some (.ref turX)) (hv4 : m "rules" = some (.ref Rs))
    (hQ : ∀ h gs dr tk mm tab', AllBare gs → Fr g L h mm → News g L h ((153, tabObj tab') :: rest) → Q .next { heap := h, gens := gs, drawn := dr, toks := tk, os := s.os }) :
    wpAny (model PySem.Challenge.rw_in0284_01.row.prog w) (ktrTop dp un gd "law" scope L a ccd cl outer) (exec st (envX "law" scope L a ccd cl)) Q NoE s := by
  revert hlaw X hss
  k_fill
  intro hlaw hss X
  revert hss
  refine law_lit (P := fun scope ss => LawAt (hd0.heap_1 w.params) scope ss → ss = s0 :: s1 :: s2 :: s3 :: st :: more → wpAny (model PySem.Challenge.rw_in0284_01.row.prog w) (ktrTop dp un gd "law" scope L a ccd cl outer) (exec st (envX "law" scope L a ccd cl)) Q NoE s) hlaw (by k_is) ?_ hlaw
  clear hlaw
  intro hlaw hss
  cases hss
  subst hcl
  refine for_do ?_
  replace F := fr_puts F [("mode", .int mode um), ("record", .ref recX), ("turned", .ref turX), ("rules", .ref Rs)] (List.forall_mem_cons.mpr ⟨hv1, List.forall_mem_cons.mpr ⟨hv2, List.forall_mem_cons.mpr ⟨hv3, List.forall_mem_cons.mpr ⟨hv4, List.forall_mem_nil _⟩⟩⟩⟩)
  dsimp only [kstB] at F
  k_steps
  rename Fr _ _ _ _ => F9
  rename News _ _ _ _ => N9
  rename_i Dt h9 l1
  obtain ⟨lA, lR, l1, lr⟩ := l1
  replace lr := allLt_mem lr
  obtain ⟨tx, hits⟩ : ∃ tx, tx = s.toks + 1 := ⟨_, rfl⟩
  rw [← hits] at N9
  clear hits
  generalize htup : (tupO [.int mode um, .int (Builtin.bitXor mode 8465) tx]) = tup
  replace N9 : News g L h9 ((Dt, tup) :: (cA, oA) :: (cR, oR) :: (153, tabObj tab) :: rest) := by rw [← htup]; exact N9
  have hT : ∀ h : Heap, h.get? Dt = some tup → h.IsTuple Dt [Value.int mode um, .int (Builtin.bitXor mode 8465) tx].toArray := fun h e => ⟨_, e, by rw [← htup], _, by rw [← htup]⟩
  refine iter_tup F9 N9 (hT _ (N9 _ (.head _)).1) ?_
  intro I oI h3 hI F3 N3 hneI
  have hneD : ∀ q ∈ ((cA, oA) :: (cR, oR) :: (153, tabObj tab) :: rest : Led), q.1 ≠ Dt := by
    intro q hq
    simp only [List.mem_cons] at hq
    rcases hq with rfl | rfl | rfl | h
    · exact Nat.ne_of_lt lA
    · exact Nat.ne_of_lt lR
    · exact Nat.ne_of_lt l1
    · exact Nat.ne_of_lt (lr q h)
  have dAI : cA ≠ I := hneI (cA, oA) (.tail _ (.head _))
  have dRI : cR ≠ I := hneI (cR, oR) (.tail _ (.tail _ (.head _)))
  have d1I : (153 : Addr) ≠ I := hneI (153, tabObj tab) (.tail _ (.tail _ (.tail _ (.head _))))
  have dDI : Dt ≠ I := hneI _ (.head _)
  have drI : ∀ q ∈ rest, q.1 ≠ I := fun q hq => hneI q (.tail _ (.tail _ (.tail _ (.tail _ hq))))
  have dAD : cA ≠ Dt := hneD (cA, oA) (.head _)
  have dRD : cR ≠ Dt := hneD (cR, oR) (.tail _ (.head _))
  have d1D : (153 : Addr) ≠ Dt := hneD (153, tabObj tab) (.tail _ (.tail _ (.head _)))
  refine for_indNG (J := J3 g L cA cR I Dt tup [mode, Builtin.bitXor mode 8465] mode um recX turX Rs rest) [mode, Builtin.bitXor mode 8465] hgens ⟨0, oI, oA, oR, vA, vR, _, tab, rfl, rfl, hI, hdA, hdR, htab, rfl, rfl, rfl, F3, news_sub N3 fun q hq => ?_⟩ ?_ ?_
  · simp only [List.mem_cons] at hq ⊢
    rcases hq with h | h | h | h | h | h
    · exact .inr (.inr (.inl h))
    · exact .inr (.inr (.inr (.inl h)))
    · exact .inl h
    · exact .inr (.inr (.inr (.inr (.inl h))))
    · exact .inr (.inl h)
    · exact .inr (.inr (.inr (.inr (.inr h))))
  · clear F9 N9 F3 N3 hI hneI hneD htab hdA hdR hgens
    rintro asked r h gs dr tk hgs ⟨i, oI, oA, oR, vA, vR, mm, tab, hdr, hil, hI, hdA, hdR, htab, g2, g3, g4, F, N⟩
    have hx : [mode, Builtin.bitXor mode 8465][i]? = some asked := by rw [← List.head?_drop, hdr]; rfl
    have hdk : [mode, Builtin.bitXor mode 8465].drop (i + 1) = r := by
      have := congrArg List.tail hdr
      rw [List.tail_drop] at this
      exact this
    have hil' : i + 1 + r.length = [mode, Builtin.bitXor mode 8465].length := by simp only [List.length_cons] at hil ⊢; omega
    obtain ⟨ta, hta⟩ : ∃ ta, [Value.int mode um, .int (Builtin.bitXor mode 8465) tx].toArray[i]? = some (.int asked ta) := by
      match i, hx with
      | 0, h => cases h; exact ⟨_, rfl⟩
      | 1, h => cases h; exact ⟨_, rfl⟩
      | i + 2, h => simp at h
    obtain ⟨⟨ha0, ha1⟩, fit1, fit2, fit3, fit4, fit5, fit6⟩ := hfit asked (List.mem_of_getElem? hx)
    have hneI : ∀ q ∈ ((cA, oA) :: (cR, oR) :: (153, tabObj tab) :: (Dt, tup) :: rest : Led), q.1 ≠ I := by
      intro q hq
      simp only [List.mem_cons] at hq
      rcases hq with rfl | rfl | rfl | rfl | h
      · exact dAI
      · exact dRI
      · exact d1I
      · exact dDI
      · exact drI q h
    replace N := news_sub (l' := (I, oI) :: (cA, oA) :: (cR, oR) :: (153, tabObj tab) :: (Dt, tup) :: rest) N fun q hq => by
      simp only [List.mem_cons] at hq ⊢
      rcases hq with h | h | h | h | h | h
      · exact .inr (.inr (.inl h))
      · exact .inl h
      · exact .inr (.inl h)
      · exact .inr (.inr (.inr (.inl h)))
      · exact .inr (.inr (.inr (.inr (.inl h))))
      · exact .inr (.inr (.inr (.inr (.inr h))))
    refine next_tup F N hneI hI (hT _ (N _ (.tail _ (.tail _ (.tail _ (.tail _ (.head _)))))).1) hta ?_
    intro h' oI' hI' F4 N4
    clear F N
    k_steps
    rename Fr _ _ _ _ => F9
    rename News _ _ _ _ => N9
    refine storeX_C F9 N9 rfl (.tail dAI.symm (.head ?_)) hdA ?_
    · intro q hq
      simp only [List.mem_cons] at hq
      rcases hq with rfl | rfl | rfl | h
      · exact hAR.symm
      · exact h153.1.symm
      · exact dAD.symm
      · exact hoff cA (.head _) q h
    intro h5 oA5 F5 N5 hA5
    clear F9 N9
    replace F5 := fr_puts F5 [("record", .ref recX), ("turned", .ref turX), ("rules", .ref Rs)] (List.forall_mem_cons.mpr ⟨g2, List.forall_mem_cons.mpr ⟨g3, List.forall_mem_cons.mpr ⟨g4, List.forall_mem_nil _⟩⟩⟩)
    dsimp only [kstB] at F5
    have mA : (cA, oA5) ∈ ((I, oI') :: (cA, oA5) :: (cR, oR) :: (153, tabObj tab) :: (Dt, tup) :: rest : Led) := .tail _ (.head _)
    k_steps
    rename Fr _ _ _ _ => F9
    rename News _ _ _ _ => N9
    refine does_val (mk := fun u => .str _ u) (d_filemode asked _ ha0 ha1) B F9 X N9 trivial T rfl (by omega) (by omega) ?_
    intro u9 h9 tk9 F10 N10
    clear F9 N9
    k_steps
    rename Fr _ _ _ _ => F9
    rename News _ _ _ _ => N9
    rename_i TD ha lT D9 hb lD hc
    obtain ⟨lT1, lT2, lT3, lT4, lT5, lT6⟩ := lT
    replace lT6 := allLt_mem lT6
    obtain ⟨lD1, lD2, lD3, lD4, -⟩ := lD
    refine storeX_C F9 N9 rfl (.tail (Nat.ne_of_gt lD4) (.tail (Nat.ne_of_gt lT3) (.tail dRI.symm (.tail hAR (.head ?_))))) hdR ?_
    · intro q hq
      simp only [List.mem_cons] at hq
      rcases hq with rfl | rfl | h
      · exact h153.2.symm
      · exact dRD.symm
      · exact hoff cR (.tail _ (.head _)) q h
    intro h6 oR6 F6 N6 hR6
    clear F9 N9
    k_steps
    rename Fr _ _ _ _ => F9
    rename News _ _ _ _ => N9
    generalize hr0 : ((I, oI') :: (cA, oA5) :: (cR, oR6) :: (153, tabObj tab) :: (Dt, tup) :: rest : Led) = rest0 at N9
    have hsub : ∀ q ∈ rest, q ∈ rest0 := fun q hq => by rw [← hr0]; exact .tail _ (.tail _ (.tail _ (.tail _ (.tail _ hq))))
    have hTD : ∀ q ∈ rest0, q.1 ≠ TD := by
      rw [← hr0]
      intro q hq
      simp only [List.mem_cons] at hq
      rcases hq with rfl | rfl | rfl | rfl | rfl | h
      · exact Nat.ne_of_lt lT1
      · exact Nat.ne_of_lt lT2
      · exact Nat.ne_of_lt lT3
      · exact Nat.ne_of_lt lT4
      · exact Nat.ne_of_lt lT5
      · exact Nat.ne_of_lt (lT6 q h)
    have mA0 : (cA, oA5) ∈ rest0 := by rw [← hr0]; exact .tail _ (.head _)
    have mR0 : (cR, oR6) ∈ rest0 := by rw [← hr0]; exact .tail _ (.tail _ (.head _))
    replace N9 := news_sub (l' := (TD, listOf #[] 0) :: rest0) N9 fun q hq => .tail _ hq
    refine law_in1 (rest0 := rest0) (keep := [("record", .ref recX), ("turned", .ref turX), ("rules", .ref Rs)]) hlaw rfl B F9 X T hdp hu hgs N9 hTD rfl rfl mR0 mA0 hR6 hA5 (hsub _ c7) ⟨htups.1, fun i n e => ?_⟩ ⟨hrules.1, fun i n e => ?_⟩ fit1 hnums hlen hm0 hm1 ha0 ha1 rfl rfl ?_ ?_ ?_
    · obtain ⟨a, b, c, d, e1, e2, e3⟩ := htups.2 i n e
      exact ⟨a, b, c, d, e1, e2, hsub _ e3⟩
    · obtain ⟨a, e1, e2⟩ := hrules.2 i n e
      exact ⟨a, e1, e2.mono hsub⟩
    · refine List.forall_mem_cons.mpr ⟨rfl, List.forall_mem_cons.mpr ⟨rfl, List.forall_mem_cons.mpr ⟨rfl, List.forall_mem_nil _⟩⟩⟩
    · exact List.forall_mem_cons.mpr ⟨by dsimp only; decide, List.forall_mem_cons.mpr ⟨by dsimp only; decide, List.forall_mem_cons.mpr ⟨by dsimp only; decide, List.forall_mem_nil _⟩⟩⟩
    clear F9 N9
    intro h7 gs7 dr7 tk7 mm7 tv nn new hgs7 htold hne7 hap7 hkp7 g7 F7 N7
    have k1 := hkp7 _ (.head _)
    have k2 := hkp7 _ (.tail _ (.head _))
    have k3 := hkp7 _ (.tail _ (.tail _ (.head _)))
    k_steps
    refine law_right hlaw rfl B F7 X T hdp hu N7 htold (Nat.le_trans (toldL_len _ _ _) hlen) g7 ?_
    clear F7 N7
    intro h8 tk8 F8 N8
    replace N8 := news_sub (l' := rest0) N8 fun q hq => .tail _ (List.mem_append_right _ hq)
    k_steps
    refine law_ans (b := rightOf (toldL asked mode nums)) (rules := nums.map (ruleOf mode)) hlaw rfl B F8 X T hdp hu hgs7 N8 (fm_length _) rfl mR0 hR6 (hsub _ c1) (hsub _ c2) (hsub _ c3) (hsub _ c4) (hsub _ c5) (hsub _ c6) ⟨hrules.1, fun i n e => ?_⟩ (by rw [List.length_map]; omega) fit2 fit3 fit4 (put_ne (by decide) k1) (put_ne (by decide) k2) rfl ?_
    · obtain ⟨a, e1, e2⟩ := hrules.2 i n e
      exact ⟨a, e1, e2.mono hsub⟩
    clear F8 N8
    intro h9 tk9 v9 F9 N9
    subst hr0
    replace N9 := news_sub (l' := (153, tabObj tab) :: (I, oI') :: (cA, oA5) :: (cR, oR6) :: (Dt, tup) :: rest) N9 fun q hq => by
      simp only [List.mem_cons] at hq ⊢
      rcases hq with h | h | h | h | h | h
      · exact .inr (.inr (.inr (.inl h)))
      · exact .inl h
      · exact .inr (.inl h)
      · exact .inr (.inr (.inl h))
      · exact .inr (.inr (.inr (.inr (.inl h))))
      · exact .inr (.inr (.inr (.inr (.inr h))))
    k_steps
    refine law_shown (row := fm asked) hlaw rfl B F9 X T hdp hu hgs7 rfl N9 ?_ htab (fm_length _) (.tail _ (.tail _ (.head _))) hR6 ?_
    · intro q hq
      simp only [List.mem_cons] at hq
      rcases hq with rfl | rfl | rfl | rfl | h
      · exact d1I.symm
      · exact h153.1
      · exact h153.2
      · exact d1D.symm
      · exact hoff 153 (by simp) q h
    clear F9 N9
    intro D10 h10 gs10 dr10 tk10 tab10 n10 hgs10 htab10 F10 N10 hne10
    k_steps
    refine law_if1 hlaw rfl B F10 X T hdp hu rfl N10 (.head _) (.tail _ (.tail _ (.tail _ (.head _)))) hA5 ha0 ha1 rfl fit5 ?_
    clear F10 N10
    intro h11 tk11 F11 N11
    k_steps
    refine law_if2 hlaw rfl B F11 X T hdp hu rfl N11 (.head _) (.tail _ (.tail _ (.tail _ (.head _)))) hA5 ha0 ha1 rfl fit6 ?_
    clear F11 N11
    intro h12 tk12 F12 N12
    k_steps
    refine AfterG.next hgs10 ⟨i + 1, oI', oA5, oR6, _, _, _, tab10, hdk, hil', hI', hA5, hR6, htab10, ?_, ?_, ?_, F12, news_sub N12 fun q hq => ?_⟩
    · first | exact k1 | exact put_ne (by decide) k1 | exact put_ne (by decide) (put_ne (by decide) k1)
    · first | exact k2 | exact put_ne (by decide) k2 | exact put_ne (by decide) (put_ne (by decide) k2)
    · first | exact k3 | exact put_ne (by decide) k3 | exact put_ne (by decide) (put_ne (by decide) k3)
    simp only [List.mem_cons] at hq ⊢
    rcases hq with h | h | h | h | h | h
    · exact .inr (.inr (.inr (.inl h)))
    · exact .inr (.inr (.inr (.inr (.inl h))))
    · exact .inr (.inr (.inl h))
    · exact .inr (.inl h)
    · exact .inr (.inr (.inr (.inr (.inr (.inl h)))))
    · exact .inr (.inr (.inr (.inr (.inr (.inr h)))))
  · rintro h gs dr tk hgs ⟨i, oI, oA, oR, vA, vR, mm, tab, hdr, hil, hI, hdA, hdR, htab, g2, g3, g4, F, N⟩
    have hx : [mode, Builtin.bitXor mode 8465][i]? = none := by rw [← List.head?_drop, hdr]; rfl
    have hneI : ∀ q ∈ ((cA, oA) :: (cR, oR) :: (153, tabObj tab) :: (Dt, tup) :: rest : Led), q.1 ≠ I := by
      intro q hq
      simp only [List.mem_cons] at hq
      rcases hq with rfl | rfl | rfl | rfl | h
      · exact dAI
      · exact dRI
      · exact d1I
      · exact dDI
      · exact drI q h
    replace N := news_sub (l' := (I, oI) :: (cA, oA) :: (cR, oR) :: (153, tabObj tab) :: (Dt, tup) :: rest) N fun q hq => by
      simp only [List.mem_cons] at hq ⊢
      rcases hq with h | h | h | h | h | h
      · exact .inr (.inr (.inl h))
      · exact .inl h
      · exact .inr (.inl h)
      · exact .inr (.inr (.inr (.inl h)))
      · exact .inr (.inr (.inr (.inr (.inl h))))
      · exact .inr (.inr (.inr (.inr (.inr h))))
    refine next_tup_end rfl F N hneI hI (hT _ (N _ (.tail _ (.tail _ (.tail _ (.tail _ (.head _)))))).1) ?_ ?_
    · rw [List.getElem?_eq_none_iff] at hx
      simpa using hx
    intro h4 F4 N4
    refine ⟨rfl, ?_⟩
    clear F N
    k_steps
    refine hQ _ _ _ _ _ tab hgs F4 (news_sub N4 fun q hq => ?_)
    rcases List.mem_cons.mp hq with rfl | hq
    · exact .tail _ (.tail _ (.head _))
    · exact .tail _ (.tail _ (.tail _ (.tail _ hq)))
end
end Mine
end
section
open PySem PySem.W PyProof.Rows PySem.Calls PySem.Spec
set_option maxRecDepth 100000
set_option maxHeartbeats 2000000
namespace Mine
section
variable {w : World} {p : Program} {loose : List Str} {mean : ExcName → Option Value} {mg mb : Str → Option Value}
theorem lines_LI1 : True := by
  k_with_none
  k_with "my mem" => assumption
  k_with "my all" => assumption
  k_with "my steps" => repeat' ((fail_if_success (with_reducible show wpAny _ _ (call (Value.ref _) _) _ _ _)); first | walk1 | (dsimp only; walk1) | (leave1; walk_say "STEP leave1"; try dsimp only) | fail "no step")
  k_with "my room" => ((try simp only [depth_under_make, depth_under_kw, depth_in1, depth_deeper, depth_caller]); (try dsimp only [ktrTop]); omega)
  trivial
theorem law_s2 {scope : Scope} {ss : List Stmt} (hlaw : LawAt (hd0.heap_1 w.params) scope ss) {s0 s1 st : Stmt} {more : List Stmt} (hss : ss = s0 :: s1 :: st :: more)
    {dp un : Nat} {gd : Option (List Code)} {L a : Addr} {ccd : Value} {cl : List (Str × Addr)} {outer : List Env} {A₀ : Around} {base g : Heap} {m : Str → Option Value} {s : Shared} {Q : Flow → Shared → Prop} {rest : Led}
    (B : Below A₀ base outer g) (F : Fr g L s.heap m) (X : (hd0.heap_1 w.params).In g) (T : Top p loose mean mg mb g) (hdp : dp + 40 < recursionLimit) (hu : un + 10 * 40 < cLine) (N : News g L s.heap rest)
    (hQ : ∀ recX recD turX turD ua ub Rr Tr Rs e1 e2 e3 e4 f1 f2 f3 f4 h tk, Fr g L h (fun y => if y = "record" then some (.ref recX) else if y = "turned" then some (.ref turX) else if y = "rules" then some (.ref Rs) else m y) →
      News g L h ((Rr, listOf #[] 0) :: (Tr, listOf #[] 0) :: (Rs, listOf #[] 0) :: (recX, instObj 203 recD) :: (recD, dictOf (entEs w ua Rr e1 e2 e3 e4) 4) :: (turX, instObj 203 turD) :: (turD, dictOf (entEs w ub Tr f1 f2 f3 f4) 4) :: rest) →
      [Rr, Tr, Rs].Nodup → Off [Rr, Tr, Rs] rest → Off [Rr, Tr, Rs] [(recX, instObj 203 recD), (recD, dictOf (entEs w ua Rr e1 e2 e3 e4) 4), (turX, instObj 203 turD), (turD, dictOf (entEs w ub Tr f1 f2 f3 f4) 4)] →
      Off (rest.map (·.1)) [(recX, instObj 203 recD), (recD, dictOf (entEs w ua Rr e1 e2 e3 e4) 4), (turX, instObj 203 turD), (turD, dictOf (entEs w ub Tr f1 f2 f3 f4) 4)] → Q .next { s with heap := h, toks := tk }) :
    wpAny (model PySem.Challenge.rw_in0284_01.row.prog w) (ktrTop dp un gd "law" scope L a ccd cl outer) (exec st (envX "law" scope L a ccd cl)) Q NoE s := by
  revert hlaw X hss
  k_fill
  intro hlaw hss X
  revert hss
  refine law_lit (P := fun scope ss => ss = s0 :: s1 :: st :: more → wpAny (model PySem.Challenge.rw_in0284_01.row.prog w) (ktrTop dp un gd "law" scope L a ccd cl outer) (exec st (envX "law" scope L a ccd cl)) Q NoE s) hlaw (by k_is) ?_
  intro hss
  cases hss
  k_steps
  rename Fr _ _ _ _ => F9
  rename News _ _ _ _ => N9
  refine does_use (own₀ := []) d_entry B F9 X N9 (fun _ h => absurd h List.not_mem_nil) trivial T rfl (by omega) (by omega) ?_
  rintro v own1 h11 tk11 ⟨x1, d1, ua, rl1, e1, e2, e3, e4, rfl, rfl, q1, q2, q3⟩ F11 N11 hap11
  clear F9 N9
  k_steps
  rename Fr _ _ _ _ => F9
  rename News _ _ _ _ => N9
  refine does_use (own₀ := []) d_entry B F9 X N9 (fun _ h => absurd h List.not_mem_nil) trivial T rfl (by omega) (by omega) ?_
  rintro v own2 h12 tk12 ⟨x2, d2, ub, rl2, f1, f2, f3, f4, rfl, rfl, p1, p2, p3⟩ F12 N12 hap12
  clear F9 N9
  k_steps
  rename Fr _ _ _ _ => F9
  rename News _ _ _ _ => N9
  rename_i Rs h13 l13 D14 h14 l14 hp1 hp2 hp3 hp4
  have a1 := fun q hq => hap12 (rl2, listOf #[] 0) (.head _) q hq
  have a2 := fun q hq => hap12 (ub, listOf #[] 0) (.tail _ (.head _)) q hq
  have a3 := fun q hq => hap12 (x2, instObj 203 d2) (.tail _ (.tail _ (.head _))) q hq
  have a4 := fun q hq => hap12 (d2, dictOf (entEs w ub rl2 f1 f2 f3 f4) 4) (.tail _ (.tail _ (.tail _ (.head _)))) q hq
  have b1 := fun q hq => hap11 (rl1, listOf #[] 0) (.head _) q hq
  have b2 := fun q hq => hap11 (ua, listOf #[] 0) (.tail _ (.head _)) q hq
  have b3 := fun q hq => hap11 (x1, instObj 203 d1) (.tail _ (.tail _ (.head _))) q hq
  have b4 := fun q hq => hap11 (d1, dictOf (entEs w ua rl1 e1 e2 e3 e4) 4) (.tail _ (.tail _ (.tail _ (.head _)))) q hq
  have lrl2 := l13 (rl2, listOf #[] 0) (.head _)
  have lx2 := l13 (x2, instObj 203 d2) (.tail _ (.tail _ (.head _)))
  have ld2 := l13 (d2, dictOf (entEs w ub rl2 f1 f2 f3 f4) 4) (.tail _ (.tail _ (.tail _ (.head _))))
  have lrl1 := l13 (rl1, listOf #[] 0) (.tail _ (.tail _ (.tail _ (.tail _ (.head _)))))
  have lx1 := l13 (x1, instObj 203 d1) (.tail _ (.tail _ (.tail _ (.tail _ (.tail _ (.tail _ (.head _)))))))
  have ld1 := l13 (d1, dictOf (entEs w ua rl1 e1 e2 e3 e4) 4) (.tail _ (.tail _ (.tail _ (.tail _ (.tail _ (.tail _ (.tail _ (.head _))))))))
  have lr : ∀ q ∈ rest, q.1 < Rs := fun q hq => l13 q (.tail _ (.tail _ (.tail _ (.tail _ (.tail _ (.tail _ (.tail _ (.tail _ hq))))))))
  refine hQ x1 d1 x2 d2 ua ub rl1 rl2 Rs e1 e2 e3 e4 f1 f2 f3 f4 _ _ F9 (news_sub N9 fun q hq => ?_) ?_ ?_ ?_ ?_
  · simp only [List.mem_append, List.mem_cons, List.append_eq, List.not_mem_nil, or_false] at hq ⊢
    rcases hq with h | h | h | h | h | h | h | h
    · exact .inr (.inr (.inr (.inl h)))
    · exact .inr (.inr (.inl (.inl h)))
    · exact .inr (.inl h)
    · exact .inr (.inr (.inr (.inr (.inl (.inr (.inl h))))))
    · exact .inr (.inr (.inr (.inr (.inl (.inr (.inr h))))))
    · exact .inr (.inr (.inl (.inr (.inr (.inl h)))))
    · exact .inr (.inr (.inl (.inr (.inr (.inr h)))))
    · exact .inr (.inr (.inr (.inr (.inr h))))
  · simp only [List.nodup_cons, List.mem_cons, List.not_mem_nil, not_or, or_false, not_false_eq_true, List.nodup_nil, and_true]
    exact ⟨⟨a1 (rl1, listOf #[] 0) (.head _), Nat.ne_of_lt lrl1⟩, Nat.ne_of_lt lrl2⟩
  · intro a ha q hq
    simp only [List.mem_cons, List.not_mem_nil, or_false] at ha
    rcases ha with rfl | rfl | rfl
    · exact b1 q hq
    · exact a1 q (.tail _ (.tail _ (.tail _ (.tail _ hq))))
    · exact Nat.ne_of_lt (lr q hq)
  · intro a ha q hq
    simp only [List.mem_cons, List.not_mem_nil, or_false] at ha hq
    rcases ha with rfl | rfl | rfl
    · rcases hq with rfl | rfl | rfl | rfl
      · exact Nat.ne_of_lt (Nat.lt_trans q2 q3)
      · exact Nat.ne_of_lt (Nat.lt_trans q1 (Nat.lt_trans q2 q3))
      · exact fun e => a3 (a, listOf #[] 0) (.head _) e.symm
      · exact fun e => a4 (a, listOf #[] 0) (.head _) e.symm
    · rcases hq with rfl | rfl | rfl | rfl
      · exact a1 (x1, instObj 203 d1) (.tail _ (.tail _ (.head _)))
      · exact a1 (d1, dictOf (entEs w ua rl1 e1 e2 e3 e4) 4) (.tail _ (.tail _ (.tail _ (.head _))))
      · exact Nat.ne_of_lt (Nat.lt_trans p2 p3)
      · exact Nat.ne_of_lt (Nat.lt_trans p1 (Nat.lt_trans p2 p3))
    · rcases hq with rfl | rfl | rfl | rfl
      · exact Nat.ne_of_lt lx1
      · exact Nat.ne_of_lt ld1
      · exact Nat.ne_of_lt lx2
      · exact Nat.ne_of_lt ld2
  · intro a ha q hq
    obtain ⟨z, hz, rfl⟩ := List.mem_map.mp ha
    simp only [List.mem_cons, List.not_mem_nil, or_false] at hq
    rcases hq with rfl | rfl | rfl | rfl
    · exact fun e => b3 z hz e.symm
    · exact fun e => b4 z hz e.symm
    · exact fun e => a3 z (.tail _ (.tail _ (.tail _ (.tail _ hz)))) e.symm
    · exact fun e => a4 z (.tail _ (.tail _ (.tail _ (.tail _ hz)))) e.symm
end
end Mine
end
section
open PySem PySem.W PyProof.Rows PySem.Calls PySem.Spec
set_option maxRecDepth 100000
set_option maxHeartbeats 2000000
namespace Mine
section
variable {w : World} {p : Program} {loose : List Str} {mean : ExcName → Option Value} {mg mb : Str → Option Value}
theorem lines_LJ1 : True := by
  k_with_none
  k_with "my mem" => assumption
  k_with "my all" => assumption
  k_with "my steps" => repeat' ((fail_if_success (with_reducible show wpAny _ _ (exec (Stmt.For _ _ _ _ _) _) _ _ _)); (fail_if_success (with_reducible show wpAny _ _ (exec (Stmt.Assign _ _ _) _) _ _ _)); first | walk1 | (dsimp only; walk1) | (leave1; walk_say "STEP leave1"; try dsimp only) | fail "no step")
  k_with "my room" => ((try simp only [depth_under_make, depth_under_kw, depth_in1, depth_deeper, depth_caller]); (try dsimp only [ktrTop]); omega)
  trivial
theorem led_same {h₀ h : Heap} {L : Addr} {l : Led} {q r : Addr × Obj} (N : News h₀ L h l) (hq : q ∈ l) (hr : r ∈ l) (e : q.1 = r.1) : q.2 = r.2 := by
  have a := (N q hq).1
  have b := (N r hr).1
  rw [e, b] at a
  exact (Option.some.inj a).symm
theorem law_tail {scope : Scope} {ss : List Stmt} (hlaw : LawAt (hd0.heap_1 w.params) scope ss) {s0 s1 : Stmt} {more : List Stmt} (hss : ss = s0 :: s1 :: more)
    {dp un : Nat} {gd : Option (List Code)} {L a : Addr} {ccd : Value} {cl : List (Str × Addr)} {outer : List Env} {A₀ : Around} {base g : Heap} {m : Str → Option Value} {s : Shared} {Q : Flow → Shared → Prop}
    {NA cR cA : Addr} {oR oA : Obj} {vA vR : Option Value} {um : Tok} {mode : Int} {nums : List Int} {nvals : List Value} {nn : Nat}
    (B : Below A₀ base outer g) (F : Fr g L s.heap m) (X : (hd0.heap_1 w.params).In g) (T : Top p loose mean mg mb g) (hdp : dp + 40 < recursionLimit) (hu : un + 10 * 40 < cLine) (hgens : AllBare s.gens)
    (hcl : cl = [(Str.ofString "row", cR), (Str.ofString "asked", cA)]) (N : News g L s.heap [(NA, listOf nvals.toArray nn), (cR, oR), (cA, oA), (230, tabObj #[]), (153, tabObj #[])])
    (hnd : [NA, cR, cA, 230, 153].Nodup) (hdA : oA.data = .cell vA) (hdR : oR.data = .cell vR) (hints : IntsAre nvals nums) (hlen : nums.length ≤ 100) (hnums : ∀ n ∈ nums, 0 ≤ n ∧ n < 10000000000) (hm0 : 0 ≤ mode) (hm1 : mode < 65536)
    (hfit : ∀ asked ∈ [mode, Builtin.bitXor mode 8465], Fits mode nums asked) (hv1 : m "numbers" = some (.ref NA)) (hv2 : m "mode" = some (.int mode um))
    (hQ : ∀ h gs dr tk mm ps1 ps2, AllBare gs → Fr g L h mm → h.get? 230 = some (tabObj ps1) → h.get? 153 = some (tabObj ps2) → Q (.ret (.bool true)) { heap := h, gens := gs, drawn := dr, toks := tk, os := s.os }) :
    wpAny (model PySem.Challenge.rw_in0284_01.row.prog w) (ktrTop dp un gd "law" scope L a ccd cl outer) (execs more (envX "law" scope L a ccd cl)) Q NoE s := by
  revert hlaw X hss
  k_fill
  intro hlaw hss X
  revert hss
  refine law_lit (P := fun scope ss => LawAt (hd0.heap_1 w.params) scope ss → ss = s0 :: s1 :: more → wpAny (model PySem.Challenge.rw_in0284_01.row.prog w) (ktrTop dp un gd "law" scope L a ccd cl outer) (execs more (envX "law" scope L a ccd cl)) Q NoE s) hlaw (by k_is) ?_ hlaw
  clear hlaw
  intro hlaw hss
  cases hss
  subst hcl
  refine wpAny_execs_cons ?_
  refine law_s2 hlaw rfl B F X T hdp hu N ?_
  intro recX recD turX turD ua ub Rr Tr Rs e1 e2 e3 e4 f1 f2 f3 f4 h1 tk1 F1 N1 hnd3 ho1 ho2 ho3
  clear F N
  k_steps
  simp only [List.nodup_cons, List.mem_cons, List.not_mem_nil, not_or, or_false, not_false_eq_true, List.nodup_nil, and_true] at hnd hnd3
  obtain ⟨⟨n1, n2, n3, n4⟩, ⟨n5, n6, n7⟩, ⟨n8, n9⟩, n10⟩ := hnd
  obtain ⟨⟨q1, q2⟩, q3⟩ := hnd3
  have d230 : ∀ a ∈ [Rr, Tr, Rs], (230 : Addr) ≠ a := fun a ha => ho1 a ha (230, tabObj #[]) (by simp)
  have d153 : ∀ a ∈ [Rr, Tr, Rs], (153 : Addr) ≠ a := fun a ha => ho1 a ha (153, tabObj #[]) (by simp)
  have dA : ∀ a ∈ [Rr, Tr, Rs], cA ≠ a := fun a ha => ho1 a ha (cA, oA) (by simp)
  have dR : ∀ a ∈ [Rr, Tr, Rs], cR ≠ a := fun a ha => ho1 a ha (cR, oR) (by simp)
  have hnd5 : [Rr, Tr, Rs, 230, 153].Nodup := by
    simp only [List.nodup_cons, List.mem_cons, List.not_mem_nil, not_or, or_false, not_false_eq_true, List.nodup_nil, and_true]
    exact ⟨⟨q1, q2, (d230 Rr (by simp)).symm, (d153 Rr (by simp)).symm⟩, ⟨q3, (d230 Tr (by simp)).symm, (d153 Tr (by simp)).symm⟩, ⟨(d230 Rs (by simp)).symm, (d153 Rs (by simp)).symm⟩, n10⟩
  refine law_loop1 (rest0 := [(recX, instObj 203 recD), (recD, dictOf (entEs w ua Rr e1 e2 e3 e4) 4), (turX, instObj 203 turD), (turD, dictOf (entEs w ub Tr f1 f2 f3 f4) 4), (NA, listOf nvals.toArray nn), (cR, oR), (cA, oA)]) (fr := [(cR, oR), (cA, oA)]) hlaw rfl B F1 X T hdp hu hgens (news_sub N1 fun q hq => ?_) ?_ hnd5 (.head _) (.tail _ (.head _)) (.tail _ (.tail _ (.head _))) (.tail _ (.tail _ (.tail _ (.head _)))) (.tail _ (.tail _ (.tail _ (.tail _ (.head _))))) hints hlen hnums hm0 hm1 hv1 hv2 rfl rfl rfl (fun q hq => .tail _ (.tail _ (.tail _ (.tail _ (.tail _ hq))))) ?_
  · simp only [lamLed, List.mem_append, List.mem_cons, List.not_mem_nil, or_false] at hq ⊢
    rcases hq with h | h | h | h | h | h | h | h | h | h | h | h
    · exact .inl h
    · exact .inr (.inl h)
    · exact .inr (.inr (.inl h))
    · exact .inr (.inr (.inr (.inr (.inr (.inr (.inr (.inr (.inr (.inr (.inl h))))))))))
    · exact .inr (.inr (.inr (.inr (.inr (.inr (.inr (.inr (.inr (.inr (.inr h))))))))))
    · exact .inr (.inr (.inr (.inl h)))
    · exact .inr (.inr (.inr (.inr (.inl h))))
    · exact .inr (.inr (.inr (.inr (.inr (.inl h)))))
    · exact .inr (.inr (.inr (.inr (.inr (.inr (.inl h))))))
    · exact .inr (.inr (.inr (.inr (.inr (.inr (.inr (.inl h)))))))
    · exact .inr (.inr (.inr (.inr (.inr (.inr (.inr (.inr (.inl h))))))))
    · exact .inr (.inr (.inr (.inr (.inr (.inr (.inr (.inr (.inr (.inl h)))))))))
  · intro b hb q hq
    have four : ∀ q ∈ ([(recX, instObj 203 recD), (recD, dictOf (entEs w ua Rr e1 e2 e3 e4) 4), (turX, instObj 203 turD), (turD, dictOf (entEs w ub Tr f1 f2 f3 f4) 4)] : Led), q.1 ≠ b := by
      intro q hq
      simp only [List.mem_cons, List.not_mem_nil, or_false] at hb
      rcases hb with rfl | rfl | rfl | rfl | rfl
      · exact ho2 b (by simp) q hq
      · exact ho2 b (by simp) q hq
      · exact ho2 b (by simp) q hq
      · exact ho3 230 (by simp) q hq
      · exact ho3 153 (by simp) q hq
    have sub3 : ∀ q ∈ ([(NA, listOf nvals.toArray nn), (cR, oR), (cA, oA)] : Led), q ∈ ([(NA, listOf nvals.toArray nn), (cR, oR), (cA, oA), (230, tabObj #[]), (153, tabObj #[])] : Led) := by
      intro q hq
      simp only [List.mem_cons, List.not_mem_nil, or_false] at hq ⊢
      rcases hq with h | h | h
      · exact .inl h
      · exact .inr (.inl h)
      · exact .inr (.inr (.inl h))
    have three : ∀ q ∈ ([(NA, listOf nvals.toArray nn), (cR, oR), (cA, oA)] : Led), q.1 ≠ b := by
      intro q8 hq8
      simp only [List.mem_cons, List.not_mem_nil, or_false] at hb
      rcases hb with rfl | rfl | rfl | rfl | rfl
      · exact ho1 b (by simp) q8 (sub3 q8 hq8)
      · exact ho1 b (by simp) q8 (sub3 q8 hq8)
      · exact ho1 b (by simp) q8 (sub3 q8 hq8)
      · simp only [List.mem_cons, List.not_mem_nil, or_false] at hq8
        rcases hq8 with rfl | rfl | rfl
        · exact n3
        · exact n6
        · exact n8
      · simp only [List.mem_cons, List.not_mem_nil, or_false] at hq8
        rcases hq8 with rfl | rfl | rfl
        · exact n4
        · exact n7
        · exact n9
    rw [show ([(recX, instObj 203 recD), (recD, dictOf (entEs w ua Rr e1 e2 e3 e4) 4), (turX, instObj 203 turD), (turD, dictOf (entEs w ub Tr f1 f2 f3 f4) 4), (NA, listOf nvals.toArray nn), (cR, oR), (cA, oA)] : Led) = [(recX, instObj 203 recD), (recD, dictOf (entEs w ua Rr e1 e2 e3 e4) 4), (turX, instObj 203 turD), (turD, dictOf (entEs w ub Tr f1 f2 f3 f4) 4)] ++ [(NA, listOf nvals.toArray nn), (cR, oR), (cA, oA)] from rfl] at hq
    rcases List.mem_append.mp hq with hq | hq
    · exact four q hq
    · exact three q hq
  clear F1 N1
  rintro h2 gs2 dr2 tk2 hgs2 ⟨mm, vals, tups, m1, m2, m3, k, tab, rest, ⟨rs, hs1, hs2, hrules⟩, htups, hk, htab, hoff, hlo, hsub, g1, g2, g3, g4, F2, N2⟩
  k_steps
  have mR : (cR, oR) ∈ rest := hsub _ (.tail _ (.tail _ (.tail _ (.tail _ (.tail _ (.head _))))))
  have mA : (cA, oA) ∈ rest := hsub _ (.tail _ (.tail _ (.tail _ (.tail _ (.tail _ (.tail _ (.head _)))))))
  have inN : ∀ q ∈ rest, q ∈ ((Rr, listOf vals.toArray m1) :: (Tr, listOf vals.reverse.toArray m2) :: (Rs, listOf tups.toArray m3) :: (lamLed k ++ (153, tabObj tab) :: rest) : Led) := fun q hq => .tail _ (.tail _ (.tail _ (List.mem_append_right _ (.tail _ hq))))
  generalize hr2 : (rest.filter fun q => decide (q.1 ≠ cA ∧ q.1 ≠ cR)) = rest2
  have mem2 : ∀ q, q ∈ rest2 ↔ q ∈ rest ∧ q.1 ≠ cA ∧ q.1 ≠ cR := fun q => by rw [← hr2, List.mem_filter]; simp
  have four2 : ∀ q ∈ ([(recX, instObj 203 recD), (recD, dictOf (entEs w ua Rr e1 e2 e3 e4) 4), (turX, instObj 203 turD), (turD, dictOf (entEs w ub Tr f1 f2 f3 f4) 4)] : Led), q ∈ rest → q ∈ rest2 := fun q hq h => (mem2 q).mpr ⟨h, ho3 cA (by simp) q hq, ho3 cR (by simp) q hq⟩
  have r2 : ∀ q ∈ rest2, q ∈ (Rr, listOf vals.toArray m1) :: (Tr, listOf vals.reverse.toArray m2) :: (Rs, listOf tups.toArray m3) :: (lamLed k ++ rest2) := fun q hq => .tail _ (.tail _ (.tail _ (List.mem_append_right _ hq)))
  refine law_loop2 (rest := (Rr, listOf vals.toArray m1) :: (Tr, listOf vals.reverse.toArray m2) :: (Rs, listOf tups.toArray m3) :: (lamLed k ++ rest2)) (vals := vals) (tups := tups) hlaw rfl B F2 X T hdp hu hgs2 rfl (news_sub N2 fun q hq => ?_) (fun e => n5 e.symm) ⟨n9, n7⟩ ?_ htab hdA hdR
    (r2 _ (four2 (recX, instObj 203 recD) (.head _) (hsub _ (.head _)))) (r2 _ (four2 (recD, dictOf (entEs w ua Rr e1 e2 e3 e4) 4) (.tail _ (.head _)) (hsub _ (.tail _ (.head _))))) (r2 _ (four2 (turX, instObj 203 turD) (.tail _ (.tail _ (.head _))) (hsub _ (.tail _ (.tail _ (.head _)))))) (r2 _ (four2 (turD, dictOf (entEs w ub Tr f1 f2 f3 f4) 4) (.tail _ (.tail _ (.tail _ (.head _)))) (hsub _ (.tail _ (.tail _ (.tail _ (.head _)))))))
    (.head _) (.tail _ (.head _)) (.tail _ (.tail _ (.head _))) ⟨htups.1, fun i n e => ?_⟩ ⟨hrules.1, fun i n e => ?_⟩ hfit hnums hlen hm0 hm1 g1 g2 g3 g4 ?_
  · simp only [List.mem_append, List.mem_cons] at hq ⊢
    rcases hq with h | h | h | h | h | h | h | h
    · exact .inr (.inr (.inr (.inr (.inr (by rw [h]; exact mA)))))
    · exact .inr (.inr (.inr (.inr (.inr (by rw [h]; exact mR)))))
    · exact .inr (.inr (.inr (.inr (.inl h))))
    · exact .inl h
    · exact .inr (.inl h)
    · exact .inr (.inr (.inl h))
    · exact .inr (.inr (.inr (.inl h)))
    · exact .inr (.inr (.inr (.inr (.inr ((mem2 q).mp h).1))))
  · intro b hb q hq
    have sub4 : ∀ c ∈ ([Rr, Tr, Rs, 230] : List Addr), c ∈ ([Rr, Tr, Rs, 230, 153] : List Addr) := by
      intro c hc
      simp only [List.mem_cons, List.not_mem_nil, or_false] at hc ⊢
      rcases hc with h | h | h | h
      · exact .inl h
      · exact .inr (.inl h)
      · exact .inr (.inr (.inl h))
      · exact .inr (.inr (.inr (.inl h)))
    have hbr : ∀ c ∈ ([Rr, Tr, Rs, 230] : List Addr), c ≠ b := by
      intro c hc
      simp only [List.mem_cons, List.not_mem_nil, or_false] at hb
      rcases hb with rfl | rfl | rfl
      · exact fun e => hoff c (sub4 c hc) _ mA e.symm
      · exact fun e => hoff c (sub4 c hc) _ mR e.symm
      · simp only [List.mem_cons, List.not_mem_nil, or_false] at hc
        rcases hc with rfl | rfl | rfl | rfl
        · exact (d153 c (by simp)).symm
        · exact (d153 c (by simp)).symm
        · exact (d153 c (by simp)).symm
        · exact n10
    rcases List.mem_cons.mp hq with rfl | hq
    · exact hbr _ (by simp)
    rcases List.mem_cons.mp hq with rfl | hq
    · exact hbr _ (by simp)
    rcases List.mem_cons.mp hq with rfl | hq
    · exact hbr _ (by simp)
    rcases List.mem_append.mp hq with hq | hq
    · cases k with
      | none =>
        rw [List.mem_singleton.mp hq]
        exact hbr 230 (by simp)
      | some y =>
        obtain ⟨c, oc⟩ := y
        simp only [lamLed, List.mem_cons, List.not_mem_nil, or_false] at hq
        rcases hq with rfl | rfl
        · exact hbr 230 (by simp)
        · simp only [List.mem_cons, List.not_mem_nil, or_false] at hb
          rcases hb with rfl | rfl | rfl
          · exact fun e => (hlo c oc rfl).1 _ mA e.symm
          · exact fun e => (hlo c oc rfl).1 _ mR e.symm
          · exact fun e => (hlo c oc rfl).2 153 (by simp) e.symm
    · obtain ⟨z1, z2, z3⟩ := (mem2 q).mp hq
      simp only [List.mem_cons, List.not_mem_nil, or_false] at hb
      rcases hb with rfl | rfl | rfl
      · exact z2
      · exact z3
      · exact hoff 153 (by simp) q z1
  · obtain ⟨T9, t9, u9, v9, z1, z2, z3⟩ := htups.2 i n e
    refine ⟨T9, t9, u9, v9, z1, z2, r2 _ ((mem2 _).mpr ⟨z3, fun e9 => ?_, fun e9 => ?_⟩)⟩
    · have := led_same N2 (inN _ z3) (inN _ mA) e9
      dsimp only at this
      rw [← this] at hdA
      cases hdA
    · have := led_same N2 (inN _ z3) (inN _ mR) e9
      dsimp only at this
      rw [← this] at hdR
      cases hdR
  · obtain ⟨X9, z1, z2⟩ := hrules.2 i n e
    refine ⟨X9, z1, z2.mono fun q hq => ?_⟩
    rcases List.mem_append.mp hq with hq | hq
    · exact .tail _ (.tail _ (.tail _ (List.mem_append_left _ (lamCode_sub q hq))))
    · exact r2 _ ((mem2 q).mpr ⟨hs1 q hq, hs2 q hq _ (.tail _ (.head _)), hs2 q hq _ (.head _)⟩)
  clear F2 N2
  intro h3 gs3 dr3 tk3 mm3 tab3 hgs3 F3 N3
  have t230 : ∃ ps, h3.get? 230 = some (tabObj ps) := by
    cases k with
    | none => exact ⟨_, (N3 (230, _) (.tail _ (.tail _ (.tail _ (.tail _ (.head _)))))).1⟩
    | some y => exact ⟨_, (N3 (230, _) (.tail _ (.tail _ (.tail _ (.tail _ (.head _)))))).1⟩
  obtain ⟨ps1, h230⟩ := t230
  have h153 := (N3 (153, tabObj tab3) (.head _)).1
  k_steps
  exact hQ _ _ _ _ _ ps1 tab3 hgs3 F3 h230 h153
end
end Mine
end
section
open PySem PySem.W PyProof.Rows PySem.Calls PySem.Spec
set_option maxRecDepth 100000
namespace Mine
theorem S_beq (a b : Nat) : (S [a] == S [b]) = (a == b) := by
  by_cases h : a = b
  · subst h; simp
  · rw [show (a == b) = false by simpa using h]
    exact beq_eq_false_iff_ne.mpr fun e => h (by have := S_inj e; simpa using this)
/-- what is asked of the columns, and what is told of them -/
theorem reach_told {asked other n : Int} (hn : 0 ≤ n) (a : List Nat) (all : Int) : ∀ (o : List Nat) (k : Nat) (nar : Int), (∀ (j : Nat) (c : Nat), o[j]? = some c → sameOf asked other (k + j) = (a.getD (k + j) 0 == c)) →
    (reachFrom a all (asksFrom k (pcsFrom o (n / 3 ^ k))) = all ∧ toldFrom asked other n (List.range' k o.length) nar = nar + (asksFrom k (pcsFrom o (n / 3 ^ k))).length) ∨
    (reachFrom a all (asksFrom k (pcsFrom o (n / 3 ^ k))) = 0 ∧ toldFrom asked other n (List.range' k o.length) nar = 0)
  | [], k, nar, _ => .inl ⟨rfl, by simp [pcsFrom, asksFrom, toldFrom]⟩
  | c :: o, k, nar, h => by
    have hc := h 0 c rfl
    have ih := fun nar => reach_told hn a all o (k + 1) nar fun j c hj => by
      have := h (j + 1) c hj
      rw [show k + 1 + j = k + (j + 1) by omega]; exact this
    have e1 : (n / 3 ^ k).fdiv 3 = n / 3 ^ (k + 1) := by
      rw [Int.fdiv_eq_ediv_of_nonneg _ (by decide), Int.ediv_ediv_of_nonneg (Int.le_of_lt (Int.pow_pos (by decide))), Int.pow_succ]
    have e2 : wayOf n k = (n / 3 ^ k).fmod 3 := by
      unfold wayOf
      rw [Int.fdiv_eq_ediv_of_nonneg _ (Int.le_of_lt (Int.pow_pos (by decide)))]; rfl
    simp only [Nat.add_zero] at hc
    unfold pcsFrom asksFrom
    rw [e1, List.length_cons, List.range'_succ]
    unfold toldFrom
    rw [e2, hc]
    have hd3 : 0 ≤ (n / 3 ^ k).fmod 3 ∧ (n / 3 ^ k).fmod 3 < 3 := by
      rw [Int.fmod_eq_emod_of_nonneg _ (by decide)]; omega
    generalize (n / 3 ^ k).fmod 3 = d at hd3
    unfold pcOf
    by_cases h0 : d = 0
    · rw [if_pos h0, if_pos h0]
      exact ih nar
    · rw [if_neg h0, if_neg h0]
      by_cases h2 : d = 2
      · rw [if_pos h2]
        show (reachFrom a all (⟨k, [c], false⟩ :: asksFrom (k + 1) _) = _ ∧ _ = nar + (⟨k, [c], false⟩ :: asksFrom (k + 1) _).length) ∨ (reachFrom a all (⟨k, [c], false⟩ :: asksFrom (k + 1) _) = 0 ∧ _)
        unfold reachFrom
        dsimp only
        rw [S_beq]
        cases hb : (a.getD k 0 == c) with
        | true => right; subst h2; simp
        | false =>
          subst h2
          have := ih (nar + 1)
          simpa [Int.add_assoc, Int.add_comm 1] using this
      · rw [if_neg h2]
        show (reachFrom a all (⟨k, [c], true⟩ :: asksFrom (k + 1) _) = _ ∧ _ = nar + (⟨k, [c], true⟩ :: asksFrom (k + 1) _).length) ∨ (reachFrom a all (⟨k, [c], true⟩ :: asksFrom (k + 1) _) = 0 ∧ _)
        unfold reachFrom
        dsimp only
        rw [S_beq]
        have h1 : (d == 1) = true := by simp only [beq_iff_eq]; omega
        rw [h1]
        cases hb : (a.getD k 0 == c) with
        | false => right; simp
        | true =>
          have := ih (nar + 1)
          simpa [Int.add_assoc, Int.add_comm 1] using this
end Mine
end
section
open PySem PySem.W PyProof.Rows PySem.Calls PySem.Spec
set_option maxRecDepth 100000
namespace Mine
theorem and_one (m i : Nat) : m &&& 2 ^ i = if m.testBit i then 2 ^ i else 0 := by
  apply Nat.eq_of_testBit_eq
  intro j
  rw [Nat.testBit_and, Nat.testBit_two_pow]
  by_cases h : i = j
  · subst h
    cases m.testBit i <;> simp
  · cases m.testBit i <;> simp [h]
theorem bitAnd_nat {x : Int} (hx : 0 ≤ x) (b : Nat) : Builtin.bitAnd x (b : Int) = ((x.toNat &&& b : Nat) : Int) := bitAnd_pp hx (Int.natCast_nonneg b)
theorem bA {x : Int} (hx : 0 ≤ x) (i : Nat) : Builtin.bitAnd x ((2 ^ i : Nat) : Int) = if x.toNat.testBit i then ((2 ^ i : Nat) : Int) else 0 := by
  rw [bitAnd_nat hx, and_one]
  split <;> rfl
theorem bA2 {x : Int} (hx : 0 ≤ x) (i j : Nat) (h : 2 ^ i + 2 ^ j = 2 ^ i ||| 2 ^ j) : Builtin.bitAnd x ((2 ^ i + 2 ^ j : Nat) : Int) = if x.toNat.testBit i then (if x.toNat.testBit j then ((2 ^ i + 2 ^ j : Nat) : Int) else ((2 ^ i : Nat) : Int)) else (if x.toNat.testBit j then ((2 ^ j : Nat) : Int) else 0) := by
  rw [bitAnd_nat hx]
  have e : x.toNat &&& (2 ^ i + 2 ^ j) = (if x.toNat.testBit i then 2 ^ i else 0) ||| (if x.toNat.testBit j then 2 ^ j else 0) := by
    rw [h, Nat.and_or_distrib_left, and_one, and_one]
  rw [e]
  cases x.toNat.testBit i <;> cases x.toNat.testBit j <;> simp [h]
theorem xor_bit {a o : Int} (ha : 0 ≤ a) (ho : 0 ≤ o) (i : Nat) : (Builtin.bitXor a o).toNat.testBit i = (a.toNat.testBit i ^^ o.toNat.testBit i) := by
  rw [xor_pp ha ho, Int.toNat_natCast, Nat.testBit_xor]
theorem xor_nn {a o : Int} (ha : 0 ≤ a) (ho : 0 ≤ o) : 0 ≤ Builtin.bitXor a o := by
  rw [xor_pp ha ho]; exact Int.natCast_nonneg _
theorem col1 {a o : Int} (ha : 0 ≤ a) (ho : 0 ≤ o) : sameOf a o 1 = ((fm a).getD 1 0 == (fm o).getD 1 0) := by
  have A : Builtin.bitAnd a 256 = if a.toNat.testBit 8 then 256 else 0 := bA ha 8
  have O : Builtin.bitAnd o 256 = if o.toNat.testBit 8 then 256 else 0 := bA ho 8
  have X : Builtin.bitAnd (Builtin.bitXor a o) 256 = if (Builtin.bitXor a o).toNat.testBit 8 then 256 else 0 := bA (xor_nn ha ho) 8
  rw [xor_bit ha ho] at X
  show (Builtin.bitAnd (Builtin.bitXor a o) 256 == 0) = ((if decide (Builtin.bitAnd a 256 = 256) = true then 114 else 45) == (if decide (Builtin.bitAnd o 256 = 256) = true then 114 else 45))
  rw [X]
  simp only [A, O]
  cases a.toNat.testBit 8 <;> cases o.toNat.testBit 8 <;> decide
theorem col2 {a o : Int} (ha : 0 ≤ a) (ho : 0 ≤ o) : sameOf a o 2 = ((fm a).getD 2 0 == (fm o).getD 2 0) := by
  have A : Builtin.bitAnd a 128 = if a.toNat.testBit 7 then 128 else 0 := bA ha 7
  have O : Builtin.bitAnd o 128 = if o.toNat.testBit 7 then 128 else 0 := bA ho 7
  have X : Builtin.bitAnd (Builtin.bitXor a o) 128 = if (Builtin.bitXor a o).toNat.testBit 7 then 128 else 0 := bA (xor_nn ha ho) 7
  rw [xor_bit ha ho] at X
  show (Builtin.bitAnd (Builtin.bitXor a o) 128 == 0) = ((if decide (Builtin.bitAnd a 128 = 128) = true then 119 else 45) == (if decide (Builtin.bitAnd o 128 = 128) = true then 119 else 45))
  rw [X]
  simp only [A, O]
  cases a.toNat.testBit 7 <;> cases o.toNat.testBit 7 <;> decide
theorem col4 {a o : Int} (ha : 0 ≤ a) (ho : 0 ≤ o) : sameOf a o 4 = ((fm a).getD 4 0 == (fm o).getD 4 0) := by
  have A : Builtin.bitAnd a 32 = if a.toNat.testBit 5 then 32 else 0 := bA ha 5
  have O : Builtin.bitAnd o 32 = if o.toNat.testBit 5 then 32 else 0 := bA ho 5
  have X : Builtin.bitAnd (Builtin.bitXor a o) 32 = if (Builtin.bitXor a o).toNat.testBit 5 then 32 else 0 := bA (xor_nn ha ho) 5
  rw [xor_bit ha ho] at X
  show (Builtin.bitAnd (Builtin.bitXor a o) 32 == 0) = ((if decide (Builtin.bitAnd a 32 = 32) = true then 114 else 45) == (if decide (Builtin.bitAnd o 32 = 32) = true then 114 else 45))
  rw [X]
  simp only [A, O]
  cases a.toNat.testBit 5 <;> cases o.toNat.testBit 5 <;> decide
theorem col5 {a o : Int} (ha : 0 ≤ a) (ho : 0 ≤ o) : sameOf a o 5 = ((fm a).getD 5 0 == (fm o).getD 5 0) := by
  have A : Builtin.bitAnd a 16 = if a.toNat.testBit 4 then 16 else 0 := bA ha 4
  have O : Builtin.bitAnd o 16 = if o.toNat.testBit 4 then 16 else 0 := bA ho 4
  have X : Builtin.bitAnd (Builtin.bitXor a o) 16 = if (Builtin.bitXor a o).toNat.testBit 4 then 16 else 0 := bA (xor_nn ha ho) 4
  rw [xor_bit ha ho] at X
  show (Builtin.bitAnd (Builtin.bitXor a o) 16 == 0) = ((if decide (Builtin.bitAnd a 16 = 16) = true then 119 else 45) == (if decide (Builtin.bitAnd o 16 = 16) = true then 119 else 45))
  rw [X]
  simp only [A, O]
  cases a.toNat.testBit 4 <;> cases o.toNat.testBit 4 <;> decide
theorem col7 {a o : Int} (ha : 0 ≤ a) (ho : 0 ≤ o) : sameOf a o 7 = ((fm a).getD 7 0 == (fm o).getD 7 0) := by
  have A : Builtin.bitAnd a 4 = if a.toNat.testBit 2 then 4 else 0 := bA ha 2
  have O : Builtin.bitAnd o 4 = if o.toNat.testBit 2 then 4 else 0 := bA ho 2
  have X : Builtin.bitAnd (Builtin.bitXor a o) 4 = if (Builtin.bitXor a o).toNat.testBit 2 then 4 else 0 := bA (xor_nn ha ho) 2
  rw [xor_bit ha ho] at X
  show (Builtin.bitAnd (Builtin.bitXor a o) 4 == 0) = ((if decide (Builtin.bitAnd a 4 = 4) = true then 114 else 45) == (if decide (Builtin.bitAnd o 4 = 4) = true then 114 else 45))
  rw [X]
  simp only [A, O]
  cases a.toNat.testBit 2 <;> cases o.toNat.testBit 2 <;> decide
theorem col8 {a o : Int} (ha : 0 ≤ a) (ho : 0 ≤ o) : sameOf a o 8 = ((fm a).getD 8 0 == (fm o).getD 8 0) := by
  have A : Builtin.bitAnd a 2 = if a.toNat.testBit 1 then 2 else 0 := bA ha 1
  have O : Builtin.bitAnd o 2 = if o.toNat.testBit 1 then 2 else 0 := bA ho 1
  have X : Builtin.bitAnd (Builtin.bitXor a o) 2 = if (Builtin.bitXor a o).toNat.testBit 1 then 2 else 0 := bA (xor_nn ha ho) 1
  rw [xor_bit ha ho] at X
  show (Builtin.bitAnd (Builtin.bitXor a o) 2 == 0) = ((if decide (Builtin.bitAnd a 2 = 2) = true then 119 else 45) == (if decide (Builtin.bitAnd o 2 = 2) = true then 119 else 45))
  rw [X]
  simp only [A, O]
  cases a.toNat.testBit 1 <;> cases o.toNat.testBit 1 <;> decide
theorem col3 {a o : Int} (ha : 0 ≤ a) (ho : 0 ≤ o) : sameOf a o 3 = ((fm a).getD 3 0 == (fm o).getD 3 0) := by
  have A : Builtin.bitAnd a 64 = if a.toNat.testBit 6 then 64 else 0 := bA ha 6
  have O : Builtin.bitAnd o 64 = if o.toNat.testBit 6 then 64 else 0 := bA ho 6
  have A1 : Builtin.bitAnd a 2048 = if a.toNat.testBit 11 then 2048 else 0 := bA ha 11
  have O1 : Builtin.bitAnd o 2048 = if o.toNat.testBit 11 then 2048 else 0 := bA ho 11
  have A2 : Builtin.bitAnd a 2112 = if a.toNat.testBit 6 then (if a.toNat.testBit 11 then 2112 else 64) else (if a.toNat.testBit 11 then 2048 else 0) := bA2 ha 6 11 (by decide)
  have O2 : Builtin.bitAnd o 2112 = if o.toNat.testBit 6 then (if o.toNat.testBit 11 then 2112 else 64) else (if o.toNat.testBit 11 then 2048 else 0) := bA2 ho 6 11 (by decide)
  have X2 : Builtin.bitAnd (Builtin.bitXor a o) 2112 = if (Builtin.bitXor a o).toNat.testBit 6 then (if (Builtin.bitXor a o).toNat.testBit 11 then 2112 else 64) else (if (Builtin.bitXor a o).toNat.testBit 11 then 2048 else 0) := bA2 (xor_nn ha ho) 6 11 (by decide)
  rw [xor_bit ha ho, xor_bit ha ho] at X2
  show (Builtin.bitAnd (Builtin.bitXor a o) 2112 == 0) = ((if decide (Builtin.bitAnd a 2112 = 2112) = true then 115 else if decide (Builtin.bitAnd a 2048 = 2048) = true then 83 else if decide (Builtin.bitAnd a 64 = 64) = true then 120 else 45) == (if decide (Builtin.bitAnd o 2112 = 2112) = true then 115 else if decide (Builtin.bitAnd o 2048 = 2048) = true then 83 else if decide (Builtin.bitAnd o 64 = 64) = true then 120 else 45))
  rw [X2]
  simp only [A, O, A1, O1, A2, O2]
  cases a.toNat.testBit 6 <;> cases o.toNat.testBit 6 <;> cases a.toNat.testBit 11 <;> cases o.toNat.testBit 11 <;> decide
theorem col6 {a o : Int} (ha : 0 ≤ a) (ho : 0 ≤ o) : sameOf a o 6 = ((fm a).getD 6 0 == (fm o).getD 6 0) := by
  have A : Builtin.bitAnd a 8 = if a.toNat.testBit 3 then 8 else 0 := bA ha 3
  have O : Builtin.bitAnd o 8 = if o.toNat.testBit 3 then 8 else 0 := bA ho 3
  have A1 : Builtin.bitAnd a 1024 = if a.toNat.testBit 10 then 1024 else 0 := bA ha 10
  have O1 : Builtin.bitAnd o 1024 = if o.toNat.testBit 10 then 1024 else 0 := bA ho 10
  have A2 : Builtin.bitAnd a 1032 = if a.toNat.testBit 3 then (if a.toNat.testBit 10 then 1032 else 8) else (if a.toNat.testBit 10 then 1024 else 0) := bA2 ha 3 10 (by decide)
  have O2 : Builtin.bitAnd o 1032 = if o.toNat.testBit 3 then (if o.toNat.testBit 10 then 1032 else 8) else (if o.toNat.testBit 10 then 1024 else 0) := bA2 ho 3 10 (by decide)
  have X2 : Builtin.bitAnd (Builtin.bitXor a o) 1032 = if (Builtin.bitXor a o).toNat.testBit 3 then (if (Builtin.bitXor a o).toNat.testBit 10 then 1032 else 8) else (if (Builtin.bitXor a o).toNat.testBit 10 then 1024 else 0) := bA2 (xor_nn ha ho) 3 10 (by decide)
  rw [xor_bit ha ho, xor_bit ha ho] at X2
  show (Builtin.bitAnd (Builtin.bitXor a o) 1032 == 0) = ((if decide (Builtin.bitAnd a 1032 = 1032) = true then 115 else if decide (Builtin.bitAnd a 1024 = 1024) = true then 83 else if decide (Builtin.bitAnd a 8 = 8) = true then 120 else 45) == (if decide (Builtin.bitAnd o 1032 = 1032) = true then 115 else if decide (Builtin.bitAnd o 1024 = 1024) = true then 83 else if decide (Builtin.bitAnd o 8 = 8) = true then 120 else 45))
  rw [X2]
  simp only [A, O, A1, O1, A2, O2]
  cases a.toNat.testBit 3 <;> cases o.toNat.testBit 3 <;> cases a.toNat.testBit 10 <;> cases o.toNat.testBit 10 <;> decide
theorem col9 {a o : Int} (ha : 0 ≤ a) (ho : 0 ≤ o) : sameOf a o 9 = ((fm a).getD 9 0 == (fm o).getD 9 0) := by
  have A : Builtin.bitAnd a 1 = if a.toNat.testBit 0 then 1 else 0 := bA ha 0
  have O : Builtin.bitAnd o 1 = if o.toNat.testBit 0 then 1 else 0 := bA ho 0
  have A1 : Builtin.bitAnd a 512 = if a.toNat.testBit 9 then 512 else 0 := bA ha 9
  have O1 : Builtin.bitAnd o 512 = if o.toNat.testBit 9 then 512 else 0 := bA ho 9
  have A2 : Builtin.bitAnd a 513 = if a.toNat.testBit 0 then (if a.toNat.testBit 9 then 513 else 1) else (if a.toNat.testBit 9 then 512 else 0) := bA2 ha 0 9 (by decide)
  have O2 : Builtin.bitAnd o 513 = if o.toNat.testBit 0 then (if o.toNat.testBit 9 then 513 else 1) else (if o.toNat.testBit 9 then 512 else 0) := bA2 ho 0 9 (by decide)
  have X2 : Builtin.bitAnd (Builtin.bitXor a o) 513 = if (Builtin.bitXor a o).toNat.testBit 0 then (if (Builtin.bitXor a o).toNat.testBit 9 then 513 else 1) else (if (Builtin.bitXor a o).toNat.testBit 9 then 512 else 0) := bA2 (xor_nn ha ho) 0 9 (by decide)
  rw [xor_bit ha ho, xor_bit ha ho] at X2
  show (Builtin.bitAnd (Builtin.bitXor a o) 513 == 0) = ((if decide (Builtin.bitAnd a 513 = 513) = true then 116 else if decide (Builtin.bitAnd a 512 = 512) = true then 84 else if decide (Builtin.bitAnd a 1 = 1) = true then 120 else 45) == (if decide (Builtin.bitAnd o 513 = 513) = true then 116 else if decide (Builtin.bitAnd o 512 = 512) = true then 84 else if decide (Builtin.bitAnd o 1 = 1) = true then 120 else 45))
  rw [X2]
  simp only [A, O, A1, O1, A2, O2]
  cases a.toNat.testBit 0 <;> cases o.toNat.testBit 0 <;> cases a.toNat.testBit 9 <;> cases o.toNat.testBit 9 <;> decide
/-- the kind's bits -/
theorem ifmt {a : Int} (h0 : 0 ≤ a) (h1 : a < 65536) : Builtin.bitAnd a 61440 = a / 4096 * 4096 := by
  have e : Builtin.bitAnd a 61440 = ((a.toNat &&& 61440 : Nat) : Int) := bitAnd_nat h0 61440
  rw [e]
  have e2 : a.toNat &&& 61440 = a.toNat / 4096 * 4096 := by
    have hm : a.toNat < 2 ^ 16 := by omega
    apply Nat.eq_of_testBit_eq
    intro j
    rw [Nat.testBit_and, show (61440 : Nat) = (2 ^ 4 - 1) * 2 ^ 12 by decide, show a.toNat / 4096 * 4096 = (a.toNat / 2 ^ 12) * 2 ^ 12 from rfl, Nat.testBit_mul_two_pow, Nat.testBit_mul_two_pow, Nat.testBit_div_two_pow, Nat.testBit_two_pow_sub_one]
    by_cases hj : 12 ≤ j
    · by_cases hj2 : j < 16
      · have : j - 12 < 4 := by omega
        simp [hj, this]
      · have : a.toNat.testBit j = false := Nat.testBit_lt_two_pow (Nat.lt_of_lt_of_le hm (Nat.pow_le_pow_right (by decide) (by omega)))
        simp [hj, this]
    · simp [hj]
  rw [e2]; omega
noncomputable def kOf (k : Int) : Int := if ([1, 2, 4, 6, 8, 10, 12] : List Int).any (fun x => x == k) = true then k else 0
noncomputable def gOf (k : Int) : Nat := hit (fun b => decide (k * 4096 = b)) 63 [(88, 40960, 108), (89, 49152, 115), (90, 32768, 45), (91, 24576, 98), (92, 16384, 100), (93, 8192, 99), (94, 4096, 112)]
theorem kOf_gOf : ∀ i j : _root_.Fin 16, (kOf (i.val : Int) == kOf (j.val : Int)) = (gOf (i.val : Int) == gOf (j.val : Int)) := by decide +kernel
theorem nib {a : Int} (h0 : 0 ≤ a) (h1 : a < 65536) : ∃ i : _root_.Fin 16, a / 4096 = (i.val : Int) := ⟨⟨(a / 4096).toNat, by omega⟩, by show _ = (((a / 4096).toNat : Nat) : Int); omega⟩
theorem fm0 {a : Int} (h0 : 0 ≤ a) (h1 : a < 65536) : (fm a).getD 0 0 = gOf (a / 4096) := by
  show hit (fun b => decide (Builtin.bitAnd a 61440 = b)) 63 _ = _
  rw [ifmt h0 h1]; rfl
theorem col0 {a o : Int} (ha : 0 ≤ a) (ha1 : a < 65536) (ho : 0 ≤ o) (ho1 : o < 65536) : sameOf a o 0 = ((fm a).getD 0 0 == (fm o).getD 0 0) := by
  have k : ∀ x : Int, 0 ≤ x → kindOf x = kOf (x / 4096) := fun x hx => by
    have : x.fdiv (2 ^ Int.toNat 12) = x / 4096 := by rw [Int.fdiv_eq_ediv_of_nonneg _ (by decide)]; rfl
    unfold kindOf kOf
    rw [this]
  show (kindOf a == kindOf o) = _
  rw [k a ha, k o ho, fm0 ha ha1, fm0 ho ho1]
  obtain ⟨i, hi⟩ := nib ha ha1
  obtain ⟨j, hj⟩ := nib ho ho1
  rw [hi, hj]
  exact kOf_gOf i j
theorem cols {a o : Int} (ha : 0 ≤ a) (ha1 : a < 65536) (ho : 0 ≤ o) (ho1 : o < 65536) (c : Nat) (hc : c < 10) : sameOf a o c = ((fm a).getD c 0 == (fm o).getD c 0) := by
  match c, hc with
  | 0, _ => exact col0 ha ha1 ho ho1
  | 1, _ => exact col1 ha ho
  | 2, _ => exact col2 ha ho
  | 3, _ => exact col3 ha ho
  | 4, _ => exact col4 ha ho
  | 5, _ => exact col5 ha ho
  | 6, _ => exact col6 ha ho
  | 7, _ => exact col7 ha ho
  | 8, _ => exact col8 ha ho
  | 9, _ => exact col9 ha ho
  | c + 10, h => omega
theorem shown_gOf : ∀ i : _root_.Fin 16, (kinds7.map fun c => gOf (i.val : Int) == c) = ([1, 2, 4, 6, 8, 10, 12].map fun k : Int => ((i.val : Int) == k)) ∧ (kinds7.map fun c => gOf (i.val : Int) == c) = ([4096, 8192, 16384, 24576, 32768, 40960, 49152].map fun k : Int => ((i.val : Int) * 4096 == k)) := by decide +kernel
theorem shown_eq {a : Int} (h0 : 0 ≤ a) (h1 : a < 65536) (c : Nat) : shownOf (fm a) c = (gOf (a / 4096) == c) := by
  show ((if ((S [(fm a).getD 0 0] == S [c]) != true) = true then (0 : Int) else 2) == 2) = _
  rw [S_beq, fm0 h0 h1]
  cases (gOf (a / 4096) == c) <;> decide
theorem shown_fits {a : Int} (h0 : 0 ≤ a) (h1 : a < 65536) : (kinds7.map fun c => Value.bool (shownOf (fm a) c)) = ([1, 2, 4, 6, 8, 10, 12].map fun k : Int => Value.bool (a / 4096 == k)) ∧ (kinds7.map fun c => Value.bool (shownOf (fm a) c)) = ([4096, 8192, 16384, 24576, 32768, 40960, 49152].map fun k : Int => Value.bool (Builtin.bitAnd a 61440 == k)) := by
  obtain ⟨i, hi⟩ := nib h0 h1
  have e := shown_gOf i
  have e0 : (kinds7.map fun c => Value.bool (shownOf (fm a) c)) = (kinds7.map fun c => gOf (i.val : Int) == c).map Value.bool := by
    rw [List.map_map]
    refine List.map_congr_left fun c _ => ?_
    show Value.bool _ = Value.bool _
    rw [shown_eq h0 h1, hi]
  refine ⟨?_, ?_⟩
  · rw [e0, e.1, List.map_map, hi]; rfl
  · rw [e0, e.2, List.map_map, ifmt h0 h1, hi]; rfl
theorem reach_fits {mode n asked : Int} (hm0 : 0 ≤ mode) (hm1 : mode < 65536) (hn : 0 ≤ n) (ha0 : 0 ≤ asked) (ha1 : asked < 65536) : reach (ruleOf mode n).1 (fm asked) = told asked (otherOf mode n) n := by
  have ob := other_bd (n := n) hm0 hm1
  unfold ruleOf
  dsimp only
  rw [asks_ps]
  have h := reach_told (asked := asked) (other := otherOf mode n) hn (fm asked) (((asksFrom 0 (pcsFrom (fm (otherOf mode n)) n)).length : Int) + 1) (fm (otherOf mode n)) 0 1 fun j c hj => by
    have hj10 : j < 10 := by
      have := (List.getElem?_eq_some_iff.mp hj).1
      rw [fm_length] at this; exact this
    rw [Nat.zero_add, cols ha0 ha1 ob.1 ob.2 j hj10]
    rw [List.getD_eq_getElem?_getD (l := fm (otherOf mode n)), hj]; rfl
  rw [fm_length, show n / 3 ^ 0 = n by simp, ← List.range_eq_range'] at h
  unfold reach told
  rcases h with ⟨h1, h2⟩ | ⟨h1, h2⟩
  · rw [h1, h2]; omega
  · rw [h1, h2]
theorem reachFrom_bd (row : List Nat) (all : Int) : ∀ l : List Ask, reachFrom row all l = all ∨ reachFrom row all l = 0
  | [] => .inl rfl
  | k :: r => by
    unfold reachFrom
    split
    · exact .inr rfl
    · exact reachFrom_bd row all r
theorem reach_bd {mode n asked : Int} : 0 ≤ reach (ruleOf mode n).1 (fm asked) ∧ reach (ruleOf mode n).1 (fm asked) ≤ 100 := by
  have hl : (ruleOf mode n).1.length ≤ 10 := by
    unfold ruleOf
    dsimp only
    rw [asks_ps]
    have := asksFrom_len (pcsFrom (fm (otherOf mode n)) n) 0
    rw [pcs_length, fm_length] at this; exact this
  unfold reach
  rcases reachFrom_bd (fm asked) (((ruleOf mode n).1.length : Int) + 1) (ruleOf mode n).1 with h | h
  · rw [h]; omega
  · rw [h]; omega
end Mine
end
section
open PySem PySem.W PyProof.Rows PySem.Calls PySem.Spec
set_option maxRecDepth 100000
namespace Mine
noncomputable def keyP (x : Int × Bool) : Int := 2 * x.1 + (if x.2 then 1 else 0)
noncomputable def IsMax (l : List (Int × Bool)) (r : Int × Bool) : Prop := r ∈ l ∧ ∀ y ∈ l, keyP y ≤ keyP r
theorem IsMax.snd {l l' : List (Int × Bool)} {r r' : Int × Bool} (h : IsMax l r) (h' : IsMax l' r') (hl : ∀ x, x ∈ l ↔ x ∈ l') : r.2 = r'.2 := by
  have a := h.2 r' ((hl r').mpr h'.1)
  have b := h'.2 r ((hl r).mp h.1)
  obtain ⟨x, p⟩ := r
  obtain ⟨y, q⟩ := r'
  unfold keyP at a b
  cases p <;> cases q <;> simp at a b ⊢ <;> omega
noncomputable def tellP (row : List Nat) : List (List Ask × Bool) → List (Int × Bool)
  | [] => []
  | r :: l => if reach r.1 row ≠ 0 then (reach r.1 row, r.2) :: tellP row l else tellP row l
theorem tell_app (row : List Nat) : ∀ a b : List (List Ask × Bool), tellP row (a ++ b) = tellP row a ++ tellP row b
  | [], _ => rfl
  | r :: l, b => by
    show (if reach r.1 row ≠ 0 then (reach r.1 row, r.2) :: tellP row (l ++ b) else tellP row (l ++ b)) = (if reach r.1 row ≠ 0 then (reach r.1 row, r.2) :: tellP row l else tellP row l) ++ tellP row b
    rw [tell_app row l b]
    split <;> rfl
theorem tell_mem {row : List Nat} {x : Int × Bool} : ∀ {l : List (List Ask × Bool)}, x ∈ tellP row l ↔ ∃ r ∈ l, reach r.1 row ≠ 0 ∧ x = (reach r.1 row, r.2)
  | [] => by simp [tellP]
  | r :: l => by
    unfold tellP
    split
    · rename_i h
      rw [List.mem_cons, tell_mem]
      constructor
      · rintro (h9 | ⟨r9, a, b, c⟩)
        · exact ⟨r, .head _, h, h9⟩
        · exact ⟨r9, .tail _ a, b, c⟩
      · rintro ⟨r9, a, b, c⟩
        rcases List.mem_cons.mp a with rfl | a
        · exact .inl c
        · exact .inr ⟨r9, a, b, c⟩
    · rename_i h
      rw [tell_mem]
      constructor
      · rintro ⟨r9, a, b, c⟩
        exact ⟨r9, .tail _ a, b, c⟩
      · rintro ⟨r9, a, b, c⟩
        rcases List.mem_cons.mp a with rfl | a
        · exact absurd b h
        · exact ⟨r9, a, b, c⟩
theorem max_more {l : List (Int × Bool)} {x y r : Int × Bool} (h : IsMax (y :: l) r) (hk : keyP x ≤ keyP y) : IsMax (x :: y :: l) r := by
  refine ⟨.tail _ h.1, fun z hz => ?_⟩
  rcases List.mem_cons.mp hz with rfl | hz
  · exact Int.le_trans hk (h.2 y (.head _))
  · exact h.2 z hz
theorem max_skip {l : List (Int × Bool)} {x y r : Int × Bool} (h : IsMax (x :: l) r) (hk : keyP y ≤ keyP x) : IsMax (x :: y :: l) r := by
  refine ⟨?_, fun z hz => ?_⟩
  · rcases List.mem_cons.mp h.1 with e | e
    · rw [e]; exact .head _
    · exact .tail _ (.tail _ e)
  · rcases List.mem_cons.mp hz with rfl | hz
    · exact h.2 z (.head _)
    · rcases List.mem_cons.mp hz with rfl | hz
      · exact Int.le_trans hk (h.2 x (.head _))
      · exact h.2 z (.tail _ hz)
theorem allow_max (row : List Nat) : ∀ (l : List (List Ask × Bool)) (best : Int) (al : Bool), ∃ r, IsMax ((best, al) :: tellP row l) r ∧ allowFrom row l best al = r.2
  | [], best, al => ⟨(best, al), ⟨.head _, fun y hy => by rw [List.mem_singleton.mp hy]; exact Int.le_refl _⟩, rfl⟩
  | r :: l, best, al => by
    by_cases h0 : reach r.1 row ≠ 0
    · have e : tellP row (r :: l) = (reach r.1 row, r.2) :: tellP row l := if_pos h0
      rw [e]
      generalize hm : reach r.1 row = m9 at h0
      by_cases h1 : best < m9
      · obtain ⟨z, hz, ha⟩ := allow_max row l m9 r.2
        refine ⟨z, max_more hz ?_, by rw [allow1 hm h0 h1]; exact ha⟩
        unfold keyP
        cases al <;> cases r.2 <;> simp <;> omega
      · by_cases h2 : m9 = best ∧ al = false
        · obtain ⟨z, hz, ha⟩ := allow_max row l best r.2
          refine ⟨z, ?_, by rw [allow3 hm h0 h1 h2.1 h2.2]; exact ha⟩
          rw [h2.1]
          refine max_more hz ?_
          rw [h2.2]
          unfold keyP
          cases r.2 <;> simp <;> omega
        · obtain ⟨z, hz, ha⟩ := allow_max row l best al
          refine ⟨z, max_skip hz ?_, ?_⟩
          · unfold keyP
            cases al with
            | true => cases r.2 <;> simp <;> omega
            | false =>
              have : m9 ≠ best := fun e => h2 ⟨e, rfl⟩
              cases r.2 <;> simp <;> omega
          · subst hm
            exact ((if_pos h0).trans ((if_neg h1).trans (if_neg h2))).trans ha
    · have e : tellP row (r :: l) = tellP row l := if_neg h0
      rw [e]
      obtain ⟨z, hz, ha⟩ := allow_max row l best al
      exact ⟨z, hz, (if_neg h0).trans ha⟩
theorem gt_key (x y : Int × Bool) : gtP x y = true ↔ keyP y < keyP x := by
  obtain ⟨a, p⟩ := x
  obtain ⟨b, q⟩ := y
  unfold gtP keyP
  by_cases h : a = b
  · subst h
    cases p <;> cases q <;> simp [b2i] <;> omega
  · have : (a == b) = false := by simpa using h
    simp only [this]
    cases p <;> cases q <;> simp <;> omega
theorem best_max (l : List (Int × Bool)) : ∀ j, j < l.length → IsMax (l.take (j + 1)) (bestOf l j)
  | 0, h => by
    cases l with
    | nil => simp at h
    | cons x r => exact ⟨.head _, fun y hy => by simp at hy; rw [hy]; exact Int.le_refl _⟩
  | j + 1, h => by
    have ih := best_max l j (by omega)
    have hg : l.getD (j + 1) (0, false) = l[j + 1] := by rw [List.getD_eq_getElem?_getD, List.getElem?_eq_getElem h]; rfl
    have ht : l.take (j + 1 + 1) = l.take (j + 1) ++ [l[j + 1]] := by rw [List.take_add_one, List.getElem?_eq_getElem h]; rfl
    unfold bestOf
    rw [hg, ht]
    split
    · rename_i hgt
      have := (gt_key _ _).mp hgt
      refine ⟨List.mem_append_right _ (.head _), fun y hy => ?_⟩
      rcases List.mem_append.mp hy with hy | hy
      · exact Int.le_trans (ih.2 y hy) (Int.le_of_lt this)
      · rw [List.mem_singleton.mp hy]; exact Int.le_refl _
    · rename_i hgt
      have : ¬ keyP (bestOf l j) < keyP l[j + 1] := fun e => hgt ((gt_key _ _).mpr e)
      refine ⟨List.mem_append_left _ ih.1, fun y hy => ?_⟩
      rcases List.mem_append.mp hy with hy | hy
      · exact ih.2 y hy
      · rw [List.mem_singleton.mp hy]; omega
theorem right_max {l : List (Int × Bool)} (h : l ≠ []) : ∃ r, IsMax l r ∧ rightOf l = r.2 := by
  have hl : 0 < l.length := List.length_pos_iff.mpr h
  have := best_max l (l.length - 1) (by omega)
  rw [show l.length - 1 + 1 = l.length by omega, List.take_length] at this
  refine ⟨_, this, ?_⟩
  unfold rightOf
  cases l with
  | nil => exact absurd rfl h
  | cons x r => rfl
theorem allow_right (row : List Nat) (rules l : List (List Ask × Bool)) (hl : ∀ r, r ∈ l ↔ r ∈ rules) (hpos : ∀ r ∈ rules, 0 ≤ reach r.1 row) : allowFrom row l (-1) true = rightOf (tellP row rules) := by
  obtain ⟨r, hr, ha⟩ := allow_max row l (-1) true
  have hm : ∀ x, x ∈ tellP row l ↔ x ∈ tellP row rules := fun x => by
    rw [tell_mem, tell_mem]
    exact ⟨fun ⟨r, a, b⟩ => ⟨r, (hl r).mp a, b⟩, fun ⟨r, a, b⟩ => ⟨r, (hl r).mpr a, b⟩⟩
  rw [ha]
  by_cases he : tellP row rules = []
  · rw [he]
    have hr1 := hr.1
    rcases List.mem_cons.mp hr1 with e | e
    · rw [e]; rfl
    · rw [hm, he] at e; exact absurd e List.not_mem_nil
  · obtain ⟨z, hz, hb⟩ := right_max he
    rw [hb]
    have hz1 := (hm z).mpr hz.1
    have hk : keyP (-1, true) < keyP z := by
      obtain ⟨r9, c1, c2, c3⟩ := tell_mem.mp hz.1
      have := hpos r9 c1
      rw [c3]
      show (2 * (-1) + 1 : Int) < 2 * reach r9.1 row + (if r9.2 then 1 else 0)
      cases r9.2 <;> simp <;> omega
    have hr2 : IsMax (tellP row l) r := by
      refine ⟨?_, fun y hy => hr.2 y (.tail _ hy)⟩
      rcases List.mem_cons.mp hr.1 with e | e
      · have := hr.2 z (.tail _ hz1)
        rw [e] at this
        omega
      · exact e
    exact hr2.snd hz hm
theorem told_tell {asked mode : Int} : ∀ nums : List Int, (∀ n ∈ nums, reach (ruleOf mode n).1 (fm asked) = told asked (otherOf mode n) n) → tellP (fm asked) (nums.map (ruleOf mode)) = toldL asked mode nums
  | [], _ => rfl
  | n :: l, h => by
    have ih := told_tell l fun n hn => h n (.tail _ hn)
    rw [List.map_cons]
    unfold tellP toldL
    rw [ih, h n (.head _)]
    rfl
theorem fits {mode : Int} {nums : List Int} (h0 : 0 ≤ mode) (h1 : mode < 65536) (hn : ∀ n ∈ nums, 0 ≤ n ∧ n < 10000000000) : ∀ asked ∈ [mode, Builtin.bitXor mode 8465], Fits mode nums asked := by
  intro asked hk
  have hb : 0 ≤ asked ∧ asked < 65536 := by
    rcases List.mem_cons.mp hk with rfl | hk
    · exact ⟨h0, h1⟩
    · rw [List.mem_singleton.mp hk]
      exact xor_bd h0 h1 (by decide) (by decide)
  have hr : ∀ n ∈ nums, reach (ruleOf mode n).1 (fm asked) = told asked (otherOf mode n) n := fun n hn9 => reach_fits h0 h1 (hn n hn9).1 hb.1 hb.2
  have hbd : ∀ r ∈ nums.map (ruleOf mode), 0 ≤ reach r.1 (fm asked) ∧ reach r.1 (fm asked) ≤ 100 := fun r hr9 => by
    obtain ⟨n, -, rfl⟩ := List.mem_map.mp hr9
    exact reach_bd
  have hs := shown_fits hb.1 hb.2
  refine ⟨hb, hr, hbd, ?_, ?_, hs.1, hs.2⟩
  · rw [← told_tell nums hr]
    exact allow_right _ _ _ (fun r => Iff.rfl) fun r hr9 => (hbd r hr9).1
  · rw [← told_tell nums hr]
    exact allow_right _ _ _ (fun r => List.mem_reverse) fun r hr9 => (hbd r hr9).1
end Mine
end
section
open PySem PySem.W PyProof.Rows PySem.Calls PySem.Spec
set_option maxRecDepth 100000
namespace Mine
/-- the law's end, where generators have run -/
noncomputable def EndsTrue (s₁ : Shared) (tabs : List (Addr × Addr)) (r : Result) (s' : Shared) : Prop :=
  r = .ok (.ret (.bool true)) ∧ (∀ b o, (ghostOf s₁.heap tabs).get? b = some o → s'.heap.get? b = some o) ∧ s'.os = s₁.os ∧ AllBare s'.gens ∧ GrownAll tabs s'.heap
theorem kn_true {M : Model} {A : Around} {cd : Code} {s s₁ : Shared} {cw : ClaimW} {cl : Str → Option Addr} {mean : ExcName → Option Value} {args : List WData} {tabs : List (Addr × Addr)} (hT : TabsAt tabs s₁.heap) (hr : ∀ a x, cw.raises a x = false) (hp : cw.post args (.bool true) args = true)
    (h : codeAny M A cd (EndsTrue s₁ tabs) s) : codeAny M A cd (GoodWG cw cl mean args s₁) s := by
  refine codeAny_mono h fun r s' e => ?_
  obtain ⟨rfl, hk, hos, hg, hgr⟩ := e
  have other : ∀ b o, b ∉ tabs.map (·.2) → s₁.heap.get? b = some o → s'.heap.get? b = some o := fun b o hb q => hk b o (ghost_ne q hb)
  have table : ∀ q ∈ tabs, isCodeTable s₁.heap q.2 ∧ s₁.heap.get? q.2 = some (tabObj #[]) ∧ ∃ ps, s'.heap.get? q.2 = some (tabObj ps) := fun q hq =>
    ⟨((hT q hq).1.tab (hT q hq).2).isCodeTable, (hT q hq).2, hgr.get q hq⟩
  refine ⟨.inl ⟨_, .bool true, [], rfl, fun x => hr _ x, .bool true, hp, fun _ => ⟨.nil, fun _ ha => absurd ha List.not_mem_nil⟩⟩, ⟨fun b o q => ?_, fun b o q => ?_⟩, hos, hg⟩
  · by_cases hb : b ∈ tabs.map (·.2)
    · obtain ⟨y, hy, rfl⟩ := List.mem_map.mp hb
      obtain ⟨t1, t2, ps, t3⟩ := table y hy
      rw [t2] at q
      cases q
      exact .inr (.inl ⟨t1, rfl, #[], ps, rfl, by rw [Array.empty_append]; exact t3⟩)
    · exact .inl (other b o hb q)
  · by_cases hb : b ∈ tabs.map (·.2)
    · obtain ⟨y, hy, rfl⟩ := List.mem_map.mp hb
      obtain ⟨_, _, ps, t3⟩ := table y hy
      exact ⟨_, t3⟩
    · exact ⟨o, other b o hb q⟩
end Mine
end
section
open PySem PySem.W PyProof.Rows PySem.Calls PySem.Spec
set_option maxRecDepth 100000
set_option maxHeartbeats 2000000
namespace Mine
theorem lines_LW1 : True := by
  k_with_none
  k_with "my posts" => refine kn_true (by assumption) (fun _ _ => rfl) (by wrow_post) ?_
  k_with "my mem" => assumption
  k_with "my all" => assumption
  k_with "my steps" => repeat' ((fail_if_success (with_reducible show wpAny _ _ (exec (Stmt.For _ _ _ _ _) _) _ _ _)); (fail_if_success (with_reducible show wpAny _ _ (exec (Stmt.Return _ _) _) _ _ _)); (fail_if_success (with_reducible show wpAny _ _ (execs (Stmt.Assign [Expr.Tuple _ _ _] _ _ :: _) _) _ _ _)); first | walk1 | (dsimp only; walk1) | (leave1; walk_say "STEP leave1"; try dsimp only) | fail "no step")
  k_with "my exec If" => refine wpAny_If ?_
  k_with "my eval Name" => (k_dflt (refine' nameX_L ?F ?v ?_ ?a ?b; (case F => k_asm); (case a => rfl); (case b => rfl); (case v => rfl); k_whole))
  trivial
theorem drop3 {h₀ h : Heap} {L : Addr} {a b c d e f i j : Addr × Obj} (N : News h₀ L h [a, b, c, d, e, f, i, j]) : News h₀ L h [a, e, f, i, j] := news_sub N fun q hq => by
  simp only [List.mem_cons, List.not_mem_nil, or_false] at hq ⊢
  rcases hq with h | h | h | h | h
  · exact .inl h
  · exact .inr (.inr (.inr (.inr (.inl h))))
  · exact .inr (.inr (.inr (.inr (.inr (.inl h)))))
  · exact .inr (.inr (.inr (.inr (.inr (.inr (.inl h))))))
  · exact .inr (.inr (.inr (.inr (.inr (.inr (.inr h))))))
theorem lawx : PySem.Challenge.rw_in0284_01.Holds := by
  refine holds_law (by decide +kernel) fun said => ?_
  refine holds_open (q := vw) (loose := vLoose) (Xt := fun s => xlAt vw vLv s && recOk (RowW.records (PySem.Challenge.rw_in0284_01.row.toRowW)) s) (XP := XL vw vLv) (Yf := Hook.obs (kmHook hd0.heap_1 asK asK_eq [230, 153])) (Ya := Hook.val (kmHook hd0.heap_1 asK asK_eq [230, 153])) (YP := Hook.says (kmHook hd0.heap_1 asK asK_eq [230, 153])) (N := 5472) hl (Hook.of (kmHook hd0.heap_1 asK asK_eq [230, 153])) (Hook.keeps (kmHook hd0.heap_1 asK asK_eq [230, 153])) (fun s e => xl_of s (Bool.and_eq_true_iff.mp e).1) XL.keeps (by rfl) (by rfl) (by rfl) (fun s e => recFacts_of (Bool.and_eq_true_iff.mp e).2) (by rfl) (by first | assumption | decide +kernel) (by decide +kernel) ⟨rfl, rfl, rfl, rfl, rfl, by decide +kernel⟩ ?hw ?hc
  case hw => w_witness2
  clear said
  k_go0
  all_goals try k_fold
  k_steps
  rename Fr _ _ _ _ => F9
  rename News _ _ _ _ => N9
  rename Below _ _ _ _ => B9
  rename Frag.In _ _ => X9
  rename Top _ _ _ _ _ _ => T9
  rename World => w9
  have hlaw : LawAt (hd0.heap_1 w9.params) _ _ := ⟨_, _, _, _, _, _, _, _, _, _, _, _, _, by k_is⟩
  rename IntsAre _ (List.map _ _ ++ [84]) => hI
  rename_i l0 D2 ws2 h6 hI1 hC hL l1a hkl1 hkl g1 hI8 hL8 D1 h5 tk1 o1 l9 h4 l1b D0 ws h3 l1c h2 h1 tk3 t3 h0
  show wpAny _ (ktrTop _ _ _ (Str.ofString "law") _ _ _ _ _ []) (execs _ (envX (Str.ofString "law") _ _ _ _ _)) _ _ _
  refine wpAny_mono (E := NoE) ?_ (fun _ _ h => h) (fun _ _ h => h.elim)
  obtain ⟨y1, y2, y3, y4, y5, y6, y7⟩ := l1c
  have hnum : ∀ (xs : List Int), ∀ n ∈ (List.map (fun k' : Int => k'.fmod (10 ^ Int.toNat 10)) (List.take 12 xs) ++ [84]), 0 ≤ n ∧ n < 10000000000 := by
    intro xs n hn
    rcases List.mem_append.mp hn with hn | hn
    · obtain ⟨k, -, rfl⟩ := List.mem_map.mp hn
      rw [Int.fmod_eq_emod_of_nonneg _ (by decide)]
      have e10 : (10 : Int) ^ Int.toNat 10 = 10000000000 := by decide
      rw [e10]; omega
    · rw [List.mem_singleton.mp hn]; decide
  refine law_tail (outer := []) hlaw rfl B9 F9 X9 T9 ?dp ?un ?gens ?hcl (drop3 N9) ?nd (by assumption) (by assumption) hI ?len (hnum _) ?m0 ?m1 ?fit rfl rfl ?Q
  case dp => decide +kernel
  case un => decide +kernel
  case gens =>
    rename _ = #[] => hgz
    show AllBare (Shared.gens _)
    rw [hgz]
    intro i hi
    simp at hi
  case hcl => with_unfolding_all rfl
  case nd =>
    simp only [List.nodup_cons, List.mem_cons, List.not_mem_nil, not_or, or_false, not_false_eq_true, List.nodup_nil, and_true]
    have z1 : (230 : Nat) < _ := l0.1
    have z2 : (153 : Nat) < _ := l0.2
    refine ⟨⟨Nat.ne_of_gt y4, Nat.ne_of_gt y5, Nat.ne_of_gt y6, Nat.ne_of_gt y7⟩, ⟨Nat.succ_ne_self _, Nat.ne_of_gt (Nat.lt_succ_of_lt (Nat.lt_succ_of_lt z1)), Nat.ne_of_gt (Nat.lt_succ_of_lt (Nat.lt_succ_of_lt z2))⟩, ⟨Nat.ne_of_gt (Nat.lt_succ_of_lt z1), Nat.ne_of_gt (Nat.lt_succ_of_lt z2)⟩, by decide⟩
  case len =>
    rw [List.length_append, List.length_map, hC]
    simp only [List.length_cons, List.length_nil]
    omega
  case m0 => rw [Int.fmod_eq_emod_of_nonneg _ (by decide)]; omega
  case m1 => rw [Int.fmod_eq_emod_of_nonneg _ (by decide)]; omega
  case fit =>
    refine fits ?_ ?_ (hnum _)
    · rw [Int.fmod_eq_emod_of_nonneg _ (by decide)]; omega
    · rw [Int.fmod_eq_emod_of_nonneg _ (by decide)]; omega
  case Q =>
    intro h gs dr tk4 mm ps1 ps2 hg8 F8 e8 e9
    clear F9 N9
    k_steps
    exact ⟨rfl, F8.keep, rfl, hg8, ⟨ps1, e8⟩, ⟨ps2, e9⟩, trivial⟩
end Mine
end
theorem PySem.Challenge.cw_in0284_01_holds : PySem.Challenge.rw_in0284_01.Holds := by
  exact Mine.lawx
