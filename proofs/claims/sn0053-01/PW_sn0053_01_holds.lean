import PyProof.Rows.All
import Wide.All
import OpenK.AllK
import Wide.FinOn
import PySem.Challenge.RW_sn0053_01
open PySem PySem.W PyProof.Rows
set_option Elab.async false
set_option maxRecDepth 100000
set_option maxHeartbeats 8000000
namespace Mine
/-- a heap's objects as a tree, each put in and looked up again -/
noncomputable def treeOf : List Obj → BT → Nat → Option BT
  | [], t, _ => some t
  | o :: l, t, n => match ((t.ins n o).get n).isSome with
    | true => treeOf l (t.ins n o) (n + 1)
    | false => none
theorem treeOf_spec : ∀ {l : List Obj} {t t' : BT} {n : Nat}, treeOf l t n = some t' → t'.list (n + l.length) = t.list n ++ l
  | [], t, t', n, h => by cases h; simp
  | o :: l, t, t', n, h => by
    unfold treeOf at h
    cases e : ((t.ins n o).get n).isSome with
    | false => rw [e] at h; cases h
    | true =>
      rw [e] at h
      have ih := treeOf_spec h
      have q := congrArg (fun h => h.objs.toList) (absHeap_ins (life := {}) e)
      have q' : (t.ins n o).list (n + 1) = t.list n ++ [o] := by simpa [absHeap, Heap.push] using q
      rw [q', List.append_assoc] at ih
      rw [List.length_cons, show n + (l.length + 1) = n + 1 + l.length by omega]
      exact ih
noncomputable def toT (s : Shared) : Option SharedT := match treeOf s.heap.objs.toList .nil 0 with
  | some T => some ⟨T, s.heap.objs.toList.length, s.heap.life, s.gens, s.drawn, s.toks, s.os⟩
  | none => none
theorem toT_abs {s : Shared} {x : SharedT} (h : toT s = some x) : x.abs = s := by
  unfold toT at h
  cases e : treeOf s.heap.objs.toList .nil 0 with
  | none => rw [e] at h; cases h
  | some T =>
    rw [e] at h
    cases h
    have q := treeOf_spec e
    rw [Nat.zero_add] at q
    have z : BT.nil.list 0 = [] := rfl
    rw [z, List.nil_append] at q
    show (⟨absHeap T s.heap.objs.toList.length s.heap.life, s.gens, s.drawn, s.toks, s.os⟩ : Shared) = s
    unfold absHeap
    rw [q]
noncomputable def topRunT (tb : String → Option Builtin) (p : Program) (w : World) (n₀ : Nat) (ann : Option Value) : Nat → SharedT → Thread → Option SharedT
  | 0, _, _ => none
  | n + 1, s, t => match through t with
    | true => some s
    | false => match stepOk n₀ ann t with
      | false => none
      | true => match stepT (denote tb) p w s t with
        | some (s', t') => topRunT tb p w n₀ ann n s' t'
        | none => none
theorem topRunT_of {tb : String → Option Builtin} {p : Program} {w : World} {n₀ : Nat} {ann : Option Value} : ∀ {n : Nat} {s s' : SharedT} {t : Thread}, topRunT tb p w n₀ ann n s t = some s' → topRun tb p w n₀ ann n s.abs t = some s'.abs
  | 0, _, _, _, h => by cases h
  | n + 1, s, s', t, h => by
    unfold topRunT at h
    unfold topRun
    cases he : through t with
    | true => rw [he] at h; cases h; rfl
    | false =>
      rw [he] at h
      cases hk : stepOk n₀ ann t with
      | false => rw [hk] at h; cases h
      | true =>
        rw [hk] at h
        cases hs : stepT (denote tb) p w s t with
        | none => rw [hs] at h; cases h
        | some r => obtain ⟨s₂, t₂⟩ := r; rw [hs] at h; dsimp only; rw [stepT_spec hs]; exact topRunT_of h
noncomputable def impT (tb : String → Option Builtin) (p : Program) (w : World) : Nat → SharedT → Thread → Option SharedT
  | 0, _, _ => none
  | n + 1, s, t => match t.atExitBegin with
    | some [] => some s
    | some (_ :: _) => none
    | none => match stepT (denote tb) p w s t with
      | some (s', t') => impT tb p w n s' t'
      | none => none
theorem impT_of {tb : String → Option Builtin} {p : Program} {w : World} : ∀ {n : Nat} {s s' : SharedT} {t : Thread}, impT tb p w n s t = some s' → importEnds tb p w n s.abs t = some s'.abs
  | 0, _, _, _, h => by cases h
  | n + 1, s, s', t, h => by
    unfold impT at h
    unfold importEnds
    cases he : t.atExitBegin with
    | some l =>
      rw [he] at h
      cases l with
      | nil => cases h; rfl
      | cons a r => cases h
    | none =>
      rw [he] at h
      cases hs : stepT (denote tb) p w s t with
      | none => rw [hs] at h; cases h
      | some r => obtain ⟨s₂, t₂⟩ := r; rw [hs] at h; dsimp only; rw [stepT_spec hs]; exact impT_of h
/-- the opening, its heap a tree -/
noncomputable def fencedT (tb : String → Option Builtin) (p : Program) (w : World) (N : Nat) : Option Shared := match toT (start (opening p)).1 with
  | some x => match impT tb (opening p) w N x (start (opening p)).2 with
    | some y => fenceModules? p y.abs
    | none => none
  | none => none
theorem fencedT_of {tb : String → Option Builtin} {p : Program} {w : World} {N : Nat} {s : Shared} (h : fencedT tb p w N = some s) : fencedOpening tb p w N = some s := by
  unfold fencedT at h
  unfold fencedOpening
  cases e : toT (start (opening p)).1 with
  | none => rw [e] at h; cases h
  | some x =>
    rw [e] at h
    dsimp only at h
    cases hi : impT tb (opening p) w N x (start (opening p)).2 with
    | none => rw [hi] at h; cases h
    | some y =>
      rw [hi] at h
      rw [← toT_abs e, impT_of hi]
      exact h
/-- the run of the text, its heap a tree -/
noncomputable def topT (tb : String → Option Builtin) (p : Program) (w : World) (N : Nat) (s₀ : Shared) : Option Shared := match s₀.heap.isNs mainGlobals && s₀.gens.size == 0 with
  | true => match toT s₀ with
    | some z => match topRunT tb p w s₀.heap.objs.size (s₀.heap.nsMap mainGlobals "__annotations__") N z (topStub p) with
      | some r => match staticsOk (importedModules p.main.body) s₀.heap r.abs.heap && namesBound p r.abs.heap && gensDone r.abs && laidKept s₀.heap r.abs.heap with
        | true => some r.abs
        | false => none
      | none => none
    | none => none
  | false => none
theorem topT_of {tb : String → Option Builtin} {p : Program} {w : World} {N : Nat} {s₀ s : Shared} (h : topT tb p w N s₀ = some s) : topFrom tb p w N s₀ = some s := by
  unfold topT at h
  unfold topFrom
  cases e : s₀.heap.isNs mainGlobals && s₀.gens.size == 0 with
  | false => rw [e] at h; cases h
  | true =>
    rw [e] at h
    cases hz : toT s₀ with
    | none => rw [hz] at h; cases h
    | some z =>
      rw [hz] at h
      dsimp only at h
      cases hr : topRunT tb p w s₀.heap.objs.size (s₀.heap.nsMap mainGlobals "__annotations__") N z (topStub p) with
      | none => rw [hr] at h; cases h
      | some r =>
        rw [hr] at h
        have q := topRunT_of hr
        rw [toT_abs hz] at q
        dsimp only
        rw [q]
        exact h
noncomputable def openT (tb : String → Option Builtin) (p : Program) (w : World) (N : Nat) : Option Shared := match fencedT tb p w N with
  | some s₀ => topT tb p w N s₀
  | none => none
theorem openT_of {tb : String → Option Builtin} {p : Program} {w : World} {N : Nat} {s : Shared} (h : openT tb p w N = some s) : openEnds tb p w N = some s := by
  unfold openT at h
  unfold openEnds
  cases e : fencedT tb p w N with
  | none => rw [e] at h; cases h
  | some s₀ =>
    rw [e] at h
    rw [fencedT_of e]
    exact topT_of h

/-- the same run with the words given: their quick twins stand in the library -/
noncomputable def runQ (stp : SharedT → Thread → Option (SharedT × Thread)) (sok : Thread → Bool) : Nat → SharedT → Thread → Option SharedT
  | 0, _, _ => none
  | n + 1, s, t => match through t with
    | true => some s
    | false => match sok t with
      | false => none
      | true => match stp s t with
        | some (s', t') => runQ stp sok n s' t'
        | none => none
theorem runQ_eq {tb : String → Option Builtin} {p : Program} {w : World} {n₀ : Nat} {ann : Option Value} : ∀ (n : Nat) (s : SharedT) (t : Thread), topRunT tb p w n₀ ann n s t = runQ (stepT (denote tb) p w) (stepOk n₀ ann) n s t
  | 0, _, _ => rfl
  | n + 1, s, t => by
    unfold topRunT runQ
    cases through t with
    | true => rfl
    | false =>
      cases stepOk n₀ ann t with
      | false => rfl
      | true =>
        cases stepT (denote tb) p w s t with
        | none => rfl
        | some r => exact runQ_eq n r.1 r.2
noncomputable def impQ (stp : SharedT → Thread → Option (SharedT × Thread)) (atx : Thread → Option (List Value)) : Nat → SharedT → Thread → Option SharedT
  | 0, _, _ => none
  | n + 1, s, t => match atx t with
    | some [] => some s
    | some (_ :: _) => none
    | none => match stp s t with
      | some (s', t') => impQ stp atx n s' t'
      | none => none
theorem impQ_eq {tb : String → Option Builtin} {p : Program} {w : World} : ∀ (n : Nat) (s : SharedT) (t : Thread), impT tb p w n s t = impQ (stepT (denote tb) p w) Thread.atExitBegin n s t
  | 0, _, _ => rfl
  | n + 1, s, t => by
    unfold impT impQ
    cases t.atExitBegin with
    | some l => cases l <;> rfl
    | none =>
      cases stepT (denote tb) p w s t with
      | none => rfl
      | some r => exact impQ_eq n r.1 r.2
noncomputable def openQ (stp : (Code → Sem Fin) → Program → World → SharedT → Thread → Option (SharedT × Thread)) (den : (String → Option Builtin) → Code → Sem Fin) (tb : String → Option Builtin) (sok : Nat → Option Value → Thread → Bool) (atx : Thread → Option (List Value)) (st : Program → Shared × Thread) (fm : Program → Shared → Option Shared) (im : List Stmt → List Str) (p : Program) (w : World) (N : Nat) : Option Shared :=
  match toT (st (opening p)).1 with
  | some x => match impQ (stp (den tb) (opening p) w) atx N x (st (opening p)).2 with
    | some y => match fm p y.abs with
      | some s₀ => match s₀.heap.isNs mainGlobals && s₀.gens.size == 0 with
        | true => match toT s₀ with
          | some z => match runQ (stp (den tb) p w) (sok s₀.heap.objs.size (s₀.heap.nsMap mainGlobals "__annotations__")) N z (topStub p) with
            | some r => match staticsOk (im p.main.body) s₀.heap r.abs.heap && namesBound p r.abs.heap && gensDone r.abs && laidKept s₀.heap r.abs.heap with
              | true => some r.abs
              | false => none
            | none => none
          | none => none
        | false => none
      | none => none
    | none => none
  | none => none
theorem openQ_eq {tb : String → Option Builtin} {p : Program} {w : World} {N : Nat} : openT tb p w N = openQ stepT denote tb stepOk Thread.atExitBegin start fenceModules? importedModules p w N := by
  unfold openT fencedT topT openQ
  cases toT (start (opening p)).1 with
  | none => rfl
  | some x =>
    dsimp only
    rw [impQ_eq]
    cases impQ (stepT (denote tb) (opening p) w) Thread.atExitBegin N x (start (opening p)).2 with
    | none => rfl
    | some y =>
      dsimp only
      cases fenceModules? p y.abs with
      | none => rfl
      | some s₀ =>
        dsimp only
        cases s₀.heap.isNs mainGlobals && s₀.gens.size == 0 with
        | false => rfl
        | true =>
          cases toT s₀ with
          | none => rfl
          | some z =>
            dsimp only
            rw [runQ_eq]
theorem left_Q {p q : Program} {loose : List Str} {Xt : Shared → Bool} {α : Type} {Yf : Shared → α} {Ya : World → α} {N : Nat} {g0 : Bool}
    (h : ∀ w : World, (openQ PySem.W.Fast.tw10156331382660048174 PySem.W.Fast.tw11892475500146522536 PySem.W.Fast.tw14364793385576792824 PySem.W.Fast.tw6613529449190102663 PySem.W.Fast.tw3805553451399329143 PySem.W.Fast.tw1435165496053646825 PySem.W.Fast.tw14289696077712309145 PySem.W.Fast.tw5923862056798008813 p w N).map (fun s => (PySem.W.Fast.tw4187177175401517315 q loose (PySem.W.Fast.tw5923862056798008813 p.main.body) Xt g0 s, Yf s)) = some (openGood q loose, Ya w)) : LeftO p q loose Xt Yf Ya N g0 := fun w => by
  have hw := h w
  rw [← PySem.W.Fast.te10156331382660048174, ← PySem.W.Fast.te11892475500146522536, ← PySem.W.Fast.te14364793385576792824, ← PySem.W.Fast.te6613529449190102663, ← PySem.W.Fast.te3805553451399329143, ← PySem.W.Fast.te1435165496053646825, ← PySem.W.Fast.te14289696077712309145, ← PySem.W.Fast.te5923862056798008813, ← PySem.W.Fast.te4187177175401517315, ← openQ_eq] at hw
  obtain ⟨s, hs, e⟩ := Option.map_eq_some_iff.mp hw
  rw [openT_of hs]
  exact congrArg some e
/-- lays the quick twin of the given program -/
theorem seed : PySem.Challenge.pw_sn0053_01.modules.isEmpty = true := by k_qdec
theorem left_pw {q : Program} {loose : List Str} {Xt : Shared → Bool} {α : Type} {Yf : Shared → α} {Ya : World → α} {N : Nat} {g0 : Bool} (h : LeftO PySem.W.Fast.tw7610296266361905765 q loose Xt Yf Ya N g0) : LeftO PySem.Challenge.pw_sn0053_01 q loose Xt Yf Ya N g0 := by
  rw [PySem.W.Fast.te7610296266361905765]
  exact h
/-- the statements that the walk looks at -/
noncomputable def view : Program := { PySem.Challenge.pw_sn0053_01 with main := { PySem.Challenge.pw_sn0053_01.main with body := [0, 1, 2, 3, 4, 7, 10, 11, 12, 17, 18, 19, 20, 21, 22, 23, 24, 25].filterMap fun i => PySem.Challenge.pw_sn0053_01.main.body[i]? } }
abbrev loose : List Str := [Str.ofString "insort_left", Str.ofString "bisect_left", Str.ofString "_twin_re_1", Str.ofString "_twin_re_2", Str.ofString "tspecials", Str.ofString "_name_disallowed_re", Str.ofString "_value_disallowed_re", Str.ofString "_formatparam"]
section
local macro_rules | `(tactic| o_head $H) => `(tactic| (refine holds_open (q := view) (loose := loose) (Xt := fun s => xlAt view [] s && recOk (RowW.records (OpenRow.toRowW PySem.Challenge.rw_sn0053_01.row)) s) (XP := XL view []) (Yf := Hook.obs $H) (Ya := Hook.val $H) (YP := Hook.says $H) (N := 3290) ?hl (Hook.of $H) (Hook.keeps $H) (fun s e => xl_of s (Bool.and_eq_true_iff.mp e).1) XL.keeps (by rfl) (by rfl) (by rfl) (fun s e => recFacts_of (Bool.and_eq_true_iff.mp e).2) (by rfl) (by first | assumption | decide +kernel) (by decide +kernel) ⟨rfl, rfl, rfl, rfl, rfl, by decide +kernel⟩ ?hw ?hc; (case hl => (refine left_pw (left_Q ?_); intro w; kernel_rfl))))
open_top top for PySem.Challenge.rw_sn0053_01
end
section PartBase
abbrev PG : Program := PySem.Challenge.rw_sn0053_01.row.prog
/-- what a call of `f` with `vs` needs and gives: `ret` is the way on -/
abbrev Ctr (f : Addr) (dn cn' : Nat) (vs : List Value) (news : List (Addr × Obj)) (ret : World → Heap → Addr → (Str → Option Value) → Shared → (Value → Shared → Prop) → Prop) : Prop :=
  ∀ (w : World) (p : Program) (loose : List Str) (mean : ExcName → Option Value) (mg mb : Str → Option Value) (dp un : Nat) (gd : Option (List Code)) (cn : Str) (cs : Scope) (a : Addr) (ccd : Value) (cl : List (Str × Addr)) (outer : List Env) (A₀ : Around) (base h₀ : Heap) (L : Addr) (m : Str → Option Value) (s : Shared) (Q E : Value → Shared → Prop),
    Below A₀ base outer h₀ → Fr h₀ L s.heap m → (top.heap_39 w.params).In h₀ → News h₀ L s.heap news → Top p loose mean mg mb h₀ → cs.kind = .function → dp + dn < recursionLimit → un + cn' < cLine → ret w h₀ L m s Q →
      wpAny (model PG w) (ktrTop dp un gd cn cs L a ccd cl outer) (call (.ref f) vs) Q E s

theorem Ctr.use {f : Addr} {dn cn' : Nat} {vs : List Value} {news : List (Addr × Obj)} {ret : World → Heap → Addr → (Str → Option Value) → Shared → (Value → Shared → Prop) → Prop} {w : World} {p : Program} {loose : List Str} {mean : ExcName → Option Value} {mg mb : Str → Option Value} {dp un : Nat} {gd : Option (List Code)} {cn : Str} {cs : Scope} {a : Addr} {ccd : Value} {cl : List (Str × Addr)} {outer : List Env} {A₀ : Around} {base h₀ : Heap} {L : Addr} {m : Str → Option Value} {s : Shared} {Q E : Value → Shared → Prop}
    (B : Below A₀ base outer h₀) (F : Fr h₀ L s.heap m) (X : (top.heap_39 w.params).In h₀) (N : News h₀ L s.heap news) (T : Top p loose mean mg mb h₀) (hk : cs.kind = .function) (C : Ctr f dn cn' vs news ret) (hdp : dp + dn < recursionLimit) (hun : un + cn' < cLine) (r : ret w h₀ L m s Q) :
    wpAny (model PG w) (ktrTop dp un gd cn cs L a ccd cl outer) (call (.ref f) vs) Q E s := C _ _ _ _ _ _ _ _ _ _ _ _ _ _ _ _ _ _ _ _ _ _ _ B F X N T hk hdp hun r
/-- an int comes back, the ledger as it stood -/
abbrev retInt (news : List (Addr × Obj)) (r : Int) (_w : World) (h₀ : Heap) (L : Addr) (m : Str → Option Value) (s : Shared) (Q : Value → Shared → Prop) : Prop :=
  ∀ (t : Tok) (h' : Heap) (tk' : Nat), Fr h₀ L h' m → News h₀ L h' news → Q (.int r t) { s with heap := h', toks := tk' }
end PartBase
section PartTimes
set_option rowWalk.seconds 0
section
local macro_rules | `(tactic| walk_at "call ref") => `(tactic| k_extra "call ref!")
local macro_rules | `(tactic| walk_at "binaryOp LShift int int") => `(tactic| k_extra "shl!")
theorem times1 (x y z : Int) (t1 t2 t3 : Tok) (news : List (Addr × Obj)) (hx : 0 ≤ x ∧ x < 16) (hy : 0 ≤ y ∧ y < 16) (h : x < 2 ∨ y < 2) : Ctr 268 2 16 [.int x t1, .int y t2, .int z t3] news (retInt news (x * y)) := by
  intro w p loose mean mg mb dp un gd cn cs a ccd cl outer A₀ base h₀ L m s Q E B F X N T hk hdp hun hret
  refine wpAny_call ?_
  k_dflt cell_enter
  k_steps
  all_goals exact hret _ _ _ (by k_asm) (by k_asm)
section
variable {w : World} {A : Around} {E : Value → Shared → Prop} {s : Shared} {t u : Tok} {Q : Value → Shared → Prop} {x : Int}
theorem half2 (h : Q (.int 1 s.toks) { s with toks := s.toks + 1 }) : wpAny (model PG w) A (binaryOp .FloorDiv (.int 2 t) (.int 2 u)) Q E s := floordiv_int (by decide) h (Or.inl (PyProof.noPylong_of_log2 (by decide +kernel)))
theorem half4 (h : Q (.int 2 s.toks) { s with toks := s.toks + 1 }) : wpAny (model PG w) A (binaryOp .FloorDiv (.int 4 t) (.int 2 u)) Q E s := floordiv_int (by decide) h (Or.inl (PyProof.noPylong_of_log2 (by decide +kernel)))
theorem pow21 (h : Q (.int 2 s.toks) { s with toks := s.toks + 1 }) : wpAny (model PG w) A (binaryOp .Pow (.int 2 t) (.int 1 u)) Q E s := pow_int (by decide) (by decide) h
theorem pow22 (h : Q (.int 4 s.toks) { s with toks := s.toks + 1 }) : wpAny (model PG w) A (binaryOp .Pow (.int 2 t) (.int 2 u)) Q E s := pow_int (by decide) (by decide) h
theorem shr1 (h : Q (.int (x / 2) s.toks) { s with toks := s.toks + 1 }) : wpAny (model PG w) A (binaryOp .RShift (.int x t) (.int 1 u)) Q E s := rshift_int (by decide) (by rw [Int.fdiv_eq_ediv_of_nonneg _ (by decide)]; exact h)
theorem shr2 (h : Q (.int (x / 4) s.toks) { s with toks := s.toks + 1 }) : wpAny (model PG w) A (binaryOp .RShift (.int x t) (.int 2 u)) Q E s := rshift_int (by decide) (by rw [Int.fdiv_eq_ediv_of_nonneg _ (by decide)]; exact h)
theorem mod2' (h : Q (.int (x % 2) s.toks) { s with toks := s.toks + 1 }) : wpAny (model PG w) A (binaryOp .Mod (.int x t) (.int 2 u)) Q E s := mod_int' (by decide) (by rw [Int.fmod_eq_emod_of_nonneg _ (by decide)]; exact h)
theorem mod4' (h : Q (.int (x % 4) s.toks) { s with toks := s.toks + 1 }) : wpAny (model PG w) A (binaryOp .Mod (.int x t) (.int 4 u)) Q E s := mod_int' (by decide) (by rw [Int.fmod_eq_emod_of_nonneg _ (by decide)]; exact h)
end
/-- the product below 4 -/
def t2 (x y : Int) : Int := if x < 2 ∨ y < 2 then x * y else Builtin.bitXor ((x / 2) * (y / 2)) (Builtin.bitXor ((x / 2) * (y % 2)) ((x % 2) * (y / 2))) * 2 + Builtin.bitXor ((x % 2) * (y % 2)) ((x / 2) * (y / 2) * 1)
/-- the product below 16 -/
def t4 (x y : Int) : Int := if x < 2 ∨ y < 2 then x * y else Builtin.bitXor (t2 (x / 4) (y / 4)) (Builtin.bitXor (t2 (x / 4) (y % 4)) (t2 (x % 4) (y / 4))) * 4 + Builtin.bitXor (t2 (x % 4) (y % 4)) (t2 (t2 (x / 4) (y / 4)) 2)
theorem four {x : Int} (h : 0 ≤ x ∧ x < 4) : x = 0 ∨ x = 1 ∨ x = 2 ∨ x = 3 := by omega
theorem t2_bound {x y : Int} (hx : 0 ≤ x ∧ x < 4) (hy : 0 ≤ y ∧ y < 4) : 0 ≤ t2 x y ∧ t2 x y < 4 := by
  rcases four hx with rfl | rfl | rfl | rfl <;> rcases four hy with rfl | rfl | rfl | rfl <;> decide
theorem xor_bound {x y : Int} (hx : 0 ≤ x ∧ x < 4) (hy : 0 ≤ y ∧ y < 4) : 0 ≤ Builtin.bitXor x y ∧ Builtin.bitXor x y < 4 := by
  rcases four hx with rfl | rfl | rfl | rfl <;> rcases four hy with rfl | rfl | rfl | rfl <;> decide
theorem nat_small {x : Int} (h : 0 ≤ x ∧ x < 4) : x.natAbs < 2 ^ 64 := by omega
local macro_rules | `(tactic| walk_at "binaryOp FloorDiv int int") => `(tactic| first | refine half2 ?_ | refine half4 ?_)
local macro_rules | `(tactic| walk_at "binaryOp Pow int int") => `(tactic| first | refine pow21 ?_ | refine pow22 ?_)
local macro_rules | `(tactic| walk_at "binaryOp RShift int int") => `(tactic| first | refine shr1 ?_ | refine shr2 ?_)
local macro_rules | `(tactic| walk_at "binaryOp Mod int int") => `(tactic| first | refine mod2' ?_ | refine mod4' ?_)
theorem times2 (x y : Int) (t1 t2 t3 : Tok) (news : List (Addr × Obj)) (hx : 0 ≤ x ∧ x < 4) (hy : 0 ≤ y ∧ y < 4) : Ctr 268 4 32 [.int x t1, .int y t2, .int 2 t3] news (retInt news (Mine.t2 x y)) := by
  intro w p loose mean mg mb dp un gd cn cs a ccd cl outer A₀ base h₀ L m s Q E B F X N T hk hdp hun hret
  by_cases h : x < 2 ∨ y < 2
  · exact Ctr.use B F X N T hk (times1 x y 2 t1 t2 t3 news (by omega) (by omega) h) (by omega) (by omega) (by unfold Mine.t2 at hret; rw [if_pos h] at hret; exact hret)
  · have hx2 : x = 2 ∨ x = 3 := by omega
    have hy2 : y = 2 ∨ y = 3 := by omega
    unfold Mine.t2 at hret
    rw [if_neg h] at hret
    clear h
    have h1 : ¬ x < 2 := by omega
    have h2 : ¬ y < 2 := by omega
    k_with_none
    k_with "call ref!" => ((with_reducible show wpAny _ _ (call (Value.ref _) [Value.int _ _, Value.int _ _, Value.int _ _]) _ _ _); k_dflt (refine' Ctr.use ?k1 ?k2 ?k3 ?k4 ?k5 ?kK (times1 _ _ _ _ _ _ _ ?hx ?hy ?h) ?kd ?ku ?_; (case k1 => k_asm); (case k2 => k_asm); (case k3 => k_asm); (case k4 => k_asm); (case k5 => k_asm); (case kK => first | exact rfl | assumption); (case hx => first | omega | (rcases hx2 with rfl | rfl <;> rcases hy2 with rfl | rfl <;> decide)); (case hy => first | omega | (rcases hx2 with rfl | rfl <;> rcases hy2 with rfl | rfl <;> decide)); (case h => first | omega | (rcases hx2 with rfl | rfl <;> rcases hy2 with rfl | rfl <;> decide)); (case kd => ktr_room); (case ku => ktr_units)); intro t9 h9 tk9 F9 N9; (try dsimp only); (try k_fold))
    k_with "shl!" => (refine lshift_int_small (by decide) (by decide) ?ha ?_; (case ha => (rcases hx2 with rfl | rfl <;> rcases hy2 with rfl | rfl <;> decide)))
    refine wpAny_call ?_
    k_dflt cell_enter
    k_steps
    all_goals (refine hret _ _ _ (by k_asm) ?_; first | k_asm | (refine' cb_drop ?cbN ?cbS; (case cbN => assumption); (case cbS => kcj_all)))
theorem times4 (x y : Int) (t1 t2 t3 : Tok) (news : List (Addr × Obj)) (hx : 0 ≤ x ∧ x < 16) (hy : 0 ≤ y ∧ y < 16) : Ctr 268 6 48 [.int x t1, .int y t2, .int 4 t3] news (retInt news (Mine.t4 x y)) := by
  intro w p loose mean mg mb dp un gd cn cs a ccd cl outer A₀ base h₀ L m s Q E B F X N T hk hdp hun hret
  by_cases h : x < 2 ∨ y < 2
  · exact Ctr.use B F X N T hk (times1 x y 4 t1 t2 t3 news hx hy h) (by omega) (by omega) (by unfold Mine.t4 at hret; rw [if_pos h] at hret; exact hret)
  · unfold Mine.t4 at hret
    rw [if_neg h] at hret
    have h1 : ¬ x < 2 := by omega
    have h2 : ¬ y < 2 := by omega
    clear h
    have b1 : 0 ≤ x / 4 ∧ x / 4 < 4 := by omega
    have b2 : 0 ≤ x % 4 ∧ x % 4 < 4 := by omega
    have b3 : 0 ≤ y / 4 ∧ y / 4 < 4 := by omega
    have b4 : 0 ≤ y % 4 ∧ y % 4 < 4 := by omega
    have b5 := xor_bound (t2_bound b1 b3) (xor_bound (t2_bound b1 b4) (t2_bound b2 b3))
    k_with_none
    k_with "call ref!" => ((with_reducible show wpAny _ _ (call (Value.ref _) [Value.int _ _, Value.int _ _, Value.int _ _]) _ _ _); k_dflt (refine' Ctr.use ?k1 ?k2 ?k3 ?k4 ?k5 ?kK (times2 _ _ _ _ _ _ ?hx ?hy) ?kd ?ku ?_; (case k1 => k_asm); (case k2 => k_asm); (case k3 => k_asm); (case k4 => k_asm); (case k5 => k_asm); (case kK => first | exact rfl | assumption); (case hx => first | assumption | decide | exact t2_bound (by assumption) (by assumption)); (case hy => first | assumption | decide | exact t2_bound (by assumption) (by assumption)); (case kd => ktr_room); (case ku => ktr_units)); intro t9 h9 tk9 F9 N9; (try dsimp only); (try k_fold))
    k_with "shl!" => (refine lshift_int_small (by decide) (by decide) ?ha ?_; (case ha => exact nat_small (by assumption)))
    refine wpAny_call ?_
    k_dflt cell_enter
    k_steps
    all_goals (refine hret _ _ _ (by k_asm) ?_; first | k_asm | (refine' cb_drop ?cbN ?cbS; (case cbN => assumption); (case cbS => kcj_all)))
end
end PartTimes
section PartLoops
/-- a turn's end: the iterator stands apart, the rest of the ledger is J's -/
def LEnd (h₀ : Heap) (L : Addr) (s₁ : Shared) (I : Addr) (it : Obj) (rest : (Str → Option Value) → List (Addr × Obj) → Prop) (s₂ : Shared) : Prop :=
  ∃ h' tk m' news', s₂ = { s₁ with heap := h', toks := tk } ∧ Fr h₀ L h' m' ∧ News h₀ L h' ((I, it) :: news') ∧ (∀ p ∈ news', p.1 ≠ I) ∧ rest m' news'
def LPost (h₀ : Heap) (L : Addr) (s₁ : Shared) (I : Addr) (it : Obj) (rest : (Str → Option Value) → List (Addr × Obj) → Prop) (Q : Flow → Shared → Prop) (f : Flow) (s₂ : Shared) : Prop :=
  match f with
  | .ret v => Q (.ret v) s₂
  | .brk => Q .next s₂
  | _ => LEnd h₀ L s₁ I it rest s₂
theorem LEnd.intro {h₀ : Heap} {L I : Addr} {it : Obj} {rest : (Str → Option Value) → List (Addr × Obj) → Prop} {s₁ : Shared} {h' : Heap} {tk : Nat} {m' : Str → Option Value} {all : List (Addr × Obj)} (F : Fr h₀ L h' m') (N : News h₀ L h' all) (news' : List (Addr × Obj))
    (sub : ∀ p ∈ (I, it) :: news', p ∈ all) (off : ∀ p ∈ news', p.1 ≠ I) (r : rest m' news') : LEnd h₀ L s₁ I it rest { s₁ with heap := h', toks := tk } := ⟨h', tk, m', news', rfl, F, fun p hp => N p (sub p hp), off, r⟩
section
variable {prog : Program} {w : World} {A : Around} {E : Value → Shared → Prop} {s : Shared} {env : Env} {h₀ : Heap} {x : Str} {body : List Stmt} {Q : Flow → Shared → Prop}
theorem iter_listJ {l : Addr} {vs : List Value} {nn : Nat} {m₀ : Str → Option Value} {news : List (Addr × Obj)} (J : Nat → (Str → Option Value) → List (Addr × Obj) → Prop)
    (hh : A.handled = none) (hl : (l, listOf vs.toArray nn) ∈ news) (hJl : ∀ i m nx, J i m nx → (l, listOf vs.toArray nn) ∈ nx) (F : Fr h₀ env.locals s.heap m₀) (N : News h₀ env.locals s.heap news) (hj : J 0 m₀ news)
    (turn : ∀ I, (∀ p ∈ news, p.1 < I) → ∀ it i v m₁ nx h tk, vs[i]? = some v → J i m₁ nx → (∀ p ∈ nx, p.1 ≠ I) → Fr h₀ env.locals h (fun y => if y = x then some v else m₁ y) → News h₀ env.locals h ((I, it) :: nx) →
      wpAny (model prog w) A (execs body env) (LPost h₀ env.locals { s with heap := h, toks := tk } I it (J (i + 1)) Q) E { s with heap := h, toks := tk })
    (done : ∀ m₁ nx h tk, J vs.length m₁ nx → Fr h₀ env.locals h m₁ → News h₀ env.locals h nx → Q .next { s with heap := h, toks := tk }) :
    wpAny (model prog w) A (pyIter (.ref l)) (fun it s₂ => LoopAtV prog w A h₀ env x body Q E it s₂) E s := by
  have hol : s.heap.get? l = some (listOf vs.toArray nn) := (N _ hl).1
  have hls : s.heap.IsList l vs.toArray := ⟨_, hol, rfl, nn, rfl⟩
  have hne : l ≠ s.heap.objs.size := Nat.ne_of_lt (Heap.lt_size hol)
  refine wpAny_pyIter_list hls ?_
  have hnew := next_is_new F
  have tn := turn s.heap.objs.size fun p hp => Heap.lt_size (N p hp).1
  have W := Walks.list (prog := prog) (w := w) hh s.heap.objs.size l hne vs.toArray
  have hlen : vs.toArray.size = vs.length := by simp
  rw [hlen] at W
  refine ⟨_, _, _, vs.length, _, _, m₀, news, J, rfl, W, ?_, ?_, ?_, ⟨⟨_, Heap.get?_push_size _ rfl, rfl, rfl⟩, hls.at fun o e => Heap.get?_push_of_some _ e⟩, F.push _, (fun p hp => ⟨Heap.get?_push_of_some _ (N p hp).1, (N p hp).2⟩), hj, ?_, ?_⟩
  · intro hm
    rcases List.mem_cons.mp hm with e | hm
    · exact absurd F.ns.lt (e ▸ Nat.lt_irrefl _)
    · exact (N _ hl).2.1 ((List.mem_singleton.mp hm).symm)
  · intro b hb
    rw [List.mem_singleton.mp hb]
    exact hnew
  · intro p hp hI
    exact absurd (Heap.lt_size (N p hp).1) ((List.mem_singleton.mp hI) ▸ Nat.lt_irrefl _)
  · rintro i v m₁ news₁ s₁ own ⟨hh', tk', rfl⟩ hin hP hJ hoff hown hget hfp st F₁ N₁
    obtain ⟨⟨oI, hoI, _⟩, _⟩ := id st
    have hmI : (s.heap.objs.size, oI) ∈ own := hfp _ (List.mem_cons_self ..) hnew _ hoI
    have hP' : vs[i]? = some v := by simpa using hP
    have hoff' : ∀ p ∈ news₁, p.1 ≠ s.heap.objs.size := fun p hp e => hoff p hp (by rw [e]; exact List.mem_singleton.mpr rfl)
    have hl₁ := hJl i m₁ news₁ hJ
    have N₂ : News h₀ env.locals hh' ((s.heap.objs.size, oI) :: news₁) := fun p hp => by
      rcases List.mem_cons.mp hp with rfl | hp
      · exact N₁ _ (List.mem_append_left _ hmI)
      · exact N₁ _ (List.mem_append_right _ hp)
    refine wpAny_mono (tn oI i v m₁ news₁ hh' tk' hP' hJ hoff' F₁ N₂) (fun f s₂ p => ?_) fun _ _ e => e
    have fin : LEnd h₀ env.locals { s with heap := hh', toks := tk' } s.heap.objs.size oI (J (i + 1)) s₂ → LoopStepU h₀ env.locals [s.heap.objs.size] own (J (i + 1)) { s with heap := hh', toks := tk' } .next s₂ := by
      rintro ⟨h', tk, m', nx, e, F', N', ho, r⟩
      refine ⟨rfl, h', tk, m', nx, e, F', fun p hp => ?_, fun p hp hI => ho p hp (List.mem_singleton.mp hI), r⟩
      rcases List.mem_append.mp hp with hp | hp
      · have h2 : hh'.get? p.1 = some p.2 := hget p hp
        rcases List.mem_cons.mp (hown p hp) with h1 | h1
        · have h3 : p = (s.heap.objs.size, oI) := by
            rw [h1, hoI] at h2
            exact Prod.ext h1 (Option.some.inj h2).symm
          rw [h3]; exact N' _ (List.mem_cons_self ..)
        · have h1' := List.mem_singleton.mp h1
          have h4 : hh'.get? l = some (listOf vs.toArray nn) := (N₁ _ (List.mem_append_right _ hl₁)).1
          have h3 : p = (l, listOf vs.toArray nn) := by
            rw [h1', h4] at h2
            exact Prod.ext h1' (Option.some.inj h2).symm
          rw [h3]; exact N' _ (List.mem_cons_of_mem _ (hJl _ _ _ r))
      · exact N' _ (List.mem_cons_of_mem _ hp)
    cases f with
    | ret v => exact .ret p
    | brk => exact .brk p
    | next => exact .next (fin p)
    | cont => exact .cont (fin p)
  · rintro h' tk m' news' F' N' _ hJ
    exact done m' news' h' tk hJ F' N'
theorem iter_rangeJ {r : Addr} {a₀ b₀ : Int} {t₀ u₀ v₀ : Tok} {n : Nat} {m₀ : Str → Option Value} {news : List (Addr × Obj)} (J : Nat → (Str → Option Value) → List (Addr × Obj) → Prop)
    (hh : A.handled = none) (hr : IsRange s.heap r a₀ b₀ 1 t₀ u₀ v₀) (hsmall : Builtin.Range.small a₀ b₀ 1 = true) (hn : Builtin.Range.rangeSize a₀ b₀ 1 = (n : Int)) (F : Fr h₀ env.locals s.heap m₀) (N : News h₀ env.locals s.heap news) (hj : J 0 m₀ news)
    (turn : ∀ I, (∀ p ∈ news, p.1 < I) → ∀ it (i : Nat) t m₁ nx h tk, i < n → J i m₁ nx → (∀ p ∈ nx, p.1 ≠ I) → Fr h₀ env.locals h (fun y => if y = x then some (.int (a₀ + (i : Int)) t) else m₁ y) → News h₀ env.locals h ((I, it) :: nx) →
      wpAny (model prog w) A (execs body env) (LPost h₀ env.locals { s with heap := h, toks := tk } I it (J (i + 1)) Q) E { s with heap := h, toks := tk })
    (done : ∀ m₁ nx h tk, J n m₁ nx → Fr h₀ env.locals h m₁ → News h₀ env.locals h nx → Q .next { s with heap := h, toks := tk }) :
    wpAny (model prog w) A (pyIter (.ref r)) (fun it s₂ => LoopAtV prog w A h₀ env x body Q E it s₂) E s := by
  refine wpAny_pyIter_range hr hsmall ?_
  have tn := turn s.heap.objs.size fun p hp => Heap.lt_size (N p hp).1
  have W : Walks prog w A s.heap.objs.size [s.heap.objs.size] [s.heap.objs.size] n (fun i v => i < n ∧ ∃ t, v = .int (a₀ + i * 1) t)
      (fun i h => IsRangeIter h s.heap.objs.size (a₀ + (i : Nat) * 1) ((n : Int) - (i : Nat)) 1) := (Walks.range hh _ a₀ 1 n).bound
  have hnew := next_is_new F
  refine ⟨_, _, _, n, _, _, m₀, news, J, rfl, W, ?_, ?_, ?_, (by show IsRangeIter _ _ _ _ _; rw [hn]; simpa using Heap.get?_push_size _ rfl), F.push _, (fun p hp => ⟨Heap.get?_push_of_some _ (N p hp).1, (N p hp).2⟩), hj, ?_, ?_⟩
  · intro hm
    exact absurd F.ns.lt ((List.mem_singleton.mp hm) ▸ Nat.lt_irrefl _)
  · intro b hb
    rw [List.mem_singleton.mp hb]
    exact hnew
  · intro p hp hI
    exact absurd (Heap.lt_size (N p hp).1) ((List.mem_singleton.mp hI) ▸ Nat.lt_irrefl _)
  · rintro i v m₁ news₁ s₁ own ⟨hh', tk', rfl⟩ hin ⟨_, t, rfl⟩ hJ hoff hown hget hall hst F₁ N₁
    have hoI : ∃ oI, hh'.get? s.heap.objs.size = some oI := ⟨_, hst⟩
    obtain ⟨oI, hoI⟩ := hoI
    have hmI := hall s.heap.objs.size (List.mem_singleton.mpr rfl) hnew _ hoI
    have e1 : a₀ + (i : Int) * 1 = a₀ + (i : Int) := by rw [Int.mul_one]
    rw [e1] at F₁
    have hoff' : ∀ p ∈ news₁, p.1 ≠ s.heap.objs.size := fun p hp e => hoff p hp (by rw [e]; exact List.mem_singleton.mpr rfl)
    have N₂ : News h₀ env.locals hh' ((s.heap.objs.size, oI) :: news₁) := fun p hp => by
      rcases List.mem_cons.mp hp with rfl | hp
      · exact N₁ _ (List.mem_append_left _ hmI)
      · exact N₁ _ (List.mem_append_right _ hp)
    refine wpAny_mono (tn oI i t m₁ news₁ hh' tk' hin hJ hoff' F₁ N₂) (fun f s₂ p => ?_) fun _ _ e => e
    have fin : LEnd h₀ env.locals { s with heap := hh', toks := tk' } s.heap.objs.size oI (J (i + 1)) s₂ → LoopStepU h₀ env.locals [s.heap.objs.size] own (J (i + 1)) { s with heap := hh', toks := tk' } .next s₂ := by
      rintro ⟨h', tk, m', nx, e, F', N', ho, r⟩
      refine ⟨rfl, h', tk, m', nx, e, F', fun p hp => ?_, fun p hp hI => ho p hp (List.mem_singleton.mp hI), r⟩
      rcases List.mem_append.mp hp with hp | hp
      · have h1 : p.1 = s.heap.objs.size := List.mem_singleton.mp (hown p hp)
        have h2 : hh'.get? p.1 = some p.2 := hget p hp
        have h3 : p = (s.heap.objs.size, oI) := by
          rw [h1, hoI] at h2
          exact Prod.ext h1 (Option.some.inj h2).symm
        rw [h3]; exact N' _ (List.mem_cons_self ..)
      · exact N' _ (List.mem_cons_of_mem _ hp)
    cases f with
    | ret v => exact .ret p
    | brk => exact .brk p
    | next => exact .next (fin p)
    | cont => exact .cont (fin p)
  · rintro h' tk m' news' F' N' _ hJ
    exact done m' news' h' tk hJ F' N'
/-- a loop over an empty list of the ledger's, whatever its target -/
theorem For_empty {target : Expr} {l : Addr} {nn : Nat} {m : Str → Option Value} {news : List (Addr × Obj)} {iter : Expr} {pos : Pos}
    (h : wpAny (model prog w) A (eval iter env) (fun v s₁ => v = .ref l ∧ A.handled = none ∧ Fr h₀ env.locals s₁.heap m ∧ News h₀ env.locals s₁.heap news ∧ (l, listOf #[] nn) ∈ news ∧
      ∀ h' tk, Fr h₀ env.locals h' m → News h₀ env.locals h' news → Q .next { s₁ with heap := h', toks := tk }) E s)
    (hs : ∀ x, foldedSetIterable iter env x = pure x := by intro _; rfl) :
    wpAny (model prog w) A (exec (.For target iter body [] pos) env) Q E s := by
  refine wpAny_For (wpAny_mono h (fun xv s₁ h₁ => ?_) fun _ _ e => e) hs
  obtain ⟨rfl, hh, F, N, hl, k⟩ := h₁
  have hol : s₁.heap.get? l = some (listOf #[] nn) := (N _ hl).1
  have hls : s₁.heap.IsList l #[] := ⟨_, hol, rfl, nn, rfl⟩
  have hne : l ≠ s₁.heap.objs.size := Nat.ne_of_lt (Heap.lt_size hol)
  refine wpAny_pyIter_list hls ?_
  refine codeAny_of_tree ?_
  show wpAny _ _ ((forTurn target (.ref s₁.heap.objs.size) body [] env).onRaise (fun x => do noteFrame x env; theTreesLotGoes x)) _ _ _
  refine wpAny_onRaise ?_
  unfold forTurn
  refine wpAny_bind (wpAny_standAt (wpAny_bind (wpAny_onRaise ?_)))
  refine wpAny_pyNext_list_end (l := l) (i := 0) (items := #[]) (by rw [Around.under_of_weight]; exact hh; rfl) ⟨_, Heap.get?_push_size _ rfl, rfl, rfl⟩ (hls.at fun o e => Heap.get?_push_of_some _ e) rfl fun h' he => ?_
  show wpAny _ _ (PySem.again (.block [] env)) _ _ _
  refine wpAny_pure ⟨rfl, ?_⟩
  refine codeAny_block (wpAny_execs_nil ?_)
  have hL : env.locals ≠ s₁.heap.objs.size := Nat.ne_of_lt F.ns.lt
  have old : ∀ b o, s₁.heap.get? b = some o → h'.get? b = some o := fun b o e => he b o (Nat.ne_of_lt (Heap.lt_size e)) (Heap.get?_push_of_some _ e)
  exact k h' s₁.toks ⟨F.ns.at' fun o e => old _ o e, fun b o e => old b o (F.keep b o e), F.above⟩ fun p hp => ⟨old _ _ (N p hp).1, (N p hp).2⟩
end
theorem drop2 {h₀ h : Heap} {L : Addr} {a b : Addr × Obj} {r : List (Addr × Obj)} (N : News h₀ L h (a :: b :: r)) : News h₀ L h (a :: r) := fun p hp => N p (by
  rcases List.mem_cons.mp hp with rfl | hp
  · exact List.mem_cons_self ..
  · exact List.mem_cons_of_mem _ (List.mem_cons_of_mem _ hp))
section
variable {d : Addr} {l : List (Addr × Obj)} {P1 P2 P3 P4 P5 P6 : Prop}
theorem alj {j : Nat} (h : AllLt d l) : ∀ p ∈ l, p.1 ≠ d + j := fun p hp => Nat.ne_of_lt (Nat.lt_of_lt_of_le (tb_ltOf h p hp) (Nat.le_add_right _ _))
theorem alj1 {j : Nat} (h : AllLt d l) : ∀ p ∈ l, p.1 ≠ d + j := alj h
theorem alj2 {j : Nat} (h : P1 ∧ AllLt d l) : ∀ p ∈ l, p.1 ≠ d + j := alj h.2
theorem alj3 {j : Nat} (h : P1 ∧ P2 ∧ AllLt d l) : ∀ p ∈ l, p.1 ≠ d + j := alj h.2.2
theorem alj4 {j : Nat} (h : P1 ∧ P2 ∧ P3 ∧ AllLt d l) : ∀ p ∈ l, p.1 ≠ d + j := alj h.2.2.2
theorem alj5 {j : Nat} (h : P1 ∧ P2 ∧ P3 ∧ P4 ∧ AllLt d l) : ∀ p ∈ l, p.1 ≠ d + j := alj h.2.2.2.2
theorem alj6 {j : Nat} (h : P1 ∧ P2 ∧ P3 ∧ P4 ∧ P5 ∧ AllLt d l) : ∀ p ∈ l, p.1 ≠ d + j := alj h.2.2.2.2.2
theorem alj7 {j : Nat} (h : P1 ∧ P2 ∧ P3 ∧ P4 ∧ P5 ∧ P6 ∧ AllLt d l) : ∀ p ∈ l, p.1 ≠ d + j := alj h.2.2.2.2.2.2
theorem lt1 (h : AllLt d l) : ∀ p ∈ l, p.1 < d := tb_ltOf h
theorem lt2 (h : P1 ∧ AllLt d l) : ∀ p ∈ l, p.1 < d := tb_ltOf h.2
theorem lt3 (h : P1 ∧ P2 ∧ AllLt d l) : ∀ p ∈ l, p.1 < d := tb_ltOf h.2.2
theorem lt4 (h : P1 ∧ P2 ∧ P3 ∧ AllLt d l) : ∀ p ∈ l, p.1 < d := tb_ltOf h.2.2.2
theorem lt5 (h : P1 ∧ P2 ∧ P3 ∧ P4 ∧ AllLt d l) : ∀ p ∈ l, p.1 < d := tb_ltOf h.2.2.2.2
theorem lt6 (h : P1 ∧ P2 ∧ P3 ∧ P4 ∧ P5 ∧ AllLt d l) : ∀ p ∈ l, p.1 < d := tb_ltOf h.2.2.2.2.2
theorem lt7 (h : P1 ∧ P2 ∧ P3 ∧ P4 ∧ P5 ∧ P6 ∧ AllLt d l) : ∀ p ∈ l, p.1 < d := tb_ltOf h.2.2.2.2.2.2
theorem al1 (h : AllLt d l) : ∀ p ∈ l, p.1 ≠ d := tbn_neAll h
theorem al2 (h : P1 ∧ AllLt d l) : ∀ p ∈ l, p.1 ≠ d := tbn_neAll h.2
theorem al3 (h : P1 ∧ P2 ∧ AllLt d l) : ∀ p ∈ l, p.1 ≠ d := tbn_neAll h.2.2
theorem al4 (h : P1 ∧ P2 ∧ P3 ∧ AllLt d l) : ∀ p ∈ l, p.1 ≠ d := tbn_neAll h.2.2.2
theorem al5 (h : P1 ∧ P2 ∧ P3 ∧ P4 ∧ AllLt d l) : ∀ p ∈ l, p.1 ≠ d := tbn_neAll h.2.2.2.2
theorem al6 (h : P1 ∧ P2 ∧ P3 ∧ P4 ∧ P5 ∧ AllLt d l) : ∀ p ∈ l, p.1 ≠ d := tbn_neAll h.2.2.2.2.2
theorem al7 (h : P1 ∧ P2 ∧ P3 ∧ P4 ∧ P5 ∧ P6 ∧ AllLt d l) : ∀ p ∈ l, p.1 ≠ d := tbn_neAll h.2.2.2.2.2.2
theorem alp1 (h : AllLt d l) : ∀ p ∈ l, p.1 ≠ d + 1 := alj h
theorem alp2 (h : AllLt d l) : ∀ p ∈ l, p.1 ≠ d + 1 + 1 := alj (j := 2) h
theorem alp3 (h : AllLt d l) : ∀ p ∈ l, p.1 ≠ d + 1 + 1 + 1 := alj (j := 3) h
theorem alq1 (h : P1 ∧ AllLt d l) : ∀ p ∈ l, p.1 ≠ d + 1 := alp1 h.2
theorem alq2 (h : P1 ∧ AllLt d l) : ∀ p ∈ l, p.1 ≠ d + 1 + 1 := alp2 h.2
theorem alq3 (h : P1 ∧ AllLt d l) : ∀ p ∈ l, p.1 ≠ d + 1 + 1 + 1 := alp3 h.2
theorem alr1 (h : P1 ∧ P2 ∧ AllLt d l) : ∀ p ∈ l, p.1 ≠ d + 1 := alp1 h.2.2
theorem alr2 (h : P1 ∧ P2 ∧ AllLt d l) : ∀ p ∈ l, p.1 ≠ d + 1 + 1 := alp2 h.2.2
theorem alr3 (h : P1 ∧ P2 ∧ AllLt d l) : ∀ p ∈ l, p.1 ≠ d + 1 + 1 + 1 := alp3 h.2.2
end
end PartLoops
section Walks
local macro_rules | `(tactic| walk_at "call builtin:list.append") => `(tactic| (k_here; k_dflt (refine' append_K ?k1 ?k2 ?k3 ?_ ?z; (case k1 => k_asm); (case k2 => k_asm); (case k3 => k_upd); (case z => size_fits); k_whole); intro h' F' N'; (try k_sweep)))
local macro_rules | `(tactic| k_room) => `(tactic| ktr_room)
local macro_rules | `(tactic| walk_at "getMethod ref") => `(tactic| k_extra "getm!")
local macro_rules | `(tactic| walk_at "call builtin:re.Pattern.sub") => `(tactic| k_extra "sub!")
local macro_rules | `(tactic| walk_at "call builtin:re.Pattern.search") => `(tactic| k_extra "search!")
local macro_rules | `(tactic| walk_at "call ref") => `(tactic| k_extra "call ref!")
local macro_rules | `(tactic| walk_at "exec For") => `(tactic| k_extra "for!")
local macro_rules | `(tactic| walk_at "pyIter ref") => `(tactic| k_extra "pyIter!")
local macro_rules | `(tactic| walk_at "eval ListComp") => `(tactic| k_extra "lc!")
local macro_rules | `(tactic| walk_at "CompSrcT") => `(tactic| k_extra "src!")
local macro_rules | `(tactic| walk_at "CompSrc") => `(tactic| k_extra "src!")
local macro_rules | `(tactic| walk_at "call builtin:str.lower") => `(tactic| k_extra "low!")
local macro_rules | `(tactic| k_all) => `(tactic| first | assumption | exact al1 (by assumption) | exact al2 (by assumption) | exact al3 (by assumption) | exact al4 (by assumption) | exact al5 (by assumption) | exact al6 (by assumption) | exact al7 (by assumption) | exact alj1 (by assumption) | exact alj2 (by assumption) | exact alj3 (by assumption) | exact alj4 (by assumption) | exact alj5 (by assumption) | exact alj6 (by assumption) | exact alj7 (by assumption) | exact alp1 (by assumption) | exact alp2 (by assumption) | exact alp3 (by assumption) | exact alq1 (by assumption) | exact alq2 (by assumption) | exact alq3 (by assumption) | exact alr1 (by assumption) | exact alr2 (by assumption) | exact alr3 (by assumption))
local macro_rules | `(tactic| walk_at "binaryOp Mult ref int") => `(tactic| k_extra "mul!")
local macro_rules | `(tactic| walk_at "binaryOp FloorDiv int int") => `(tactic| k_extra "div!")
local macro_rules | `(tactic| walk_at "binaryOp RShift int int") => `(tactic| k_extra "shr!")
local macro_rules | `(tactic| walk_at "binaryOp LShift int int") => `(tactic| k_extra "shl!")
local macro_rules | `(tactic| walk_at "binaryOp BitXor int int") => `(tactic| k_extra "xor!")
local macro_rules | `(tactic| walk_at "compareOp Eq int int") => `(tactic| k_extra "eq!")
local macro_rules | `(tactic| walk_at "call builtin:len") => `(tactic| k_extra "len!")
local macro_rules | `(tactic| walk_at "truthy int") => `(tactic| k_extra "tru!")
local macro_rules | `(tactic| walk_at "call builtin:int.bit_length") => `(tactic| k_extra "blen!")
local macro_rules | `(tactic| walk_at "subscriptTail Name Constant ref int") => `(tactic| k_extra "tup!")
local macro_rules | `(tactic| walk_at "subscriptTail Name Name str int") => `(tactic| k_extra "chr!")
local macro_rules | `(tactic| walk_at "subscriptTail Name Name ref int") => `(tactic| k_extra "row!")
local macro_rules | `(tactic| walk_at "subscriptTail Subscript Name Name Name ref int") => `(tactic| k_extra "cell!")
local macro_rules | `(tactic| walk_at "compareOp Eq str str") => `(tactic| k_extra "dash!")
local macro_rules | `(tactic| walk_at "compareOp Lt int int") => `(tactic| k_extra "lt!")
local macro_rules | `(tactic| walk_at "exec For Name Call cons nil") => `(tactic| k_extra "for!")
local macro_rules | `(tactic| walk_at "subscriptTail Name Name ref int") => `(tactic| k_extra "item!")
local macro_rules | `(tactic| walk_at "exec While") => `(tactic| k_extra "while!")
local macro_rules | `(tactic| walk_at "call builtin:list.insert") => `(tactic| k_extra "ins!")
local macro_rules | `(tactic| walk_at "compareOp Gt int int") => `(tactic| k_extra "gt!")
local macro_rules | `(tactic| walk_at "exec For Name Subscript cons nil") => `(tactic| k_extra "for!")
local macro_rules | `(tactic| walk_at "call builtin:list.append") => `(tactic| k_extra "app!")
local macro_rules | `(tactic| walk_at "compareOp NotIn int ref") => `(tactic| k_extra "notin!")
local macro_rules | `(tactic| walk_at "exec For Name Name cons nil") => `(tactic| k_extra "for!")
local macro_rules | `(tactic| walk_at "compareOp In int ref") => `(tactic| k_extra "in!")
local macro_rules | `(tactic| walk_at "compareOp LtE int int") => `(tactic| k_extra "le!")
local macro_rules | `(tactic| walk_at "binaryOp Pow int int") => `(tactic| k_extra "pow!")
local macro_rules | `(tactic| walk_at "call builtin:str.join") => `(tactic| k_extra "join!")
local macro_rules | `(tactic| walk_at "subscriptTail Constant str Name str int") => `(tactic| k_extra "bit!")
local macro_rules | `(tactic| walk_at "subscriptTail Name BinOp ref int") => `(tactic| k_extra "end!")
local macro_rules | `(tactic| walk_at "subscriptTail Name Slice ref ref") => `(tactic| k_extra "slice!")
local macro_rules | `(tactic| walk_at "call type:str") => `(tactic| k_extra "str!")
local macro_rules | `(tactic| walk_at "call builtin:str.split") => `(tactic| k_extra "split!")
local macro_rules | `(tactic| walk_at "binaryOp Add str str") => `(tactic| k_extra "adds!")
section PartTools
/-- the frame's function with the names of `ov` unknown -/
abbrev ovl (ov : List Str) (U m₀ : Str → Option Value) : Str → Option Value := fun y => if ov.contains y = true then U y else m₀ y
theorem ovl_of {ov : List Str} {m m₀ : Str → Option Value} (h : ∀ y, ov.contains y = false → m y = m₀ y) : m = ovl ov m m₀ := by
  funext y
  by_cases c : ov.contains y = true
  · show m y = if ov.contains y = true then m y else m₀ y
    rw [if_pos c]
  · show m y = if ov.contains y = true then m y else m₀ y
    rw [if_neg c]; exact h y (by simpa using c)
section
variable {prog : Program} {w : World} {A : Around} {E : Value → Shared → Prop} {s : Shared} {env : Env} {h₀ : Heap} {x : Str} {body : List Stmt} {Q : Flow → Shared → Prop}
/-- what a turn leaves: the names of `ov` may have changed, the ledger is J's -/
abbrev NRest (ov : List Str) (m₀ : Str → Option Value) (J : List (Addr × Obj) → Prop) (m : Str → Option Value) (nx : List (Addr × Obj)) : Prop := (∀ y, ov.contains y = false → m y = m₀ y) ∧ J nx
theorem iter_listN {l : Addr} {vs : List Value} {nn : Nat} {m₀ : Str → Option Value} {news : List (Addr × Obj)} (ov : List Str) (J : Nat → List (Addr × Obj) → Prop)
    (hh : A.handled = none) (hl : (l, listOf vs.toArray nn) ∈ news) (hJl : ∀ i nx, J i nx → (l, listOf vs.toArray nn) ∈ nx) (F : Fr h₀ env.locals s.heap m₀) (N : News h₀ env.locals s.heap news) (hj : J 0 news)
    (turn : ∀ I, (∀ p ∈ news, p.1 < I) → ∀ it i v U nx h tk, vs[i]? = some v → J i nx → (∀ p ∈ nx, p.1 ≠ I) → Fr h₀ env.locals h (fun y => if y = x then some v else ovl ov U m₀ y) → News h₀ env.locals h ((I, it) :: nx) →
      wpAny (model prog w) A (execs body env) (LPost h₀ env.locals { s with heap := h, toks := tk } I it (NRest ov m₀ (J (i + 1))) Q) E { s with heap := h, toks := tk })
    (done : ∀ U nx h tk, J vs.length nx → Fr h₀ env.locals h (ovl ov U m₀) → News h₀ env.locals h nx → Q .next { s with heap := h, toks := tk }) :
    wpAny (model prog w) A (pyIter (.ref l)) (fun it s₂ => LoopAtV prog w A h₀ env x body Q E it s₂) E s := by
  refine iter_listJ (fun i m nx => NRest ov m₀ (J i) m nx) hh hl (fun i m nx h => hJl i nx h.2) F N ⟨fun _ _ => rfl, hj⟩ ?_ ?_
  · rintro I hI it i v m₁ nx h tk hv ⟨hm, hJ⟩ hoff F' N'
    rw [ovl_of hm] at F'
    exact turn I hI it i v m₁ nx h tk hv hJ hoff F' N'
  · rintro m₁ nx h tk ⟨hm, hJ⟩ F' N'
    rw [ovl_of hm] at F'
    exact done m₁ nx h tk hJ F' N'
theorem iter_rangeN {r : Addr} {a₀ b₀ : Int} {t₀ u₀ v₀ : Tok} {n : Nat} {m₀ : Str → Option Value} {news : List (Addr × Obj)} (ov : List Str) (J : Nat → List (Addr × Obj) → Prop)
    (hh : A.handled = none) (hr : IsRange s.heap r a₀ b₀ 1 t₀ u₀ v₀) (hsmall : Builtin.Range.small a₀ b₀ 1 = true) (hn : Builtin.Range.rangeSize a₀ b₀ 1 = (n : Int)) (F : Fr h₀ env.locals s.heap m₀) (N : News h₀ env.locals s.heap news) (hj : J 0 news)
    (turn : ∀ I, (∀ p ∈ news, p.1 < I) → ∀ it (i : Nat) t U nx h tk, i < n → J i nx → (∀ p ∈ nx, p.1 ≠ I) → Fr h₀ env.locals h (fun y => if y = x then some (.int (a₀ + (i : Int)) t) else ovl ov U m₀ y) → News h₀ env.locals h ((I, it) :: nx) →
      wpAny (model prog w) A (execs body env) (LPost h₀ env.locals { s with heap := h, toks := tk } I it (NRest ov m₀ (J (i + 1))) Q) E { s with heap := h, toks := tk })
    (done : ∀ U nx h tk, J n nx → Fr h₀ env.locals h (ovl ov U m₀) → News h₀ env.locals h nx → Q .next { s with heap := h, toks := tk }) :
    wpAny (model prog w) A (pyIter (.ref r)) (fun it s₂ => LoopAtV prog w A h₀ env x body Q E it s₂) E s := by
  refine iter_rangeJ (fun i m nx => NRest ov m₀ (J i) m nx) hh hr hsmall hn F N ⟨fun _ _ => rfl, hj⟩ ?_ ?_
  · rintro I hI it i t m₁ nx h tk hv ⟨hm, hJ⟩ hoff F' N'
    rw [ovl_of hm] at F'
    exact turn I hI it i t m₁ nx h tk hv hJ hoff F' N'
  · rintro m₁ nx h tk ⟨hm, hJ⟩ F' N'
    rw [ovl_of hm] at F'
    exact done m₁ nx h tk hJ F' N'
end
section
open PyProof.Rows.LCg
variable {prog : Program} {w : World} {A : Around} {h₀ : Heap} {L : Addr} {m : Str → Option Value} {env : Env} {elt : Expr} {x : Str} {scope : Scope} {cl : List (Str × Addr)} {s : Shared} {S : List (Addr × Obj) → Prop} {P : Nat → Value → Prop} {Fin : List Value → List (Addr × Obj) → Prop}
/-- a comprehension without a test, with an invariant -/
theorem compJ {n : Nat} (J : Nat → List Value → List (Addr × Obj) → Prop) {news : List (Addr × Obj)} (hj : J 0 [] news)
    (turn : ∀ i v ys nx I oI C oC D m₂ h tk (E' : Value → Shared → Prop), i < n → P i v → J i ys nx → NsObj oC m₂ → m₂ x = some v → Fr h₀ L h m → News h₀ L h ((I, oI) :: (C, oC) :: (D, lst ys) :: nx) → Off3 I C D nx → ((@Ne Nat I C) ∧ (@Ne Nat I D) ∧ (@Ne Nat C D)) →
      wpAny (model prog w) A (eval elt (compEnvC scope cl C env)) (CompEnd h₀ L m { s with heap := h, toks := tk } I oI C oC D (lst ys) S (fun y nx' => J (i + 1) (ys ++ [y]) nx')) E' { s with heap := h, toks := tk })
    (fin : ∀ ys nx, J n ys nx → Fin ys nx) : CompRest prog w A h₀ L m env elt x scope cl s S P Fin n 0 [] news := by
  have key : ∀ (j i : Nat) (ys : List Value) (nx : List (Addr × Obj)), i + j = n → J i ys nx → CompRest prog w A h₀ L m env elt x scope cl s S P Fin j i ys nx := by
    intro j
    induction j with
    | zero =>
      intro i ys nx hi hJ
      have e : i = n := by omega
      subst e
      exact CompRest.zero (fin ys nx hJ)
    | succ j ih =>
      intro i ys nx hi hJ
      refine CompRest.succ ?_
      intro v I oI C oC D m₂ h tk E' hv hC hx F N off ne
      refine wpAny_mono (turn i v ys nx I oI C oC D m₂ h tk E' (by omega) hv hJ hC hx F N off ne) (fun y s₃ hq => ?_) fun _ _ e => e
      obtain ⟨h', tk', nw, e, F', N', off', hS, hJ'⟩ := hq
      exact ⟨h', tk', nw, e, F', N', off', hS, ih (i + 1) _ _ (by omega) hJ'⟩
  exact key n 0 [] news (by omega) hj
end
section
variable {prog : Program} {w : World} {A : Around} {E : Value → Shared → Prop} {s : Shared} {env : Env} {h₀ : Heap} {x : Str} {body : List Stmt} {Q : Flow → Shared → Prop}
/-- what a turn with an accumulator leaves -/
abbrev ARest (ov : List Str) (m₀ : Str → Option Value) (acc : Str) (J : Value → List (Addr × Obj) → Prop) (m : Str → Option Value) (nx : List (Addr × Obj)) : Prop := (∀ y, ov.contains y = false → m y = m₀ y) ∧ ∃ v, m acc = some v ∧ J v nx
theorem acc_of {ov : List Str} {acc : Str} {m m₀ : Str → Option Value} {v : Value} (h : ∀ y, ov.contains y = false → m y = m₀ y) (hv : m acc = some v) : m = fun y => if y = acc then some v else ovl ov m m₀ y := by
  funext y
  by_cases e : y = acc
  · rw [if_pos e, e, hv]
  · rw [if_neg e]; exact congrFun (ovl_of h) y
theorem iter_rangeA {r : Addr} {a₀ b₀ : Int} {t₀ u₀ v₀ : Tok} {n : Nat} {m₀ : Str → Option Value} {news : List (Addr × Obj)} (ov : List Str) (acc : Str) (J : Nat → Value → List (Addr × Obj) → Prop) {z : Value} (hz : m₀ acc = some z)
    (hh : A.handled = none) (hr : IsRange s.heap r a₀ b₀ 1 t₀ u₀ v₀) (hsmall : Builtin.Range.small a₀ b₀ 1 = true) (hn : Builtin.Range.rangeSize a₀ b₀ 1 = (n : Int)) (F : Fr h₀ env.locals s.heap m₀) (N : News h₀ env.locals s.heap news) (hj : J 0 z news)
    (turn : ∀ I, (∀ p ∈ news, p.1 < I) → ∀ it (i : Nat) t v U nx h tk, i < n → J i v nx → (∀ p ∈ nx, p.1 ≠ I) → Fr h₀ env.locals h (fun y => if y = x then some (.int (a₀ + (i : Int)) t) else if y = acc then some v else ovl ov U m₀ y) → News h₀ env.locals h ((I, it) :: nx) →
      wpAny (model prog w) A (execs body env) (LPost h₀ env.locals { s with heap := h, toks := tk } I it (ARest ov m₀ acc (J (i + 1))) Q) E { s with heap := h, toks := tk })
    (done : ∀ v U nx h tk, J n v nx → Fr h₀ env.locals h (fun y => if y = acc then some v else ovl ov U m₀ y) → News h₀ env.locals h nx → Q .next { s with heap := h, toks := tk }) :
    wpAny (model prog w) A (pyIter (.ref r)) (fun it s₂ => LoopAtV prog w A h₀ env x body Q E it s₂) E s := by
  refine iter_rangeJ (fun i m nx => ARest ov m₀ acc (J i) m nx) hh hr hsmall hn F N ⟨fun _ _ => rfl, z, hz, hj⟩ ?_ ?_
  · rintro I hI it i t m₁ nx h tk hv ⟨hm, v, hva, hJ⟩ hoff F' N'
    rw [acc_of hm hva] at F'
    exact turn I hI it i t v m₁ nx h tk hv hJ hoff F' N'
  · rintro m₁ nx h tk ⟨hm, v, hva, hJ⟩ F' N'
    rw [acc_of hm hva] at F'
    exact done v m₁ nx h tk hJ F' N'
theorem iter_listA {l : Addr} {vs : List Value} {nn : Nat} {m₀ : Str → Option Value} {news : List (Addr × Obj)} (ov : List Str) (acc : Str) (J : Nat → Value → List (Addr × Obj) → Prop) {z : Value} (hz : m₀ acc = some z)
    (hh : A.handled = none) (hl : (l, listOf vs.toArray nn) ∈ news) (hJl : ∀ i v nx, J i v nx → (l, listOf vs.toArray nn) ∈ nx) (F : Fr h₀ env.locals s.heap m₀) (N : News h₀ env.locals s.heap news) (hj : J 0 z news)
    (turn : ∀ I, (∀ p ∈ news, p.1 < I) → ∀ it i e v U nx h tk, vs[i]? = some e → J i v nx → (∀ p ∈ nx, p.1 ≠ I) → Fr h₀ env.locals h (fun y => if y = x then some e else if y = acc then some v else ovl ov U m₀ y) → News h₀ env.locals h ((I, it) :: nx) →
      wpAny (model prog w) A (execs body env) (LPost h₀ env.locals { s with heap := h, toks := tk } I it (ARest ov m₀ acc (J (i + 1))) Q) E { s with heap := h, toks := tk })
    (done : ∀ v U nx h tk, J vs.length v nx → Fr h₀ env.locals h (fun y => if y = acc then some v else ovl ov U m₀ y) → News h₀ env.locals h nx → Q .next { s with heap := h, toks := tk }) :
    wpAny (model prog w) A (pyIter (.ref l)) (fun it s₂ => LoopAtV prog w A h₀ env x body Q E it s₂) E s := by
  refine iter_listJ (fun i m nx => ARest ov m₀ acc (J i) m nx) hh hl (fun i m nx h => let ⟨_, v, _, hj⟩ := h; hJl i v nx hj) F N ⟨fun _ _ => rfl, z, hz, hj⟩ ?_ ?_
  · rintro I hI it i e m₁ nx h tk hv ⟨hm, v, hva, hJ⟩ hoff F' N'
    rw [acc_of hm hva] at F'
    exact turn I hI it i e v m₁ nx h tk hv hJ hoff F' N'
  · rintro m₁ nx h tk ⟨hm, v, hva, hJ⟩ F' N'
    rw [acc_of hm hva] at F'
    exact done v m₁ nx h tk hJ F' N'
end
end PartTools
section PartRegex
namespace Re
open PySem.Builtin PySem.Builtin.Re
theorem plainAttrs_pat : PlainAttrs "re.Pattern" :=
  ⟨⟨"object.__getattribute__", by rw [typeLookup_type, builtinLookup_eq_fast]; kernel_rfl, by decide +kernel⟩, by rw [typeLookup_type, builtinLookup_eq_fast]; kernel_rfl⟩
theorem slot_search : Slot "re.Pattern" "search" "re.Pattern.search" :=
  .of (owner := "re.Pattern") (n := "search") (by rw [typeLookup_type, builtinLookup_eq_fast]; kernel_rfl) (by decide +kernel) (by decide +kernel) (by decide +kernel)
    (by first | exact .inl (by decide +kernel) | exact .inr (by decide +kernel)) (by rw [isSubtype_type]; kernel_rfl)
theorem slot_sub : Slot "re.Pattern" "sub" "re.Pattern.sub" :=
  .of (owner := "re.Pattern") (n := "sub") (by rw [typeLookup_type, builtinLookup_eq_fast]; kernel_rfl) (by decide +kernel) (by decide +kernel) (by decide +kernel)
    (by first | exact .inl (by decide +kernel) | exact .inr (by decide +kernel)) (by rw [isSubtype_type]; kernel_rfl)
theorem type_search : typeOf (.builtin "re.Pattern.search") = pure (.type "method_descriptor") := by show builtinType _ = _; rw [builtinType_eq_fast]; kernel_rfl
theorem type_sub : typeOf (.builtin "re.Pattern.sub") = pure (.type "method_descriptor") := by show builtinType _ = _; rw [builtinType_eq_fast]; kernel_rfl
theorem entry_search : entryFor table "re.Pattern.search" = some Builtin.«re.Pattern.search» := entryFor_of_tree (by kernel_rfl)
theorem entry_sub : entryFor table "re.Pattern.sub" = some Builtin.«re.Pattern.sub» := entryFor_of_tree (by kernel_rfl)
theorem entry_loop : entryFor table "re.Pattern.sub.loop" = some Builtin.«re.Pattern.sub.loop» := entryFor_of_tree (by kernel_rfl)
theorem args_search (a b : Value) : argsOk "re.Pattern.search" ⟨[a, b], []⟩ := by unfold argsOk; kernel_rfl
theorem args_sub (a b c : Value) : argsOk "re.Pattern.sub" ⟨[a, b, c], []⟩ := by unfold argsOk; kernel_rfl
section
variable {prog : Program} {w : World} {A : Around} {E : Value → Shared → Prop} {s : Shared}
/-- a compiled pattern without groups, its code as written -/
structure PatAt (h : Heap) (a c : Addr) (code : List Nat) : Prop where
  pat : ∃ p fl sl, h.get? a = some ⟨.type "re.Pattern", none, .fields #[p, fl, .int 0 0, .none, .none, .ref c, .int 0 0], sl⟩
  tup : ∃ o n, h.get? c = some o ∧ o.data = .seq (code.map fun (k : Nat) => Value.int (k : Int) 0).toArray n
theorem PatAt.keeps {h h' : Heap} {a c : Addr} {code : List Nat} (P : PatAt h a c code) (k : ∀ b o, h.get? b = some o → h'.get? b = some o) : PatAt h' a c code := by
  obtain ⟨⟨p, fl, sl, e⟩, o, n, e2, e3⟩ := P
  exact ⟨⟨p, fl, sl, k _ _ e⟩, o, n, k _ _ e2, e3⟩
theorem PatAt.type {s : Shared} {a c : Addr} {code : List Nat} (P : PatAt s.heap a c code) : s.TypeIs (.ref a) "re.Pattern" := by
  obtain ⟨⟨p, fl, sl, e⟩, _⟩ := P
  exact ⟨_, e, rfl⟩
theorem PatAt.noDict {s : Shared} {a c : Addr} {code : List Nat} (P : PatAt s.heap a c code) : s.heap.NoDictAt (.ref a) := by
  obtain ⟨⟨p, fl, sl, e⟩, _⟩ := P
  exact ⟨_, e, rfl⟩
theorem getm_sub {a c : Addr} {code : List Nat} {pl : Sem Bool} {Q : Value × List Value → Shared → Prop} (P : PatAt s.heap a c code) (h : Q (.builtin "re.Pattern.sub", [.ref a]) s) : wpAny (model prog w) A (getMethod (.ref a) "sub" pl) Q E s :=
  getMethod_builtin P.type plainAttrs_pat slot_sub type_sub (fun a e => by cases e; exact P.noDict) h
theorem getm_search {a c : Addr} {code : List Nat} {pl : Sem Bool} {Q : Value × List Value → Shared → Prop} (P : PatAt s.heap a c code) (h : Q (.builtin "re.Pattern.search", [.ref a]) s) : wpAny (model prog w) A (getMethod (.ref a) "search" pl) Q E s :=
  getMethod_builtin P.type plainAttrs_pat slot_search type_search (fun a e => by cases e; exact P.noDict) h
theorem rawItems {a c : Addr} {code : List Nat} {Q : Array Int → Shared → Prop} (P : PatAt s.heap a c code) (h : Q (code.map fun (k : Nat) => (k : Int)).toArray s) : wpAny (model prog w) A (reRawItems (.ref c)) Q E s := by
  obtain ⟨_, o, n, e, ed⟩ := P
  unfold reRawItems
  refine wpAny_bind (wpAny_seqItems e ed (wpAny_pure ?_))
  have : (Array.map reRawOf ((some ((code.map fun (k : Nat) => Value.int (k : Int) 0).toArray)).getD #[])) = (code.map fun (k : Nat) => (k : Int)).toArray := by
    simp [reRawOf]
  rw [this]; exact h
theorem toNats (code : List Nat) : ((code.map fun (k : Nat) => (k : Int)).toArray).map (·.toNat) = code.toArray := by
  rw [List.map_toArray, List.map_map]
  congr
  induction code with
  | nil => rfl
  | cons k r ih => simp only [List.map_cons, ih]; rfl
theorem named_search (v : Value) : reNamed "re.Pattern.search" "search" ["string", "pos", "endpos"] 1 [v] [] = pure [some v, none, none] := rfl
theorem target {a c : Addr} {code : List Nat} {v : Str} {t : Tok} {Q : ReTarget → Shared → Prop} (P : PatAt s.heap a c code) (hv : v.length ≤ 2 ^ 20)
    (h : Q { pattern := .ref a, string := .str v t, code := code.toArray, text := v.cps, kind := 0, groups := 0, pos := 0, lim := v.cps.size } s) :
    wpAny (model prog w) A (reTarget "re.Pattern.search" "search" ⟨[.ref a, .str v t], []⟩) Q E s := by
  obtain ⟨p, fl, sl, e⟩ := P.pat
  unfold reTarget
  show wpAny _ _ (reNamed "re.Pattern.search" "search" ["string", "pos", "endpos"] 1 [.str v t] [] >>= _) _ _ _
  rw [named_search]
  show wpAny _ _ (fieldsOf (.ref a) >>= _) _ _ _
  refine wpAny_bind (wpAny_fieldsOf e rfl ?_)
  show wpAny _ _ (reRawItems (.ref c) >>= _) _ _ _
  refine wpAny_bind (rawItems P ?_)
  rw [toNats]
  refine wpAny_pure ?_
  have e1 : min (2 ^ 63 - 1 : Int).toNat v.cps.size = v.cps.size := by
    have : v.cps.size ≤ 2 ^ 20 := hv
    omega
  have e0 : min (0 : Int).toNat v.cps.size = 0 := by simp
  show Q { pattern := .ref a, string := .str v t, code := code.toArray, text := v.cps, kind := 0, groups := 0, pos := min (0 : Int).toNat v.cps.size, lim := min (2 ^ 63 - 1 : Int).toNat v.cps.size } s
  rw [e0, e1]; exact h
end
end Re
end PartRegex
section PartRegex2
namespace Re
open PySem.Builtin PySem.Builtin.Re
section
variable {prog : Program} {w : World} {A : Around} {E : Value → Shared → Prop} {s : Shared}
theorem drive_done (k : Nat) (m : Sre.M) (h : (m.runFor 4).outcome.isSome = true) : reDrive (k + 1) m = pure (m.runFor 4) := by
  show (if (m.runFor 4).outcome.isSome = true then pure (m.runFor 4) else _) = _
  rw [if_pos h]
theorem drive_more (k : Nat) (m : Sre.M) (h : (m.runFor 4).outcome.isSome = false) : reDrive (k + 1) m = (do rule "sre.turn"; reDrive k (m.runFor 4)) := by
  show (if (m.runFor 4).outcome.isSome = true then pure (m.runFor 4) else _) = _
  rw [h, if_neg Bool.false_ne_true]
  rfl
theorem runFor_stop (n : Nat) (m : Sre.M) (h : m.outcome.isSome = true) : m.runFor n = m := by
  cases n with
  | zero => rfl
  | succ n => show (if m.outcome.isSome = true then m else _) = m; rw [if_pos h]
theorem runFor_add (j : Nat) : ∀ (i : Nat) (m : Sre.M), m.runFor (i + j) = (m.runFor i).runFor j := by
  intro i
  induction i with
  | zero => intro m; rw [Nat.zero_add]; rfl
  | succ i ih =>
    intro m
    cases h : m.outcome.isSome with
    | true =>
      rw [runFor_stop _ _ h, runFor_stop _ _ h, runFor_stop _ _ h]
    | false =>
      have e1 : m.runFor (i + 1 + j) = m.step.runFor (i + j) := by
        rw [show i + 1 + j = (i + j) + 1 by omega]
        show (if m.outcome.isSome = true then m else m.step.runFor (i + j)) = _
        rw [h, if_neg Bool.false_ne_true]
      have e2 : m.runFor (i + 1) = m.step.runFor i := by
        show (if m.outcome.isSome = true then m else m.step.runFor i) = _
        rw [h, if_neg Bool.false_ne_true]
      rw [e1, e2, ih]
theorem drive {Q : Sre.M → Shared → Prop} : ∀ (k n : Nat) (m : Sre.M), (m.runFor n).outcome.isSome = true → n ≤ 4 * k → 1 ≤ n → Q (m.runFor n) s → wpAny (model prog w) A (reDrive k m) Q E s := by
  intro k
  induction k with
  | zero => intro n m h hn h1; omega
  | succ k ih =>
    intro n m h hn h1 hq
    cases h4 : (m.runFor 4).outcome.isSome with
    | true =>
      rw [drive_done k m h4]
      refine wpAny_pure ?_
      by_cases hle : n ≤ 4
      · have e : m.runFor 4 = m.runFor n := by
          rw [show 4 = n + (4 - n) by omega, runFor_add, runFor_stop _ _ h]
        rw [e]; exact hq
      · have e : m.runFor n = m.runFor 4 := by
          rw [show n = 4 + (n - 4) by omega, runFor_add, runFor_stop _ _ h4]
        rw [← e]; exact hq
    | false =>
      rw [drive_more k m h4]
      have hgt : 4 < n := by
        refine Nat.lt_of_not_le fun hle => ?_
        have e : m.runFor 4 = m.runFor n := by
          rw [show 4 = n + (4 - n) by omega, runFor_add, runFor_stop _ _ h]
        rw [e, h] at h4
        cases h4
      have e : m.runFor n = (m.runFor 4).runFor (n - 4) := by
        rw [← runFor_add]; congr 1; omega
      refine wpAny_bind (wpAny_rule (ih (n - 4) _ (by rw [← e]; exact h) (by omega) (by omega) (by rw [← e]; exact hq)))
theorem rules (p : Nat → Bool) (g : Nat → String) {Q : PUnit → Shared → Prop} : ∀ (l : List Nat), Q PUnit.unit s → wpAny (model prog w) A (forIn l PUnit.unit fun i _ => if p i = true then do rule (g i); pure (ForInStep.yield PUnit.unit) else pure (ForInStep.yield PUnit.unit)) Q E s := by
  intro l h
  induction l with
  | nil => exact wpAny_pure h
  | cons i r ih =>
    rw [List.forIn_cons]
    refine wpAny_bind ?_
    split
    · exact wpAny_bind (wpAny_rule (wpAny_pure ih))
    · exact wpAny_pure ih
theorem toEnd {m : Sre.M} {Q : Option Sre.M → Shared → Prop} (n : Nat) (h1 : 1 ≤ n) (hn : n ≤ 2 ^ 60)
    (h : ((m.runFor n).outcome = some .matched ∧ Q (some (m.runFor n)) s) ∨ ((m.runFor n).outcome = some .failed ∧ Q none s)) : wpAny (model prog w) A (reRunToEnd m) Q E s := by
  have hle : n ≤ 4 * 2 ^ 64 := Nat.le_trans hn (by decide)
  have hs : (m.runFor n).outcome.isSome = true := by rcases h with h | h <;> rw [h.1] <;> rfl
  unfold reRunToEnd
  refine wpAny_bind (drive (2 ^ 64) n m hs hle h1 ?_)
  refine wpAny_bind ?_
  refine wpAny_mono (rules (Q := fun _ s' => s' = s) (fun i => (m.runFor n).seen.has i) (fun i => Sre.names.getD i "") _ rfl) (fun _ s' e => ?_) fun _ _ e => e
  subst e
  rcases h with h | h
  · rw [h.1]; exact wpAny_pure h.2
  · rw [h.1]; exact wpAny_pure h.2
/-- a search that starts nowhere -/
theorem admitted_none {m : Sre.M} (ok : Nat → Prop) (hset : ∀ c, ok c → ∀ seen, ∃ seen', Sre.inSet m.code c m.code.size 5 true seen = .ok (false, seen')) (hall : ∀ i, i < m.lim → ok (m.text.getD i 0)) :
    ∀ fuel st seen, ∃ seen', Sre.M.admitted m fuel st seen = .ok (none, seen') := by
  intro fuel
  induction fuel with
  | zero => intro st seen; exact ⟨seen, rfl⟩
  | succ fuel ih =>
    intro st seen
    unfold Sre.M.admitted
    by_cases h : st ≥ m.lim
    · rw [if_pos h]; exact ⟨seen, rfl⟩
    · rw [if_neg h]
      obtain ⟨seen', e⟩ := hset _ (hall st (by omega)) seen
      rw [e]
      exact ih (st + 1) seen'
theorem admitted_not {m : Sre.M} {fuel st : Nat} {seen : Sre.Seen} {r : Except String (Option Nat × Sre.Seen)} (e : Sre.M.admitted m fuel st seen = r) (ok : Nat → Prop)
    (hset : ∀ c, ok c → ∀ seen, ∃ seen', Sre.inSet m.code c m.code.size 5 true seen = .ok (false, seen')) (hall : ∀ i, i < m.lim → ok (m.text.getD i 0)) : ∃ seen', r = .ok (none, seen') := by
  obtain ⟨s', e'⟩ := admitted_none ok hset hall fuel st seen
  exact ⟨s', e ▸ e'⟩
theorem fails {m : Sre.M} (ho : m.outcome = none) (ha : m.answer = some false) (hf : m.frames = []) : (m.runFor 1).outcome = some .failed := by
  show (if m.outcome.isSome = true then m else m.step).outcome = _
  rw [ho, if_neg (by simp)]
  unfold Sre.M.step
  rw [ho, ha, hf]
  rfl
theorem search_none {a c : Addr} {code : List Nat} {v : Str} {t : Tok} {Q : Value → Shared → Prop} (P : PatAt s.heap a c code) (hv : v.length ≤ 2 ^ 20) (ok : Nat → Prop)
    (hset : ∀ c, ok c → ∀ seen, ∃ seen', Sre.inSet code.toArray c code.toArray.size 5 true seen = .ok (false, seen')) (hall : ∀ i, i < v.cps.size → ok (v.cps.getD i 0))
    (hh : (match Sre.ops[code.toArray.getD 0 0]? with | some .INFO => true | _ => false) = true) (hf : code.toArray.getD 2 0 = 4) (hl : code.toArray.getD 3 0 = 1) (h : Q .none s) :
    wpAny (model prog w) A (call (.builtin "re.Pattern.search") [.ref a, .str v t]) Q E s := by
  refine wpAny_call_entry slot_search P.type entry_search ?_ (args_search _ _)
  unfold «re.Pattern.search»
  refine wpAny_bind (target P hv ?_)
  unfold reAnswer
  refine wpAny_bind ?_
  have key : ∃ n, 1 ≤ n ∧ n ≤ 2 ^ 60 ∧ ((Sre.forSearch code.toArray v.cps 0 0 v.cps.size false).runFor n).outcome = some .failed := by
    refine ⟨1, Nat.le_refl _, by decide, ?_⟩
    have hhd : Sre.header code.toArray = (1, 1 + code.toArray.getD 1 0) := by
      unfold Sre.header
      split at hh
      · rename_i e; rw [e]; dsimp only; rw [hl]
      · cases hh
    unfold Sre.forSearch
    rw [hhd]
    dsimp only
    split
    · exact fails rfl rfl rfl
    · unfold Sre.M.attemptFrom
      have hfs : Sre.M.hasFirstSet = Sre.M.hasFirstSet := rfl
      rw [if_neg (by
        unfold Sre.M.hasFirstSet
        show ¬ (!((match Sre.ops[code.toArray.getD 0 0]? with | some .INFO => true | _ => false) && code.toArray.getD 2 0 == 4)) = true
        rw [hh, hf]; decide)]
      dsimp only
      split
      · rename_i e
        obtain ⟨_, q⟩ := admitted_not e ok hset hall
        cases q
      · exact fails rfl rfl rfl
      · rename_i e
        obtain ⟨_, q⟩ := admitted_not e ok hset hall
        cases q
  obtain ⟨n, h1, h2, h3⟩ := key
  refine toEnd n h1 h2 (Or.inr ⟨h3, ?_⟩)
  exact wpAny_pure ⟨_, rfl, h⟩
end
end Re
end PartRegex2
section PartRegex3
namespace Re
open PySem.Builtin PySem.Builtin.Re
/-- the first pattern's code -/
def c1 : List Nat := [14, 4, 0, 1, 1, 6, 1, 16, 46, 1]
/-- a trial of the first pattern at s -/
def T1 (text : Array Nat) (lim s : Nat) (first : Bool) (seen : Sre.Seen) : Sre.M :=
  { code := c1.toArray, text, lim, start := s, lastStart := lim, wholeText := false, mustAdvance := false, pc := 5, pos := s, handed := s, outermost := first, marks := #[], lastmark := -1, lastindex := -1, loops := #[], inner := none,
    frames := [{ wait := .nextStart, pc := 5, pos := s, outermost := first }], weight := 1, answer := none, seen, outcome := none }
theorem t1_at (text : Array Nat) (lim s : Nat) (first : Bool) (seen : Sre.Seen) :
    (T1 text lim s first seen).step = if (s == 0 || text.getD (s - 1) 0 == 10) = true then { T1 text lim s first ((seen.add 6).add 44) with pc := 7 } else { T1 text lim s first ((seen.add 6).add 44) with answer := some false } := rfl
theorem t1_lit (text : Array Nat) (lim s : Nat) (first : Bool) (seen : Sre.Seen) :
    ({ T1 text lim s first seen with pc := 7 } : Sre.M).step = if s ≥ lim then { T1 text lim s first (seen.add 16) with pc := 7, answer := some false } else
      match (text.getD s 0 == 46) with
      | false => { T1 text lim s first (seen.add 16) with pc := 7, answer := some false }
      | true => { T1 text lim s first (seen.add 16) with pc := 9, pos := s + 1 } := by
  by_cases h : s ≥ lim
  · rw [if_pos h]
    show (if s ≥ lim then _ else _) = _
    rw [if_pos h]; rfl
  · rw [if_neg h]
    show (if s ≥ lim then _ else _) = _
    rw [if_neg h]
    cases hc : (text.getD s 0 == 46) with
    | false =>
      show (match (Except.ok (text.getD s 0 == 46, seen.add 16) : Except String (Bool × Sre.Seen)) with | .error why => _ | .ok (false, seen) => _ | .ok (true, seen) => _) = _
      rw [hc]; rfl
    | true =>
      show (match (Except.ok (text.getD s 0 == 46, seen.add 16) : Except String (Bool × Sre.Seen)) with | .error why => _ | .ok (false, seen) => _ | .ok (true, seen) => _) = _
      rw [hc]; rfl
theorem t1_back (text : Array Nat) (lim s : Nat) (first : Bool) (seen : Sre.Seen) (pc : Nat) :
    ({ T1 text lim s first seen with pc := pc, answer := some false } : Sre.M).step = if s < lim then T1 text lim (s + 1) false seen else { T1 text lim s first seen with frames := [], weight := 0, answer := some false } := by
  by_cases h : s < lim
  · rw [if_pos h]
    show (if s < lim then _ else _) = _
    rw [if_pos h]; rfl
  · rw [if_neg h]
    show (if s < lim then _ else _) = _
    rw [if_neg h]; rfl
/-- b is reached from a within k steps -/
def Goes (k : Nat) (a b : Sre.M) : Prop := ∃ n, n ≤ k ∧ a.runFor n = b
theorem Goes.refl (a : Sre.M) : Goes 0 a a := ⟨0, Nat.le_refl _, rfl⟩
theorem Goes.trans {j k : Nat} {a b c : Sre.M} (h : Goes j a b) (g : Goes k b c) : Goes (j + k) a c := by
  obtain ⟨n, hn, e⟩ := h
  obtain ⟨m, hm, e'⟩ := g
  exact ⟨n + m, by omega, by rw [runFor_add, e, e']⟩
theorem Goes.mono {j k : Nat} {a b : Sre.M} (h : Goes j a b) (hk : j ≤ k) : Goes k a b := let ⟨n, hn, e⟩ := h; ⟨n, Nat.le_trans hn hk, e⟩
theorem Goes.one {a b : Sre.M} (ho : a.outcome = none) (e : a.step = b) : Goes 1 a b := ⟨1, Nat.le_refl _, by
  show (if a.outcome.isSome = true then a else a.step) = b
  rw [ho, if_neg (by simp), e]⟩
/-- a match of the first pattern at i -/
def dot (text : Array Nat) (i : Nat) : Bool := (i == 0 || text.getD (i - 1) 0 == 10) && text.getD i 0 == 46
theorem t1_on {text : Array Nat} {lim s : Nat} {first : Bool} {seen : Sre.Seen} (hs : s < lim) (hd : dot text s = false) : ∃ seen', Goes 3 (T1 text lim s first seen) (T1 text lim (s + 1) false seen') := by
  unfold dot at hd
  cases hb : (s == 0 || text.getD (s - 1) 0 == 10) with
  | false =>
    have e1 := t1_at text lim s first seen
    rw [hb, if_neg (by simp)] at e1
    have e2 := t1_back text lim s first ((seen.add 6).add 44) 5
    rw [if_pos hs] at e2
    exact ⟨_, ((Goes.one rfl e1).trans (Goes.one rfl e2)).mono (by decide)⟩
  | true =>
    rw [hb, Bool.true_and] at hd
    have e1 := t1_at text lim s first seen
    rw [hb, if_pos rfl] at e1
    have e2 := t1_lit text lim s first ((seen.add 6).add 44)
    rw [if_neg (by omega), hd] at e2
    have e3 := t1_back text lim s first (((seen.add 6).add 44).add 16) 7
    rw [if_pos hs] at e3
    exact ⟨_, ((Goes.one rfl e1).trans ((Goes.one rfl e2).trans (Goes.one rfl e3))).mono (by decide)⟩
theorem t1_end {text : Array Nat} {lim : Nat} {first : Bool} {seen : Sre.Seen} : ∃ m, Goes 4 (T1 text lim lim first seen) m ∧ m.outcome = some .failed := by
  have fin : ∀ (m : Sre.M), m.outcome = none → m.answer = some false → m.frames = [] → ∃ m', Goes 1 m m' ∧ m'.outcome = some .failed := fun m a b c => ⟨_, ⟨1, Nat.le_refl _, rfl⟩, fails a b c⟩
  cases hb : (lim == 0 || text.getD (lim - 1) 0 == 10) with
  | false =>
    have e1 := t1_at text lim lim first seen
    rw [hb, if_neg (by simp)] at e1
    have e2 := t1_back text lim lim first ((seen.add 6).add 44) 5
    rw [if_neg (by omega)] at e2
    obtain ⟨m', g, o⟩ := fin { T1 text lim lim first ((seen.add 6).add 44) with frames := [], weight := 0, answer := some false } rfl rfl rfl
    exact ⟨m', ((Goes.one rfl e1).trans ((Goes.one rfl e2).trans g)).mono (by decide), o⟩
  | true =>
    have e1 := t1_at text lim lim first seen
    rw [hb, if_pos rfl] at e1
    have e2 := t1_lit text lim lim first ((seen.add 6).add 44)
    rw [if_pos (by omega)] at e2
    have e3 := t1_back text lim lim first (((seen.add 6).add 44).add 16) 7
    rw [if_neg (by omega)] at e3
    obtain ⟨m', g, o⟩ := fin { T1 text lim lim first (((seen.add 6).add 44).add 16) with frames := [], weight := 0, answer := some false } rfl rfl rfl
    exact ⟨m', ((Goes.one rfl e1).trans ((Goes.one rfl e2).trans ((Goes.one rfl e3).trans g))).mono (by decide), o⟩
theorem t1_hit {text : Array Nat} {lim s : Nat} {first : Bool} {seen : Sre.Seen} (hs : s < lim) (hd : dot text s = true) :
    ∃ m, Goes 5 (T1 text lim s first seen) m ∧ m.outcome = some .matched ∧ m.start = s ∧ m.handed = s + 1 := by
  unfold dot at hd
  obtain ⟨hb, hc⟩ := Bool.and_eq_true_iff.mp hd
  have e1 := t1_at text lim s first seen
  rw [hb, if_pos rfl] at e1
  have e2 := t1_lit text lim s first ((seen.add 6).add 44)
  rw [if_neg (by omega), hc] at e2
  have e3 : ({ T1 text lim s first (((seen.add 6).add 44).add 16) with pc := 9, pos := s + 1 } : Sre.M).step = { T1 text lim s first ((((seen.add 6).add 44).add 16).add 1) with pc := 9, pos := s + 1, handed := s + 1, answer := some true } := by
    cases first <;> rfl
  have e4 : ({ T1 text lim s first ((((seen.add 6).add 44).add 16).add 1) with pc := 9, pos := s + 1, handed := s + 1, answer := some true } : Sre.M).step = { T1 text lim s first ((((seen.add 6).add 44).add 16).add 1) with pc := 5, pos := s, handed := s + 1, frames := [], weight := 0, answer := some true } := rfl
  exact ⟨_, ((Goes.one rfl e1).trans ((Goes.one rfl e2).trans ((Goes.one rfl e3).trans ((Goes.one rfl e4).trans (Goes.one rfl rfl))))), rfl, rfl, rfl⟩
theorem t1_run_some {text : Array Nat} {lim q : Nat} (hq : q < lim) (hd : dot text q = true) : ∀ (k p : Nat) (first : Bool) (seen : Sre.Seen), q = p + k → (∀ i, p ≤ i → i < q → dot text i = false) →
    ∃ m, Goes (3 * k + 5) (T1 text lim p first seen) m ∧ m.outcome = some .matched ∧ m.start = q ∧ m.handed = q + 1 := by
  intro k
  induction k with
  | zero => intro p first seen e _; subst e; exact t1_hit hq hd
  | succ k ih =>
    intro p first seen e hn
    obtain ⟨seen', g⟩ := t1_on (first := first) (seen := seen) (show p < lim by omega) (hn p (by omega) (by omega))
    obtain ⟨m, g', r⟩ := ih (p + 1) false seen' (by omega) fun i h1 h2 => hn i (by omega) h2
    exact ⟨m, (g.trans g').mono (by omega), r⟩
theorem t1_run_none {text : Array Nat} {lim : Nat} : ∀ (k p : Nat) (first : Bool) (seen : Sre.Seen), lim = p + k → (∀ i, p ≤ i → i < lim → dot text i = false) →
    ∃ m, Goes (3 * k + 4) (T1 text lim p first seen) m ∧ m.outcome = some .failed := by
  intro k
  induction k with
  | zero => intro p first seen e _; subst e; exact t1_end
  | succ k ih =>
    intro p first seen e hn
    obtain ⟨seen', g⟩ := t1_on (first := first) (seen := seen) (show p < lim by omega) (hn p (by omega) (by omega))
    obtain ⟨m, g', r⟩ := ih (p + 1) false seen' (by omega) fun i h1 h2 => hn i (by omega) h2
    exact ⟨m, (g.trans g').mono (by omega), r⟩
theorem s1_start {text : Array Nat} {lim p : Nat} (hp : p < lim) : Sre.forSearch c1.toArray text 0 p lim false = T1 text lim p true (({} : Sre.Seen).add 14) := by
  have h : (decide (p > lim) || decide (lim - p < 1)) = false := by
    rw [Bool.or_eq_false_iff]; exact ⟨decide_eq_false (by omega), decide_eq_false (by omega)⟩
  show (if (decide (p > lim) || decide (lim - p < 1)) = true then _ else _) = _
  rw [h, if_neg Bool.false_ne_true]
  rfl
/-- what a search gives: the place and the end of what it found -/
def Found (code : List Nat) (text : Array Nat) (lim p : Nat) (r : Option (Nat × Nat)) : Prop :=
  ∃ n, 1 ≤ n ∧ n ≤ 2 ^ 60 ∧ match r with
    | some (q, e) => ((Sre.forSearch code.toArray text 0 p lim false).runFor n).outcome = some .matched ∧ ((Sre.forSearch code.toArray text 0 p lim false).runFor n).start = q ∧ ((Sre.forSearch code.toArray text 0 p lim false).runFor n).handed = e
    | none => ((Sre.forSearch code.toArray text 0 p lim false).runFor n).outcome = some .failed
theorem found1_some {text : Array Nat} {lim p q : Nat} (hl : lim ≤ 2 ^ 24) (hq : q < lim) (hpq : p ≤ q) (hd : dot text q = true) (hn : ∀ i, p ≤ i → i < q → dot text i = false) : Found c1 text lim p (some (q, q + 1)) := by
  obtain ⟨m, ⟨n, hn', e⟩, h1, h2, h3⟩ := t1_run_some hq hd (q - p) p true (({} : Sre.Seen).add 14) (by omega) hn
  have hp0 : n ≠ 0 := by
    intro h
    subst h
    have e' : (T1 text lim p true (({} : Sre.Seen).add 14)) = m := e
    rw [← e'] at h1
    cases h1
  refine ⟨n, by omega, by have : (2 : Nat) ^ 24 * 3 + 5 ≤ 2 ^ 60 := by decide
                          omega, ?_⟩
  dsimp only
  rw [s1_start (by omega), e]
  exact ⟨h1, h2, h3⟩
theorem found1_none {text : Array Nat} {lim p : Nat} (hl : lim ≤ 2 ^ 24) (hpq : p ≤ lim) (hn : ∀ i, p ≤ i → i < lim → dot text i = false) : Found c1 text lim p none := by
  by_cases hp : p < lim
  · obtain ⟨m, ⟨n, hn', e⟩, h1⟩ := t1_run_none (lim - p) p true (({} : Sre.Seen).add 14) (by omega) hn
    have hp0 : n ≠ 0 := by
      intro h
      subst h
      have e' : (T1 text lim p true (({} : Sre.Seen).add 14)) = m := e
      rw [← e'] at h1
      cases h1
    refine ⟨n, by omega, by have : (2 : Nat) ^ 24 * 3 + 5 ≤ 2 ^ 60 := by decide
                            omega, ?_⟩
    dsimp only
    rw [s1_start (by omega), e]
    exact h1
  · have h : (decide (p > lim) || decide (lim - p < 1)) = true := by
      rw [Bool.or_eq_true_iff]; exact Or.inr (decide_eq_true (by omega))
    refine ⟨1, Nat.le_refl _, by decide, ?_⟩
    dsimp only
    refine fails ?_ ?_ ?_
    · show (if (decide (p > lim) || decide (lim - p < 1)) = true then _ else _ : Sre.M).outcome = _
      rw [h, if_pos rfl]; rfl
    · show (if (decide (p > lim) || decide (lim - p < 1)) = true then _ else _ : Sre.M).answer = _
      rw [h, if_pos rfl]; rfl
    · show (if (decide (p > lim) || decide (lim - p < 1)) = true then _ else _ : Sre.M).frames = _
      rw [h, if_pos rfl]; rfl
end Re
end PartRegex3
section PartRegex4
namespace Re
open PySem.Builtin PySem.Builtin.Re
/-- the second pattern's code -/
def c2 : List Nat := [14, 9, 4, 1, 2, 16, 10, 16, 13, 0, 7, 7, 16, 13, 16, 10, 15, 18, 5, 16, 10, 15, 13, 11, 16, 13, 5, 5, 0, 16, 10, 1, 15, 2, 0, 1]
/-- a trial of the second pattern at s, at the place pc of the code and pos of the text -/
def T2 (text : Array Nat) (lim s : Nat) (first : Bool) (seen : Sre.Seen) (pc pos : Nat) (alt : Nat) : Sre.M :=
  { code := c2.toArray, text, lim, start := s, lastStart := lim, wholeText := false, mustAdvance := false, pc, pos, handed := s, outermost := first, marks := #[], lastmark := -1, lastindex := -1, loops := #[], inner := none,
    frames := [{ wait := .nextBranch, pc := alt, pos := s, outermost := first }, { wait := .nextStart, pc := 10, pos := s, outermost := first }], weight := 2, answer := none, seen, outcome := none }
def S2 (text : Array Nat) (lim s : Nat) (first : Bool) (seen : Sre.Seen) : Sre.M :=
  { code := c2.toArray, text, lim, start := s, lastStart := lim, wholeText := false, mustAdvance := false, pc := 10, pos := s, handed := s, outermost := first, marks := #[], lastmark := -1, lastindex := -1, loops := #[], inner := none,
    frames := [{ wait := .nextStart, pc := 10, pos := s, outermost := first }], weight := 1, answer := none, seen, outcome := none }
/-- beneath the assertion -/
def L2 (text : Array Nat) (lim s : Nat) (first : Bool) (seen : Sre.Seen) (pos : Nat) : Sre.M :=
  { code := c2.toArray, text, lim, start := s, lastStart := lim, wholeText := false, mustAdvance := false, pc := 29, pos, handed := pos, outermost := false, marks := #[], lastmark := -1, lastindex := -1, loops := #[], inner := none,
    frames := [{ wait := .lookNot, pc := 26, pos := pos, outermost := first }, { wait := .nextBranch, pc := 23, pos := s, outermost := first }, { wait := .nextStart, pc := 10, pos := s, outermost := first }], weight := 3, answer := none, seen, outcome := none }
section
variable (text : Array Nat) (lim s : Nat) (first : Bool) (seen : Sre.Seen)
theorem s2_branch : (S2 text lim s first seen).step = T2 text lim s first (seen.add 7) 12 s 11 := rfl
/-- a literal at pc: it stands there, or not -/
theorem t2_lit_ok (pc pos alt : Nat) (w : Nat) (h1 : c2.toArray.getD pc 0 = 16) (h2 : c2.toArray.getD (pc + 1) 0 = w) (h3 : pc < c2.toArray.size) (hp : pos < lim) (hc : (text.getD pos 0 == w) = true) :
    (T2 text lim s first seen pc pos alt).step = T2 text lim s first (seen.add 16) (pc + 2) (pos + 1) alt := by
  subst h2
  have e0 : (T2 text lim s first seen pc pos alt).step = (T2 text lim s first seen pc pos alt).exec := by
    show (if pc < c2.toArray.size then _ else _) = _
    rw [if_pos h3]
  have e1 : Sre.ops[c2.toArray.getD (pc + 0) 0]? = some .LITERAL := by rw [Nat.add_zero, h1]; rfl
  rw [e0]
  unfold Sre.M.exec
  show (match Sre.ops[c2.toArray.getD (pc + 0) 0]? with | none => _ | some op => _) = _
  rw [e1]
  show (if pos ≥ lim then _ else (match Sre.accepts c2.toArray pc (text.getD pos 0) (seen.add (c2.toArray.getD (pc + 0) 0)) with | .error why => _ | .ok (false, seen) => _ | .ok (true, seen) => _)) = _
  rw [if_neg (by omega)]
  have e2 : Sre.accepts c2.toArray pc (text.getD pos 0) (seen.add (c2.toArray.getD (pc + 0) 0)) = .ok (true, seen.add 16) := by
    unfold Sre.accepts
    dsimp only
    rw [h1, Nat.add_zero, h1]
    show Except.ok (text.getD pos 0 == _, _) = _
    rw [hc]
  rw [e2]
  have e3 : Sre.itemWidth c2.toArray pc = 2 := by
    unfold Sre.itemWidth
    rw [h1]; rfl
  show ({ T2 text lim s first _ pc pos alt with seen := _, pc := pc + Sre.itemWidth c2.toArray pc, pos := pos + 1 } : Sre.M) = _
  rw [e3]
  rfl
theorem t2_lit_no (pc pos alt : Nat) (w : Nat) (h1 : c2.toArray.getD pc 0 = 16) (h2 : c2.toArray.getD (pc + 1) 0 = w) (h3 : pc < c2.toArray.size) (hc : pos ≥ lim ∨ (text.getD pos 0 == w) = false) :
    (T2 text lim s first seen pc pos alt).step = { T2 text lim s first (seen.add 16) pc pos alt with answer := some false } := by
  subst h2
  have e0 : (T2 text lim s first seen pc pos alt).step = (T2 text lim s first seen pc pos alt).exec := by
    show (if pc < c2.toArray.size then _ else _) = _
    rw [if_pos h3]
  have e1 : Sre.ops[c2.toArray.getD (pc + 0) 0]? = some .LITERAL := by rw [Nat.add_zero, h1]; rfl
  have e4 : seen.add (c2.toArray.getD (pc + 0) 0) = seen.add 16 := by rw [Nat.add_zero, h1]
  rw [e0]
  unfold Sre.M.exec
  show (match Sre.ops[c2.toArray.getD (pc + 0) 0]? with | none => _ | some op => _) = _
  rw [e1]
  show (if pos ≥ lim then _ else (match Sre.accepts c2.toArray pc (text.getD pos 0) (seen.add (c2.toArray.getD (pc + 0) 0)) with | .error why => _ | .ok (false, seen) => _ | .ok (true, seen) => _)) = _
  by_cases hp : pos ≥ lim
  · rw [if_pos hp]
    show ({ T2 text lim s first (seen.add (c2.toArray.getD (pc + 0) 0)) pc pos alt with answer := some false } : Sre.M) = _
    rw [e4]
  · rw [if_neg hp]
    have hc' := hc.resolve_left hp
    have e2 : Sre.accepts c2.toArray pc (text.getD pos 0) (seen.add (c2.toArray.getD (pc + 0) 0)) = .ok (false, seen.add 16) := by
      unfold Sre.accepts
      dsimp only
      rw [h1, Nat.add_zero, h1]
      show Except.ok (text.getD pos 0 == _, _) = _
      rw [hc']
    rw [e2]
    rfl
theorem t2_back1 (pc pos : Nat) : ({ T2 text lim s first seen pc pos 11 with answer := some false } : Sre.M).step = T2 text lim s first seen 19 s 18 := rfl
theorem t2_back2 (pc pos : Nat) : ({ T2 text lim s first seen pc pos 18 with answer := some false } : Sre.M).step = T2 text lim s first seen 24 s 23 := rfl
theorem t2_jump1 (pos alt : Nat) : (T2 text lim s first seen 16 pos alt).step = T2 text lim s first (seen.add 15) 35 pos alt := rfl
theorem t2_jump2 (pos alt : Nat) : (T2 text lim s first seen 21 pos alt).step = T2 text lim s first (seen.add 15) 35 pos alt := rfl
theorem t2_jump3 (pos alt : Nat) : (T2 text lim s first seen 32 pos alt).step = T2 text lim s first (seen.add 15) 35 pos alt := rfl
theorem t2_not (pos : Nat) : (T2 text lim s first seen 26 pos 23).step = L2 text lim s first (seen.add 5) pos := rfl
/-- the way out, once the code's end is reached -/
theorem t2_done (pos alt : Nat) : ∃ m, Goes 4 (T2 text lim s first seen 35 pos alt) m ∧ m.outcome = some .matched ∧ m.start = s ∧ m.handed = pos := by
  have e1 : (T2 text lim s first seen 35 pos alt).step = { T2 text lim s first (seen.add 1) 35 pos alt with handed := pos, answer := some true } := by cases first <;> rfl
  have e2 : ({ T2 text lim s first (seen.add 1) 35 pos alt with handed := pos, answer := some true } : Sre.M).step = { S2 text lim s first (seen.add 1) with pc := alt, handed := pos, answer := some true } := rfl
  have e3 : ({ S2 text lim s first (seen.add 1) with pc := alt, handed := pos, answer := some true } : Sre.M).step = { S2 text lim s first (seen.add 1) with pc := 10, handed := pos, frames := [], weight := 0, answer := some true } := rfl
  exact ⟨_, ((Goes.one rfl e1).trans ((Goes.one rfl e2).trans ((Goes.one rfl e3).trans (Goes.one rfl rfl)))), rfl, rfl, rfl⟩
theorem l2_no (pos : Nat) (hc : pos ≥ lim ∨ (text.getD pos 0 == 10) = false) : (L2 text lim s first seen pos).step = { L2 text lim s first (seen.add 16) pos with answer := some false } := by
  show (if pos ≥ lim then _ else (match Sre.accepts c2.toArray 29 (text.getD pos 0) (seen.add 16) with | .error why => _ | .ok (false, seen) => _ | .ok (true, seen) => _)) = _
  by_cases hp : pos ≥ lim
  · rw [if_pos hp]; rfl
  · rw [if_neg hp]
    have hc' := hc.resolve_left hp
    have e2 : Sre.accepts c2.toArray 29 (text.getD pos 0) (seen.add 16) = .ok (false, seen.add 16) := by
      show Except.ok (text.getD pos 0 == 10, seen.add 16) = _
      rw [hc']
    rw [e2]; rfl
theorem l2_back (pos : Nat) : ({ L2 text lim s first seen pos with answer := some false } : Sre.M).step = { T2 text lim s first seen 32 pos 23 with handed := pos } := rfl
theorem t2_jump3' (pos : Nat) : ({ T2 text lim s first seen 32 pos 23 with handed := pos } : Sre.M).step = { T2 text lim s first (seen.add 15) 35 pos 23 with handed := pos } := rfl
theorem t2_done' (pos : Nat) : ∃ m, Goes 4 ({ T2 text lim s first seen 35 pos 23 with handed := pos } : Sre.M) m ∧ m.outcome = some .matched ∧ m.start = s ∧ m.handed = pos := by
  have e1 : ({ T2 text lim s first seen 35 pos 23 with handed := pos } : Sre.M).step = { T2 text lim s first (seen.add 1) 35 pos 23 with handed := pos, answer := some true } := by cases first <;> rfl
  have e2 : ({ T2 text lim s first (seen.add 1) 35 pos 23 with handed := pos, answer := some true } : Sre.M).step = { S2 text lim s first (seen.add 1) with pc := 23, handed := pos, answer := some true } := rfl
  have e3 : ({ S2 text lim s first (seen.add 1) with pc := 23, handed := pos, answer := some true } : Sre.M).step = { S2 text lim s first (seen.add 1) with pc := 10, handed := pos, frames := [], weight := 0, answer := some true } := rfl
  exact ⟨_, ((Goes.one rfl e1).trans ((Goes.one rfl e2).trans ((Goes.one rfl e3).trans (Goes.one rfl rfl)))), rfl, rfl, rfl⟩
end
section
variable {text : Array Nat} {lim s : Nat} {first : Bool} {seen : Sre.Seen}
theorem s2_crlf (h1 : s + 1 < lim) (hc : text.getD s 0 = 13) (hd : text.getD (s + 1) 0 = 10) : ∃ m, Goes 20 (S2 text lim s first seen) m ∧ m.outcome = some .matched ∧ m.start = s ∧ m.handed = s + 2 := by
  have e2 := t2_lit_ok text lim s first (seen.add 7) 12 s 11 13 rfl rfl (by decide) (by omega) (by rw [hc]; rfl)
  have e3 := t2_lit_ok text lim s first ((seen.add 7).add 16) 14 (s + 1) 11 10 rfl rfl (by decide) (by omega) (by rw [hd]; rfl)
  obtain ⟨m, g, r⟩ := t2_done text lim s first ((((seen.add 7).add 16).add 16).add 15) (s + 1 + 1) 11
  exact ⟨m, ((Goes.one rfl (s2_branch text lim s first seen)).trans ((Goes.one rfl e2).trans ((Goes.one rfl e3).trans ((Goes.one rfl (t2_jump1 _ _ _ _ _ _ _)).trans g)))).mono (by decide), r⟩
theorem s2_lf (h1 : s < lim) (hc : text.getD s 0 = 10) : ∃ m, Goes 20 (S2 text lim s first seen) m ∧ m.outcome = some .matched ∧ m.start = s ∧ m.handed = s + 1 := by
  have e2 := t2_lit_no text lim s first (seen.add 7) 12 s 11 13 rfl rfl (by decide) (Or.inr (by rw [hc]; rfl))
  have e3 := t2_lit_ok text lim s first ((seen.add 7).add 16) 19 s 18 10 rfl rfl (by decide) h1 (by rw [hc]; rfl)
  obtain ⟨m, g, r⟩ := t2_done text lim s first ((((seen.add 7).add 16).add 16).add 15) (s + 1) 18
  exact ⟨m, ((Goes.one rfl (s2_branch text lim s first seen)).trans ((Goes.one rfl e2).trans ((Goes.one rfl (t2_back1 _ _ _ _ _ _ _)).trans ((Goes.one rfl e3).trans ((Goes.one rfl (t2_jump2 _ _ _ _ _ _ _)).trans g))))).mono (by decide), r⟩
theorem s2_cr (h1 : s < lim) (hc : text.getD s 0 = 13) (hd : s + 1 ≥ lim ∨ (text.getD (s + 1) 0 == 10) = false) : ∃ m, Goes 20 (S2 text lim s first seen) m ∧ m.outcome = some .matched ∧ m.start = s ∧ m.handed = s + 1 := by
  have e2 := t2_lit_ok text lim s first (seen.add 7) 12 s 11 13 rfl rfl (by decide) h1 (by rw [hc]; rfl)
  have e3 := t2_lit_no text lim s first ((seen.add 7).add 16) 14 (s + 1) 11 10 rfl rfl (by decide) hd
  have e4 := t2_lit_no text lim s first (((seen.add 7).add 16).add 16) 19 s 18 10 rfl rfl (by decide) (Or.inr (by rw [hc]; rfl))
  have e5 := t2_lit_ok text lim s first ((((seen.add 7).add 16).add 16).add 16) 24 s 23 13 rfl rfl (by decide) h1 (by rw [hc]; rfl)
  have e6 := l2_no text lim s first ((((((seen.add 7).add 16).add 16).add 16).add 16).add 5) (s + 1) hd
  obtain ⟨m, g, r⟩ := t2_done' text lim s first ((((((((seen.add 7).add 16).add 16).add 16).add 16).add 5).add 16).add 15) (s + 1)
  exact ⟨m, ((Goes.one rfl (s2_branch text lim s first seen)).trans ((Goes.one rfl e2).trans ((Goes.one rfl e3).trans ((Goes.one rfl (t2_back1 _ _ _ _ _ _ _)).trans ((Goes.one rfl e4).trans ((Goes.one rfl (t2_back2 _ _ _ _ _ _ _)).trans ((Goes.one rfl e5).trans ((Goes.one rfl (t2_not _ _ _ _ _ _)).trans
    ((Goes.one rfl e6).trans ((Goes.one rfl (l2_back _ _ _ _ _ _)).trans ((Goes.one rfl (t2_jump3' _ _ _ _ _ _)).trans g))))))))))).mono (by decide), r⟩
end
/-- a sign that the second pattern passes over -/
def body2 (c : Nat) : Bool := c != 10 && c != 13
theorem set2_no {c : Nat} (h : body2 c = true) (seen : Sre.Seen) : ∃ seen', Sre.inSet c2.toArray c c2.toArray.size 5 true seen = .ok (false, seen') := by
  unfold body2 at h
  obtain ⟨h1, h2⟩ := Bool.and_eq_true_iff.mp h
  have a1 : (c == 10) = false := by simpa using h1
  have a2 : (c == 13) = false := by simpa using h2
  refine ⟨((seen.add 16).add 16).add 0, ?_⟩
  show (if (c == 10) = true then Except.ok (true, seen.add 16) else if (c == 13) = true then Except.ok (true, (seen.add 16).add 16) else Except.ok (!true, ((seen.add 16).add 16).add 0)) = _
  rw [a1, a2, if_neg Bool.false_ne_true, if_neg Bool.false_ne_true]
  rfl
theorem set2_yes {c : Nat} (h : body2 c = false) (seen : Sre.Seen) : ∃ seen', Sre.inSet c2.toArray c c2.toArray.size 5 true seen = .ok (true, seen') := by
  unfold body2 at h
  by_cases h1 : c = 10
  · subst h1; exact ⟨_, rfl⟩
  · by_cases h2 : c = 13
    · subst h2; exact ⟨_, rfl⟩
    · simp [h1, h2] at h
theorem admitted2 {m : Sre.M} (hc : m.code = c2.toArray) {q : Nat} (hq : q < m.lim) (hy : body2 (m.text.getD q 0) = false) : ∀ (k fuel p : Nat) (seen : Sre.Seen), q = p + k → k < fuel → (∀ i, p ≤ i → i < q → body2 (m.text.getD i 0) = true) →
    ∃ seen', Sre.M.admitted m fuel p seen = .ok (some q, seen') := by
  intro k
  induction k with
  | zero =>
    intro fuel p seen e hf hn
    subst e
    cases fuel with
    | zero => omega
    | succ fuel =>
      unfold Sre.M.admitted
      rw [if_neg (by omega), hc]
      obtain ⟨seen', e⟩ := set2_yes hy seen
      rw [e]
      exact ⟨seen', rfl⟩
  | succ k ih =>
    intro fuel p seen e hf hn
    cases fuel with
    | zero => omega
    | succ fuel =>
      unfold Sre.M.admitted
      rw [if_neg (by omega), hc]
      obtain ⟨seen', e'⟩ := set2_no (hn p (by omega) (by omega)) seen
      rw [e']
      exact ih fuel (p + 1) seen' (by omega) (by omega) fun i h1 h2 => hn i (by omega) h2
theorem s2_start {text : Array Nat} {lim p q : Nat} (hq : q < lim) (hpq : p ≤ q) (hy : body2 (text.getD q 0) = false) (hn : ∀ i, p ≤ i → i < q → body2 (text.getD i 0) = true) :
    ∃ seen, Sre.forSearch c2.toArray text 0 p lim false = S2 text lim q true seen := by
  have h : (decide (p > lim) || decide (lim - p < 1)) = false := by
    rw [Bool.or_eq_false_iff]; exact ⟨decide_eq_false (by omega), decide_eq_false (by omega)⟩
  have key : ∀ m : Sre.M, m.code = c2.toArray → m.text = text → m.lim = lim → ∃ seen', Sre.M.admitted m (m.lim + 1 - p) p m.seen = .ok (some q, seen') := by
    intro m h1 h2 h3
    subst h2 h3
    exact admitted2 h1 hq hy (q - p) _ p _ (by omega) (by omega) hn
  obtain ⟨seen', e⟩ := key { code := c2.toArray, text, lim, start := p, pc := 10, pos := p, handed := p, marks := #[], mustAdvance := false, seen := ({} : Sre.Seen).add 14, lastStart := lim } rfl rfl rfl
  refine ⟨seen', ?_⟩
  show (if (decide (p > lim) || decide (lim - p < 1)) = true then _ else (match Sre.M.admitted { code := c2.toArray, text, lim, start := p, pc := 10, pos := p, handed := p, marks := #[], mustAdvance := false, seen := ({} : Sre.Seen).add 14, lastStart := lim } (lim + 1 - p) p (({} : Sre.Seen).add 14) with
    | .ok (some s, seen) => _ | .ok (none, seen) => _ | .error why => _) : Sre.M) = _
  rw [h, if_neg Bool.false_ne_true, e]
  rfl
theorem found2_of {text : Array Nat} {lim p q e : Nat} {seen : Sre.Seen} (es : Sre.forSearch c2.toArray text 0 p lim false = S2 text lim q true seen) (h : ∃ m, Goes 20 (S2 text lim q true seen) m ∧ m.outcome = some .matched ∧ m.start = q ∧ m.handed = e) : Found c2 text lim p (some (q, e)) := by
  obtain ⟨m, ⟨n, hn, e'⟩, h1, h2, h3⟩ := h
  have hp0 : n ≠ 0 := by
    intro h
    subst h
    have e'' : S2 text lim q true seen = m := e'
    rw [← e''] at h1
    cases h1
  refine ⟨n, by omega, by have : (20 : Nat) ≤ 2 ^ 60 := by decide
                          omega, ?_⟩
  dsimp only
  rw [es, e']
  exact ⟨h1, h2, h3⟩
theorem found2_crlf {text : Array Nat} {lim p q : Nat} (hq : q + 1 < lim) (hpq : p ≤ q) (hc : text.getD q 0 = 13) (hd : text.getD (q + 1) 0 = 10) (hn : ∀ i, p ≤ i → i < q → body2 (text.getD i 0) = true) : Found c2 text lim p (some (q, q + 2)) := by
  obtain ⟨seen, es⟩ := s2_start (show q < lim by omega) hpq (by rw [hc]; rfl) hn
  exact found2_of es (s2_crlf hq hc hd)
theorem found2_lf {text : Array Nat} {lim p q : Nat} (hq : q < lim) (hpq : p ≤ q) (hc : text.getD q 0 = 10) (hn : ∀ i, p ≤ i → i < q → body2 (text.getD i 0) = true) : Found c2 text lim p (some (q, q + 1)) := by
  obtain ⟨seen, es⟩ := s2_start hq hpq (by rw [hc]; rfl) hn
  exact found2_of es (s2_lf hq hc)
theorem found2_cr {text : Array Nat} {lim p q : Nat} (hq : q < lim) (hpq : p ≤ q) (hc : text.getD q 0 = 13) (hd : q + 1 ≥ lim ∨ (text.getD (q + 1) 0 == 10) = false) (hn : ∀ i, p ≤ i → i < q → body2 (text.getD i 0) = true) : Found c2 text lim p (some (q, q + 1)) := by
  obtain ⟨seen, es⟩ := s2_start hq hpq (by rw [hc]; rfl) hn
  exact found2_of es (s2_cr hq hc hd)
/-- nothing is left behind the last line's end -/
theorem found2_none {text : Array Nat} {lim : Nat} : Found c2 text lim lim none := by
  have h : (decide (lim > lim) || decide (lim - lim < 1)) = true := by
    rw [Bool.or_eq_true_iff]; exact Or.inr (decide_eq_true (by omega))
  refine ⟨1, Nat.le_refl _, by decide, ?_⟩
  dsimp only
  refine fails ?_ ?_ ?_
  · show (if (decide (lim > lim) || decide (lim - lim < 1)) = true then _ else _ : Sre.M).outcome = _
    rw [h, if_pos rfl]; rfl
  · show (if (decide (lim > lim) || decide (lim - lim < 1)) = true then _ else _ : Sre.M).answer = _
    rw [h, if_pos rfl]; rfl
  · show (if (decide (lim > lim) || decide (lim - lim < 1)) = true then _ else _ : Sre.M).frames = _
    rw [h, if_pos rfl]; rfl
end Re
end PartRegex4
section PartRegex5
namespace Re
open PySem.Builtin PySem.Builtin.Re
/-- the finds from p on, to the last -/
def Chain (code : List Nat) (text : Array Nat) : Nat → List (Nat × Nat) → Prop
  | p, [] => p ≤ text.size ∧ Found code text text.size p none
  | p, (q, e) :: r => p ≤ q ∧ q < e ∧ e ≤ text.size ∧ Found code text text.size p (some (q, e)) ∧ Chain code text e r
/-- what a sub puts together -/
def parts (text : Array Nat) (repl : Str) : Nat → List (Nat × Nat) → List Str
  | p, [] => if p < text.size then [⟨text.extract p text.size⟩] else []
  | p, (q, e) :: r => (if p < q then [⟨text.extract p q⟩] else []) ++ repl :: parts text repl e r
section
variable {prog : Program} {w : World} {A : Around} {E : Value → Shared → Prop} {s : Shared}
theorem found_run {code : List Nat} {text : Array Nat} {p : Nat} {r : Option (Nat × Nat)} {Q : Option Sre.M → Shared → Prop} (t : ReTarget) (hc : t.code = code.toArray) (ht : t.text = text) (hl : t.lim = text.size) (hg : t.groups = 0)
    (h : Found code text text.size p r) (hq : match r with | some (q, e) => ∀ m : Sre.M, m.start = q → m.handed = e → Q (some m) s | none => Q none s) : wpAny (model prog w) A (reNextFound t p false) Q E s := by
  obtain ⟨n, h1, h2, h3⟩ := h
  unfold reNextFound
  rw [hc, ht, hl, hg]
  cases r with
  | none => exact toEnd n h1 h2 (Or.inr ⟨h3, hq⟩)
  | some qe =>
    obtain ⟨q, e⟩ := qe
    exact toEnd n h1 h2 (Or.inl ⟨h3.1, hq _ h3.2.1 h3.2.2⟩)
theorem whole {a c : Addr} {code : List Nat} {v : Str} {t : Tok} {Q : ReTarget → Shared → Prop} (P : PatAt s.heap a c code)
    (h : Q { pattern := .ref a, string := .str v t, code := code.toArray, text := v.cps, kind := 0, groups := 0, pos := 0, lim := v.cps.size } s) : wpAny (model prog w) A (reWholeTarget (.ref a) (.str v t)) Q E s := by
  obtain ⟨p, fl, sl, e⟩ := P.pat
  unfold reWholeTarget
  refine wpAny_bind (wpAny_fieldsOf e rfl ?_)
  show wpAny _ _ (reRawItems (.ref c) >>= _) _ _ _
  refine wpAny_bind (rawItems P ?_)
  rw [toNats]
  exact wpAny_pure h
theorem ext_size (text : Array Nat) (p q : Nat) : (text.extract p q).size ≤ text.size := by
  rw [Array.size_extract]; omega
/-- a part is put behind -/
theorem push_part {D : Addr} {l : List (Str × Tok)} {nn : Nat} {x : Value} {Q : Unit → Shared → Prop} (ho : s.heap.get? D = some (listOf (strValues l).toArray nn)) (hz : l.length ≤ 2 ^ 21)
    (h : ∀ h', (∀ b o, b ≠ D → s.heap.get? b = some o → h'.get? b = some o) → h'.get? D = some (listOf ((strValues l) ++ [x]).toArray (nn + 1)) → Q () { s with heap := h' }) : wpAny (model prog w) A (updateSeq D (·.push x)) Q E s := by
  have hsz : (strValues l).toArray.size = l.length := by simp [strValues]
  have hline : (2 : Nat) ^ 21 + 1 ≤ sizeLine := by decide
  refine wpAny_updateSeq ho rfl (h _ (fun b o hb e => (Heap.get?_update_ne _ _ _ _ hb).trans e) ?_) (by rw [hsz]; omega) (by rw [Array.size_push, hsz]; omega)
  rw [Heap.get?_update_self _ ho (by simp [Obj.mapSeq, Obj.isFreed])]
  simp [Obj.mapSeq]
theorem slice {t : ReTarget} {v : Str} (ht : t.text = v.cps) (hk : t.kind = 0) {p q : Nat} (hv : v.length ≤ 2 ^ 20) {Q : Value → Shared → Prop} (h : Q (.str ⟨v.cps.extract p q⟩ s.toks) { s with toks := s.toks + 1 }) : wpAny (model prog w) A (reSlice t.text t.kind p q) Q E s := by
  unfold reSlice
  rw [ht, hk]
  refine wpAny_mkStr h ?_
  have h1 := ext_size v.cps p q
  have h2 : v.cps.size ≤ 2 ^ 20 := hv
  have h3 : (2 : Nat) ^ 20 ≤ sizeLine := by decide
  show (v.cps.extract p q).size ≤ sizeLine
  omega
theorem strValues_snoc (l : List (Str × Tok)) (x : Str) (t : Tok) : strValues l ++ [.str x t] = strValues (l ++ [(x, t)]) := by simp [strValues]
theorem plain_loop : plainId "re.Pattern.sub.loop" = true := by decide +kernel
theorem quiet_loop (args : Args) : (Code.builtin "re.Pattern.sub.loop" args).quiet = true := plainId_quiet plain_loop args
theorem den_of {id : String} {b : Builtin} (hb : entryFor table id = some b) (args : Args) : (model prog w).den (.builtin id args) = b args := by
  show (match entryFor table id with | some b => b args | none => unsupported ((withoutEnding? id "#data").getD id)) = _
  rw [hb]
theorem den_loop (args : Args) : (model prog w).den (.builtin "re.Pattern.sub.loop" args) = Builtin.«re.Pattern.sub.loop» args := den_of entry_loop args
theorem texts_snoc (l : List (Str × Tok)) (x : Str) (t : Tok) : (l ++ [(x, t)]).map (·.1) = l.map (·.1) ++ [x] := by simp
theorem loop_eq (a D : Addr) (v repl : Str) (t tr : Tok) (n : Int) (p : Nat) : Builtin.«re.Pattern.sub.loop» ⟨[.ref a, .str v t, .str repl tr, rawInt 0, rawInt 0, rawInt n, rawInt p, rawInt p, .bool false, .ref D, .bool false], []⟩ =
  (do
    let t' ← reWholeTarget (.ref a) (.str v t)
    match ← reNextFound t' p false with
    | some m =>
      if p < m.start then updateSeq D (·.push (← reSlice t'.text t'.kind p m.start))
      updateSeq D (·.push (.str repl tr))
      again (.builtin "re.Pattern.sub.loop" ⟨[.ref a, .str v t, .str repl tr, rawInt 0, rawInt 0, rawInt (n + 1), rawInt m.handed, rawInt m.handed, .bool (m.handed == m.start), .ref D, .bool false], []⟩)
    | none =>
      if p < t'.lim then updateSeq D (·.push (← reSlice t'.text t'.kind p t'.lim))
      let joiner ← reSlice t'.text t'.kind 0 0
      let text ← if ((← seqItems? (.ref D)).getD #[]).isEmpty then pure joiner
        else call (.builtin (if t'.kind == 0 then "str.join" else "bytes.join")) [joiner, .ref D]
      ret text) := by
  unfold Builtin.«re.Pattern.sub.loop»
  dsimp only [rawInt]
  rfl
theorem sub_loop {R : Result → Shared → Prop} {a c : Addr} {code : List Nat} {v repl : Str} {t tr : Tok} (hv : v.length ≤ 2 ^ 20) : ∀ (ms : List (Nat × Nat)) (p : Nat) (l : List (Str × Tok)) (D : Addr) (nn : Nat) (n : Int) (s : Shared),
    Chain code v.cps p ms → PatAt s.heap a c code → a ≠ D → c ≠ D → s.heap.get? D = some (listOf (strValues l).toArray nn) → l.length + 2 * ms.length + 1 ≤ 2 ^ 20 →
    JoinOk ⟨#[]⟩ (l.map (·.1) ++ parts v.cps repl p ms) = true →
    (∀ h' tk tk', (∀ b o, b ≠ D → s.heap.get? b = some o → h'.get? b = some o) → R (.ok (.ret (.str (Txt.join ⟨#[]⟩ (l.map (·.1) ++ parts v.cps repl p ms)) tk))) { s with heap := h', toks := tk' }) →
    codeAny (model prog w) A (.builtin "re.Pattern.sub.loop" ⟨[.ref a, .str v t, .str repl tr, rawInt 0, rawInt 0, rawInt n, rawInt p, rawInt p, .bool false, .ref D, .bool false], []⟩) R s := by
  intro ms
  induction ms with
  | nil =>
    intro p l D nn n s hC P haD hcD ho hz hok hR
    refine codeAny_of_tree ?_
    rw [den_loop, loop_eq]
    refine wpAny_bind (whole P ?_)
    dsimp only
    refine wpAny_bind (found_run _ rfl rfl rfl rfl hC.2 ?_)
    dsimp only
    have ej : (if ((0 : Nat) == 0) = true then "str.join" else "bytes.join") = "str.join" := if_pos rfl
    rw [ej]
    have hp : p ≤ v.cps.size := hC.1
    -- what is put behind, if anything
    have rest : ∀ (l' : List (Str × Tok)) (s' : Shared) (nn' : Nat), s'.heap.get? D = some (listOf (strValues l').toArray nn') → JoinOk ⟨#[]⟩ (l'.map (·.1)) = true →
        (∀ tk tk', R (.ok (.ret (.str (Txt.join ⟨#[]⟩ (l'.map (·.1))) tk))) { s' with toks := tk' }) →
        wpAny (model prog w) (A.under (.builtin "re.Pattern.sub.loop" ⟨[.ref a, .str v t, .str repl tr, rawInt 0, rawInt 0, rawInt n, rawInt p, rawInt p, .bool false, .ref D, .bool false], []⟩))
          (do let joiner ← reSlice v.cps 0 0 0
              let text ← if ((← seqItems? (.ref D)).getD #[]).isEmpty then pure joiner else call (.builtin "str.join") [joiner, .ref D]
              ret text)
          (fun fin s' => match fin with | .done f => R (.ok f) s' | .again c' => c'.quiet = true ∧ codeAny (model prog w) A c' R s') (fun e s' => R (.error e) s') s' := by
      intro l' s' nn' ho' hok' hR'
      refine wpAny_bind (slice (t := { pattern := .ref a, string := .str v t, code := code.toArray, text := v.cps, kind := 0, groups := 0, pos := 0, lim := v.cps.size }) rfl rfl hv ?_)
      have e0 : v.cps.extract 0 0 = #[] := by simp
      rw [e0]
      refine wpAny_bind (wpAny_seqItems ho' rfl ?_)
      by_cases hl : l' = []
      · subst hl
        exact wpAny_bind (wpAny_pure (wpAny_pure (hR' _ _)))
      · have hne : (((some (strValues l').toArray).getD #[]).isEmpty) = false := by
          cases l' with
          | nil => exact absurd rfl hl
          | cons x r => simp [strValues]
        rw [hne, if_neg Bool.false_ne_true]
        refine wpAny_bind ?_
        exact SC.join (l := l') (texts := l'.map (·.1)) ⟨_, ho', rfl, _, rfl⟩ rfl hok' fun t' k => wpAny_pure (hR' _ _)
    by_cases hlt : p < v.cps.size
    · have hparts : parts v.cps repl p [] = [⟨v.cps.extract p v.cps.size⟩] := by unfold parts; rw [if_pos hlt]
      rw [hparts] at hok hR
      show wpAny _ _ (do
        if p < v.cps.size then updateSeq D (·.push (← reSlice v.cps 0 p v.cps.size))
        let joiner ← reSlice v.cps 0 0 0
        let text ← if ((← seqItems? (.ref D)).getD #[]).isEmpty then pure joiner else call (.builtin "str.join") [joiner, .ref D]
        ret text) _ _ _
      rw [if_pos hlt]
      refine wpAny_bind (slice (t := { pattern := .ref a, string := .str v t, code := code.toArray, text := v.cps, kind := 0, groups := 0, pos := 0, lim := v.cps.size }) rfl rfl hv ?_)
      refine wpAny_bind (push_part ho (by omega) fun h' hk ho' => ?_)
      rw [strValues_snoc] at ho'
      refine rest _ { s with heap := h', toks := s.toks + 1 } _ ho' (by rw [texts_snoc]; exact hok) fun tk tk' => ?_
      have := hR h' tk tk' hk
      rw [texts_snoc]; exact this
    · have hparts : parts v.cps repl p [] = [] := by unfold parts; rw [if_neg hlt]
      rw [hparts, List.append_nil] at hok hR
      show wpAny _ _ (do
        if p < v.cps.size then updateSeq D (·.push (← reSlice v.cps 0 p v.cps.size))
        let joiner ← reSlice v.cps 0 0 0
        let text ← if ((← seqItems? (.ref D)).getD #[]).isEmpty then pure joiner else call (.builtin "str.join") [joiner, .ref D]
        ret text) _ _ _
      rw [if_neg hlt]
      exact rest l s _ ho hok fun tk tk' => hR s.heap tk tk' fun _ _ _ e => e
  | cons m ms ih =>
    obtain ⟨q, e⟩ := m
    intro p l D nn n s hC P haD hcD ho hz hok hR
    obtain ⟨hpq, hqe, hel, hF, hC'⟩ := hC
    have hz' : l.length + 2 * (ms.length + 1) + 1 ≤ 2 ^ 20 := hz
    refine codeAny_of_tree ?_
    rw [den_loop, loop_eq]
    refine wpAny_bind (whole P ?_)
    dsimp only
    refine wpAny_bind (found_run _ rfl rfl rfl rfl hF ?_)
    intro m hms hmh
    subst hms hmh
    dsimp only
    have hmust : (m.handed == m.start) = false := by
      rw [beq_eq_false_iff_ne]; omega
    -- behind the part before the find
    have rest : ∀ (l' : List (Str × Tok)) (s' : Shared) (nn' : Nat), s'.heap.get? D = some (listOf (strValues l').toArray nn') → PatAt s'.heap a c code → l'.length ≤ l.length + 1 → JoinOk ⟨#[]⟩ (l'.map (·.1) ++ repl :: parts v.cps repl m.handed ms) = true →
        (∀ h' tk tk', (∀ b o, b ≠ D → s'.heap.get? b = some o → h'.get? b = some o) → R (.ok (.ret (.str (Txt.join ⟨#[]⟩ (l'.map (·.1) ++ repl :: parts v.cps repl m.handed ms)) tk))) { s' with heap := h', toks := tk' }) →
        wpAny (model prog w) (A.under (.builtin "re.Pattern.sub.loop" ⟨[.ref a, .str v t, .str repl tr, rawInt 0, rawInt 0, rawInt n, rawInt p, rawInt p, .bool false, .ref D, .bool false], []⟩))
          (do updateSeq D (·.push (.str repl tr))
              again (.builtin "re.Pattern.sub.loop" ⟨[.ref a, .str v t, .str repl tr, rawInt 0, rawInt 0, rawInt (n + 1), rawInt m.handed, rawInt m.handed, .bool (m.handed == m.start), .ref D, .bool false], []⟩))
          (fun fin s' => match fin with | .done f => R (.ok f) s' | .again c' => c'.quiet = true ∧ codeAny (model prog w) A c' R s') (fun e s' => R (.error e) s') s' := by
      intro l' s' nn' ho' P' hl' hok' hR'
      refine wpAny_bind (push_part ho' (by omega) fun h' hk ho'' => ?_)
      rw [hmust]
      refine wpAny_pure ⟨quiet_loop _, ?_⟩
      rw [strValues_snoc] at ho''
      have P'' : PatAt h' a c code := by
        obtain ⟨⟨p, fl, sl, e⟩, o, n, e2, e3⟩ := P'
        exact ⟨⟨p, fl, sl, hk _ _ haD e⟩, o, n, hk _ _ hcD e2, e3⟩
      refine ih m.handed (l' ++ [(repl, tr)]) D _ (n + 1) { s' with heap := h' } hC' P'' haD hcD ho'' ?_ ?_ ?_
      · rw [List.length_append]; simp only [List.length_cons, List.length_nil]; omega
      · rw [texts_snoc, List.append_assoc]; exact hok'
      · intro h'' tk tk' hk'
        rw [texts_snoc, List.append_assoc]
        exact hR' h'' tk tk' fun b o hb e => hk' b o hb (hk b o hb e)
    by_cases hlt : p < m.start
    · have hparts : parts v.cps repl p ((m.start, m.handed) :: ms) = [⟨v.cps.extract p m.start⟩] ++ repl :: parts v.cps repl m.handed ms := by
        conv => lhs; unfold parts
        rw [if_pos hlt]
      rw [hparts] at hok hR
      show wpAny _ _ (do
        if p < m.start then updateSeq D (·.push (← reSlice v.cps 0 p m.start))
        updateSeq D (·.push (.str repl tr))
        again (.builtin "re.Pattern.sub.loop" ⟨[.ref a, .str v t, .str repl tr, rawInt 0, rawInt 0, rawInt (n + 1), rawInt m.handed, rawInt m.handed, .bool (m.handed == m.start), .ref D, .bool false], []⟩)) _ _ _
      rw [if_pos hlt]
      refine wpAny_bind (slice (t := { pattern := .ref a, string := .str v t, code := code.toArray, text := v.cps, kind := 0, groups := 0, pos := 0, lim := v.cps.size }) rfl rfl hv ?_)
      refine wpAny_bind (push_part ho (by omega) fun h' hk ho' => ?_)
      rw [strValues_snoc] at ho'
      have P' : PatAt h' a c code := by
        obtain ⟨⟨p, fl, sl, e⟩, o, n, e2, e3⟩ := P
        exact ⟨⟨p, fl, sl, hk _ _ haD e⟩, o, n, hk _ _ hcD e2, e3⟩
      refine rest _ { s with heap := h', toks := s.toks + 1 } _ ho' P' (by rw [List.length_append]; exact Nat.le_refl _) ?_ ?_
      · rw [texts_snoc, List.append_assoc]; exact hok
      · intro h'' tk tk' hk'
        rw [texts_snoc, List.append_assoc]
        exact hR h'' tk tk' fun b o hb e => hk' b o hb (hk b o hb e)
    · have hparts : parts v.cps repl p ((m.start, m.handed) :: ms) = repl :: parts v.cps repl m.handed ms := by
        conv => lhs; unfold parts
        rw [if_neg hlt, List.nil_append]
      rw [hparts] at hok hR
      show wpAny _ _ (do
        if p < m.start then updateSeq D (·.push (← reSlice v.cps 0 p m.start))
        updateSeq D (·.push (.str repl tr))
        again (.builtin "re.Pattern.sub.loop" ⟨[.ref a, .str v t, .str repl tr, rawInt 0, rawInt 0, rawInt (n + 1), rawInt m.handed, rawInt m.handed, .bool (m.handed == m.start), .ref D, .bool false], []⟩)) _ _ _
      rw [if_neg hlt]
      exact rest l s _ ho P (by omega) hok hR
end
end Re
end PartRegex5
section PartRegex6
namespace Re
open PySem.Builtin PySem.Builtin.Re
theorem str_no_call : typeLookup (.type "str") "__call__" = pure none := by rw [typeLookup_type, builtinLookup_eq_fast]; kernel_rfl
section
variable {prog : Program} {w : World} {A : Around} {E : Value → Shared → Prop} {s : Shared}
theorem named_sub (x y : Value) : reNamed "re.Pattern.sub" "sub" ["repl", "string", "count"] 2 [x, y] [] = pure [some x, some y, none] := rfl
theorem sub_eq (a : Addr) (v repl : Str) (t tr : Tok) : Builtin.«re.Pattern.sub» ⟨[.ref a, .str repl tr, .str v t], []⟩ =
  (do
    let called := (← specialOf (.str repl tr) "__call__").isSome
    let literal ← if called then pure false else pure (!repl.cps.contains 92)
    let (repl, way) ← if called then pure (Value.str repl tr, 1) else if literal then pure (Value.str repl tr, 0) else do
      let t ← reCompileTemplate (.ref a) (.str repl tr)
      if ← reOnlyLiteral t then pure (← field t 0, 0) else pure (t, 2)
    let _ ← holding [repl] (reWholeTarget (.ref a) (.str v t))
    if way == 1 then reNotHeld "re.Pattern.sub" (.str v t)
    again (.builtin "re.Pattern.sub.loop" ⟨[.ref a, .str v t, repl, rawInt way, rawInt 0, rawInt 0, rawInt 0, rawInt 0, .bool false, ← newList [], .bool false], []⟩)) := by
  rfl
theorem sub_call {h₀ : Heap} {L a c : Addr} {m : Str → Option Value} {news : List (Addr × Obj)} {code : List Nat} {v repl : Str} {t tr : Tok} {Q : Value → Shared → Prop} (P : PatAt s.heap a c code) (F : Fr h₀ L s.heap m) (N : News h₀ L s.heap news)
    (hv : v.length ≤ 2 ^ 20) (hr : repl.cps.contains 92 = false) (ms : List (Nat × Nat)) (hC : Chain code v.cps 0 ms) (hz : 2 * ms.length + 1 ≤ 2 ^ 20) (hok : JoinOk ⟨#[]⟩ (parts v.cps repl 0 ms) = true)
    (h : ∀ h' tk tk', Fr h₀ L h' m → News h₀ L h' news → Q (.str (Txt.join ⟨#[]⟩ (parts v.cps repl 0 ms)) tk) { s with heap := h', toks := tk' }) :
    wpAny (model prog w) A (call (.builtin "re.Pattern.sub") [.ref a, .str repl tr, .str v t]) Q E s := by
  refine wpAny_call (codeAny_call_builtin slot_sub.plain entry_sub (slot_sub.check _ _ _ _ _ _ _ _ P.type (args_sub _ _ _) ?_))
  rw [sub_eq a v repl t tr, hr]
  refine wpAny_bind (wpAny_specialOf_val (T := "str") rfl str_no_call ?_)
  refine wpAny_bind (wpAny_pure ?_)
  refine wpAny_bind (wpAny_pure ?_)
  refine wpAny_bind (wpAny_holding (whole P ?_))
  refine wpAny_bind (wpAny_newList ?_ (by decide))
  have hD : s.heap.objs.size = s.heap.objs.size := rfl
  obtain ⟨⟨p, fl, sl, e1⟩, o, n, e2, e3⟩ := id P
  refine wpAny_pure ⟨quiet_loop _, ?_⟩
  refine sub_loop hv ms 0 [] s.heap.objs.size 0 0 _ hC (P.keeps fun b o e => Heap.get?_push_of_some _ e) (Nat.ne_of_lt (Heap.lt_size e1)) (Nat.ne_of_lt (Heap.lt_size e2)) (Heap.get?_push_size _ rfl) (by simp only [List.length_nil]; omega) hok ?_
  intro h' tk tk' hk
  have old : ∀ b o, s.heap.get? b = some o → h'.get? b = some o := fun b o e => hk b o (Nat.ne_of_lt (Heap.lt_size e)) (Heap.get?_push_of_some _ e)
  exact h h' tk tk' ⟨F.ns.at' fun o e => old _ o e, fun b o e => old b o (F.keep b o e), F.above⟩ fun p hp => ⟨old _ _ (N p hp).1, (N p hp).2⟩
theorem sub_call' {h₀ : Heap} {L a c : Addr} {m : Str → Option Value} {news : List (Addr × Obj)} {code : List Nat} {v repl r : Str} {t tr : Tok} {Q : Value → Shared → Prop} (P : PatAt s.heap a c code) (F : Fr h₀ L s.heap m) (N : News h₀ L s.heap news)
    (hv : v.length ≤ 2 ^ 20) (hr : repl.cps.contains 92 = false) (ms : List (Nat × Nat)) (hC : Chain code v.cps 0 ms) (hz : 2 * ms.length + 1 ≤ 2 ^ 20) (hok : JoinOk ⟨#[]⟩ (parts v.cps repl 0 ms) = true) (e : Txt.join ⟨#[]⟩ (parts v.cps repl 0 ms) = r)
    (h : ∀ h' tk tk', Fr h₀ L h' m → News h₀ L h' news → Q (.str r tk) { s with heap := h', toks := tk' }) :
    wpAny (model prog w) A (call (.builtin "re.Pattern.sub") [.ref a, .str repl tr, .str v t]) Q E s := by
  subst e
  exact sub_call P F N hv hr ms hC hz hok h
end
end Re
end PartRegex6
section PartRegex7
namespace Re
open PySem.Builtin PySem.Builtin.Re
theorem getD_at (pre b rest : List Nat) (k : Nat) (hk : k < b.length) : (pre ++ (b ++ rest)).toArray.getD (pre.length + k) 0 = b.getD k 0 := by
  simp only [Array.getD_eq_getD_getElem?, List.getElem?_toArray, List.getD_eq_getElem?_getD]
  rw [List.getElem?_append_right (by omega), Nat.add_sub_cancel_left, List.getElem?_append_left hk]
theorem getD_end (pre b : List Nat) (c : Nat) (rest : List Nat) : (pre ++ (b ++ c :: rest)).toArray.getD (pre.length + b.length) 0 = c := by
  simp
theorem getD_end1 (pre b : List Nat) (c d : Nat) (rest : List Nat) : (pre ++ (b ++ c :: d :: rest)).toArray.getD (pre.length + b.length + 1) 0 = d := by
  simp [Nat.add_assoc]
theorem extract_at (pre b rest : List Nat) : (pre ++ (b ++ rest)).toArray.extract pre.length (pre.length + b.length) = b.toArray := by
  simp
/-- texts joined by nothing -/
theorem join_nil : ∀ texts : List Str, Txt.join ⟨#[]⟩ texts = ⟨(texts.flatMap fun x => x.cps.toList).toArray⟩ := by
  intro texts
  unfold Txt.join
  rw [StrLaws.glued_eq_join]
  induction texts with
  | nil => rfl
  | cons x r ih =>
    cases r with
    | nil => simp [Str.join]
    | cons y r =>
      show x ++ ⟨#[]⟩ ++ Str.join ⟨#[]⟩ (y :: r) = _
      rw [ih]
      show (⟨x.cps ++ #[] ++ _⟩ : Str) = _
      simp
/-- a line's end, as the law writes it -/
def isEnd (e : List Nat) : Prop := e = [10] ∨ e = [13] ∨ e = [13, 10]
theorem chain2 : ∀ (rows : List (List Nat × List Nat)) (pre : List Nat), (∀ r ∈ rows, r.1 ≠ [] ∧ (∀ c ∈ r.1, body2 c = true) ∧ isEnd r.2) →
    ∃ ms, Chain c2 (pre ++ rows.flatMap fun r => r.1 ++ r.2).toArray pre.length ms ∧ ms.length = rows.length ∧
      (parts (pre ++ rows.flatMap fun r => r.1 ++ r.2).toArray ⟨#[13, 10]⟩ pre.length ms).flatMap (fun x => x.cps.toList) = rows.flatMap fun r => r.1 ++ [13, 10] := by
  intro rows
  induction rows with
  | nil =>
    intro pre _
    refine ⟨[], ?_, rfl, ?_⟩
    · simp only [List.flatMap_nil, List.append_nil]
      have hs : pre.toArray.size = pre.length := by simp
      refine ⟨by omega, ?_⟩
      rw [hs]
      exact found2_none
    · simp [parts]
  | cons r rows ih =>
    intro pre h
    obtain ⟨b, e⟩ := r
    obtain ⟨hb0, hb, he⟩ := h _ (List.mem_cons_self ..)
    dsimp only at hb0 hb he
    have hrest := fun r hr => h r (List.mem_cons_of_mem _ hr)
    obtain ⟨ms, hC, hl, hp⟩ := ih (pre ++ (b ++ e)) hrest
    have hb1 : 1 ≤ b.length := by
      cases b with
      | nil => exact absurd rfl hb0
      | cons => simp
    have he1 : 1 ≤ e.length := by rcases he with rfl | rfl | rfl <;> simp
    -- the whole text, seen from this row
    have hT : pre ++ ((b, e) :: rows).flatMap (fun r => r.1 ++ r.2) = (pre ++ (b ++ e)) ++ rows.flatMap fun r => r.1 ++ r.2 := by simp
    have hT2 : pre ++ ((b, e) :: rows).flatMap (fun r => r.1 ++ r.2) = pre ++ (b ++ (e ++ rows.flatMap fun r => r.1 ++ r.2)) := by simp
    rw [← hT] at hC hp
    have hlen : (pre ++ (b ++ e)).length = pre.length + b.length + e.length := by simp; omega
    rw [hlen] at hC hp
    have hsz : (pre ++ ((b, e) :: rows).flatMap (fun r => r.1 ++ r.2)).toArray.size = pre.length + b.length + e.length + (rows.flatMap fun r => r.1 ++ r.2).length := by simp; omega
    have hbody : ∀ i, pre.length ≤ i → i < pre.length + b.length → body2 ((pre ++ ((b, e) :: rows).flatMap (fun r => r.1 ++ r.2)).toArray.getD i 0) = true := by
      intro i h1 h2
      obtain ⟨k, rfl⟩ : ∃ k, i = pre.length + k := ⟨i - pre.length, by omega⟩
      have hk : k < b.length := by omega
      rw [hT2, getD_at _ _ _ _ hk]
      refine hb _ ?_
      rw [List.getD_eq_getElem?_getD, List.getElem?_eq_getElem hk, Option.getD_some]
      exact List.getElem_mem hk
    refine ⟨(pre.length + b.length, pre.length + b.length + e.length) :: ms, ⟨by omega, by omega, by rw [hsz]; omega, ?_, hC⟩, by simp [hl], ?_⟩
    · rw [hsz]
      rcases he with rfl | rfl | rfl
      · refine found2_lf (by simp only [List.length_cons, List.length_nil]; omega) (by omega) ?_ hbody
        rw [hT2]; exact getD_end _ _ _ _
      · refine found2_cr (by simp only [List.length_cons, List.length_nil]; omega) (by omega) (by rw [hT2]; exact getD_end _ _ _ _) ?_ hbody
        cases rows with
        | nil => left; simp
        | cons r2 rows2 =>
          right
          obtain ⟨b2, e2⟩ := r2
          obtain ⟨hb20, hb2, _⟩ := hrest _ (List.mem_cons_self ..)
          cases b2 with
          | nil => exact absurd rfl hb20
          | cons c b2 =>
            have hc : body2 c = true := hb2 c (List.mem_cons_self ..)
            have e1 : (pre ++ ((b, [13]) :: (c :: b2, e2) :: rows2).flatMap (fun r => r.1 ++ r.2)).toArray.getD (pre.length + b.length + 1) 0 = c := by
              have e2 : pre ++ ((b, [13]) :: (c :: b2, e2) :: rows2).flatMap (fun r => r.1 ++ r.2) = pre ++ (b ++ 13 :: c :: (b2 ++ (e2 ++ rows2.flatMap fun r => r.1 ++ r.2))) := by simp
              rw [e2]; exact getD_end1 _ _ _ _ _
            rw [e1]
            unfold body2 at hc
            have := (Bool.and_eq_true_iff.mp hc).1
            simpa using this
      · refine found2_crlf (by simp only [List.length_cons, List.length_nil]; omega) (by omega) (by rw [hT2]; exact getD_end _ _ _ _) ?_ hbody
        rw [hT2]; exact getD_end1 _ _ _ _ _
    · have e1 : parts (pre ++ ((b, e) :: rows).flatMap fun r => r.1 ++ r.2).toArray ⟨#[13, 10]⟩ pre.length ((pre.length + b.length, pre.length + b.length + e.length) :: ms) =
          ⟨b.toArray⟩ :: ⟨#[13, 10]⟩ :: parts (pre ++ ((b, e) :: rows).flatMap fun r => r.1 ++ r.2).toArray ⟨#[13, 10]⟩ (pre.length + b.length + e.length) ms := by
        conv => lhs; unfold parts
        rw [if_pos (by omega)]
        have e3 : (pre ++ ((b, e) :: rows).flatMap fun r => r.1 ++ r.2).toArray.extract pre.length (pre.length + b.length) = b.toArray := by
          rw [hT2]; exact extract_at _ _ _
        rw [e3]
        rfl
      rw [e1, List.flatMap_cons, List.flatMap_cons, hp]
      simp
end Re
end PartRegex7
section PartRegex8
namespace Re
open PySem.Builtin PySem.Builtin.Re
/-- a row as quotedata sends it -/
def stuff (b : List Nat) : List Nat := if b.head? = some 46 then 46 :: b else b
theorem dot_in {pre b rest : List Nat} (hb : ∀ c ∈ b, c ≠ 10) {i : Nat} (h1 : pre.length < i) (h2 : i ≤ pre.length + b.length) : dot (pre ++ (b ++ rest)).toArray i = false := by
  unfold dot
  obtain ⟨k, rfl⟩ : ∃ k, i = pre.length + k + 1 := ⟨i - pre.length - 1, by omega⟩
  have hk : k < b.length := by omega
  have e0 : (pre.length + k + 1 == 0) = false := by simp
  have e1 : (pre ++ (b ++ rest)).toArray.getD (pre.length + k + 1 - 1) 0 = b.getD k 0 := by
    rw [Nat.add_sub_cancel, getD_at _ _ _ _ hk]
  have e2 : (b.getD k 0 == 10) = false := by
    rw [List.getD_eq_getElem?_getD, List.getElem?_eq_getElem hk, Option.getD_some]
    simpa using hb _ (List.getElem_mem hk)
  rw [e0, e1, e2]
  rfl
theorem chain1 : ∀ (rows : List (List Nat)) (pre : List Nat) (d : Nat), (∀ b ∈ rows, b ≠ [] ∧ ∀ c ∈ b, c ≠ 10) → (pre = [] ∨ ∃ p, pre = p ++ [10]) → d ≤ pre.length →
    (pre ++ rows.flatMap fun b => b ++ [13, 10]).length ≤ 2 ^ 24 →
    (∀ i, d ≤ i → i < pre.length → dot (pre ++ rows.flatMap fun b => b ++ [13, 10]).toArray i = false) →
    ∃ ms, Chain c1 (pre ++ rows.flatMap fun b => b ++ [13, 10]).toArray d ms ∧ ms.length ≤ rows.length ∧
      (parts (pre ++ rows.flatMap fun b => b ++ [13, 10]).toArray ⟨#[46, 46]⟩ d ms).flatMap (fun x => x.cps.toList) = pre.drop d ++ rows.flatMap fun b => stuff b ++ [13, 10] := by
  intro rows
  induction rows with
  | nil =>
    intro pre d _ _ hd hsz hn
    simp only [List.flatMap_nil, List.append_nil] at hn hsz ⊢
    have hs : pre.toArray.size = pre.length := by simp
    refine ⟨[], ⟨by omega, ?_⟩, Nat.le_refl _, ?_⟩
    · rw [hs]
      exact found1_none hsz hd hn
    · unfold parts
      rw [hs]
      by_cases h : d < pre.length
      · rw [if_pos h]
        simp only [List.flatMap_cons, List.flatMap_nil, List.append_nil, List.extract_toArray, List.extract_eq_take_drop]
        exact List.take_of_length_le (by simp)
      · rw [if_neg h]
        have : d = pre.length := by omega
        subst this
        simp
  | cons b rows ih =>
    intro pre d h hpre hd hsz hn
    obtain ⟨hb0, hb⟩ := h b (List.mem_cons_self ..)
    have hrest := fun r hr => h r (List.mem_cons_of_mem _ hr)
    have hT : pre ++ (b :: rows).flatMap (fun b => b ++ [13, 10]) = (pre ++ (b ++ [13, 10])) ++ rows.flatMap fun b => b ++ [13, 10] := by simp
    have hT2 : pre ++ (b :: rows).flatMap (fun b => b ++ [13, 10]) = pre ++ ((b ++ [13]) ++ 10 :: rows.flatMap fun b => b ++ [13, 10]) := by simp
    have hlen : (pre ++ (b ++ [13, 10])).length = pre.length + b.length + 2 := by simp; omega
    have hin : ∀ i, pre.length < i → i < pre.length + b.length + 2 → dot (pre ++ (b :: rows).flatMap fun b => b ++ [13, 10]).toArray i = false := by
      intro i h1 h2
      rw [hT2]
      refine dot_in (fun c hc => ?_) h1 (by simp only [List.length_append, List.length_cons, List.length_nil]; omega)
      rcases List.mem_append.mp hc with hc | hc
      · exact hb c hc
      · rw [List.mem_singleton.mp hc]; decide
    have hpre2 : (pre ++ (b ++ [13, 10])) = [] ∨ ∃ p, (pre ++ (b ++ [13, 10])) = p ++ [10] := Or.inr ⟨pre ++ (b ++ [13]), by simp⟩
    cases b with
    | nil => exact absurd rfl hb0
    | cons c b =>
      have hat : (pre ++ ((c :: b) :: rows).flatMap fun b => b ++ [13, 10]).toArray.getD pre.length 0 = c := by
        simp
      have hbol : (pre.length == 0 || (pre ++ ((c :: b) :: rows).flatMap fun b => b ++ [13, 10]).toArray.getD (pre.length - 1) 0 == 10) = true := by
        rcases hpre with rfl | ⟨p, rfl⟩
        · rfl
        · have := getD_end p [] 10 ((c :: b) ++ [13, 10] ++ rows.flatMap fun b => b ++ [13, 10])
          have e : (p ++ [10] ++ ((c :: b) :: rows).flatMap fun b => b ++ [13, 10]).toArray.getD ((p ++ [10]).length - 1) 0 = 10 := by
            simp
          rw [e]; simp
      by_cases hc : c = 46
      · subst hc
        have hdot : dot (pre ++ ((46 :: b) :: rows).flatMap fun b => b ++ [13, 10]).toArray pre.length = true := by
          unfold dot; rw [hbol, hat]; rfl
        obtain ⟨ms, hC, hl, hp⟩ := ih (pre ++ ((46 :: b) ++ [13, 10])) (pre.length + 1) hrest hpre2 (by rw [hlen]; omega) (by rw [← hT]; exact hsz) (by
          rw [← hT, hlen]
          intro i h1 h2
          exact hin i (by omega) h2)
        rw [← hT] at hC hp
        have hs : (pre ++ ((46 :: b) :: rows).flatMap fun b => b ++ [13, 10]).toArray.size = pre.length + (b.length + 1) + 2 + (rows.flatMap fun b => b ++ [13, 10]).length := by simp; omega
        refine ⟨(pre.length, pre.length + 1) :: ms, ⟨hd, by omega, by rw [hs]; omega, ?_, hC⟩, by simp only [List.length_cons]; omega, ?_⟩
        · refine found1_some (by simpa using hsz) (by rw [hs]; omega) hd hdot hn
        · have e1 : parts (pre ++ ((46 :: b) :: rows).flatMap fun b => b ++ [13, 10]).toArray ⟨#[46, 46]⟩ d ((pre.length, pre.length + 1) :: ms) =
              (if d < pre.length then [⟨(pre.drop d).toArray⟩] else []) ++ ⟨#[46, 46]⟩ :: parts (pre ++ ((46 :: b) :: rows).flatMap fun b => b ++ [13, 10]).toArray ⟨#[46, 46]⟩ (pre.length + 1) ms := by
            conv => lhs; unfold parts
            have e3 : (pre ++ ((46 :: b) :: rows).flatMap fun b => b ++ [13, 10]).toArray.extract d pre.length = (pre.drop d).toArray := by
              have e4 : pre.drop d ++ ((46 :: b) :: rows).flatMap (fun b => b ++ [13, 10]) = (pre ++ ((46 :: b) :: rows).flatMap fun b => b ++ [13, 10]).drop d := by
                rw [List.drop_append_of_le_length hd]
              rw [List.extract_toArray, List.extract_eq_take_drop, ← e4, List.take_append_of_le_length (by simp), List.take_of_length_le (by simp)]
            rw [e3]
          rw [e1, List.flatMap_append, List.flatMap_cons, hp]
          have e5 : (pre ++ ((46 :: b) ++ [13, 10])).drop (pre.length + 1) = b ++ [13, 10] := by
            rw [List.drop_append, List.drop_of_length_le (by omega)]
            simp
          rw [e5]
          have e6 : (if d < pre.length then [(⟨(pre.drop d).toArray⟩ : Str)] else []).flatMap (fun x => x.cps.toList) = pre.drop d := by
            by_cases h : d < pre.length
            · rw [if_pos h]; simp
            · rw [if_neg h, List.drop_of_length_le (by omega)]; rfl
          rw [e6, List.flatMap_cons]
          have e7 : stuff (46 :: b) = 46 :: 46 :: b := by unfold stuff; rfl
          rw [e7]
          simp
      · have hdot : dot (pre ++ ((c :: b) :: rows).flatMap fun b => b ++ [13, 10]).toArray pre.length = false := by
          unfold dot; rw [hbol, hat]; simp [hc]
        obtain ⟨ms, hC, hl, hp⟩ := ih (pre ++ ((c :: b) ++ [13, 10])) d hrest hpre2 (by rw [hlen]; omega) (by rw [← hT]; exact hsz) (by
          rw [← hT, hlen]
          intro i h1 h2
          by_cases h3 : i < pre.length
          · exact hn i h1 h3
          · by_cases h4 : i = pre.length
            · rw [h4]; exact hdot
            · exact hin i (by omega) h2)
        rw [← hT] at hC hp
        refine ⟨ms, hC, by simp only [List.length_cons]; omega, ?_⟩
        rw [hp, List.drop_append_of_le_length hd, List.flatMap_cons]
        have e7 : stuff (c :: b) = c :: b := by
          unfold stuff
          rw [if_neg (by simpa using hc)]
        rw [e7]
        simp
end Re
end PartRegex8
section PartRegex9
namespace Re
open PySem.Builtin PySem.Builtin.Re
theorem joinOk_nil (texts : List Str) (h : (texts.flatMap fun x => x.cps.toList).length ≤ sizeLine) : JoinOk ⟨#[]⟩ texts = true := by
  have key : ∀ (texts : List Str) (n : Nat), texts.foldl (fun (n : Nat) (s : Str) => n + s.length + (⟨#[]⟩ : Str).length) n = n + (texts.flatMap fun x => x.cps.toList).length := by
    intro texts
    induction texts with
    | nil => intro n; rfl
    | cons x r ih =>
      intro n
      rw [List.foldl_cons, ih]
      simp [Str.length]
      omega
  unfold JoinOk
  have e : texts.toArray.foldl (fun (n : Nat) (s : Str) => n + s.length + (⟨#[]⟩ : Str).length) 0 = (texts.flatMap fun x => x.cps.toList).length := by
    rw [List.foldl_toArray', key, Nat.zero_add]
    rfl
  rw [e]
  simpa [Builtin.Str.tooLong] using h
/-- the mail as it is written, as its line ends are made one, as it is sent -/
def mailA (rows : List (List Nat × List Nat)) : Str := ⟨(rows.flatMap fun r => r.1 ++ r.2).toArray⟩
def mailB (rows : List (List Nat × List Nat)) : Str := ⟨(rows.flatMap fun r => r.1 ++ [13, 10]).toArray⟩
def mailC (rows : List (List Nat × List Nat)) : Str := ⟨(rows.flatMap fun r => stuff r.1 ++ [13, 10]).toArray⟩
def rowOk (r : List Nat × List Nat) : Prop := r.1 ≠ [] ∧ (∀ c ∈ r.1, c = 45 ∨ c = 46) ∧ isEnd r.2
theorem rowOk.body {r : List Nat × List Nat} (h : rowOk r) : r.1 ≠ [] ∧ (∀ c ∈ r.1, body2 c = true) ∧ isEnd r.2 := ⟨h.1, fun c hc => by rcases h.2.1 c hc with rfl | rfl <;> rfl, h.2.2⟩
theorem sub2 (rows : List (List Nat × List Nat)) (h : ∀ r ∈ rows, rowOk r) (hz : (mailB rows).length ≤ 2 ^ 18) :
    ∃ ms, Chain c2 (mailA rows).cps 0 ms ∧ 2 * ms.length + 1 ≤ 2 ^ 20 ∧ JoinOk ⟨#[]⟩ (parts (mailA rows).cps ⟨#[13, 10]⟩ 0 ms) = true ∧ Txt.join ⟨#[]⟩ (parts (mailA rows).cps ⟨#[13, 10]⟩ 0 ms) = mailB rows := by
  obtain ⟨ms, hC, hl, hp⟩ := chain2 rows [] fun r hr => (h r hr).body
  simp only [List.nil_append, List.length_nil] at hC hp
  have hlen : rows.length ≤ (rows.flatMap fun r => r.1 ++ [13, 10]).length := by
    clear hz hC hp hl h
    induction rows with
    | nil => exact Nat.le_refl _
    | cons r rows ih => simp only [List.flatMap_cons, List.length_cons, List.length_append]; omega
  have hz' : (rows.flatMap fun r => r.1 ++ [13, 10]).length ≤ 2 ^ 18 := by simpa [mailB, Str.length] using hz
  refine ⟨ms, hC, by omega, ?_, ?_⟩
  · refine joinOk_nil _ ?_
    show ((parts (rows.flatMap fun r => r.1 ++ r.2).toArray ⟨#[13, 10]⟩ 0 ms).flatMap fun x => x.cps.toList).length ≤ sizeLine
    rw [hp]
    exact Nat.le_trans hz' (by decide)
  · rw [join_nil]
    show (⟨((parts (rows.flatMap fun r => r.1 ++ r.2).toArray ⟨#[13, 10]⟩ 0 ms).flatMap fun x => x.cps.toList).toArray⟩ : Str) = _
    rw [hp]
    rfl
theorem sub1 (rows : List (List Nat × List Nat)) (h : ∀ r ∈ rows, rowOk r) (hz : (mailB rows).length ≤ 2 ^ 18) (hz2 : (mailC rows).length ≤ 2 ^ 18) :
    ∃ ms, Chain c1 (mailB rows).cps 0 ms ∧ 2 * ms.length + 1 ≤ 2 ^ 20 ∧ JoinOk ⟨#[]⟩ (parts (mailB rows).cps ⟨#[46, 46]⟩ 0 ms) = true ∧ Txt.join ⟨#[]⟩ (parts (mailB rows).cps ⟨#[46, 46]⟩ 0 ms) = mailC rows := by
  have eB : (rows.map (·.1)).flatMap (fun b => b ++ [13, 10]) = rows.flatMap fun r => r.1 ++ [13, 10] := by rw [List.flatMap_map]
  have eC : (rows.map (·.1)).flatMap (fun b => stuff b ++ [13, 10]) = rows.flatMap fun r => stuff r.1 ++ [13, 10] := by rw [List.flatMap_map]
  have hz' : (rows.flatMap fun r => r.1 ++ [13, 10]).length ≤ 2 ^ 18 := by simpa [mailB, Str.length] using hz
  have hz2' : (rows.flatMap fun r => stuff r.1 ++ [13, 10]).length ≤ 2 ^ 18 := by simpa [mailC, Str.length] using hz2
  obtain ⟨ms, hC, hl, hp⟩ := chain1 (rows.map (·.1)) [] 0 (fun b hb => by
    obtain ⟨r, hr, rfl⟩ := List.mem_map.mp hb
    exact ⟨(h r hr).1, fun c hc => by rcases (h r hr).2.1 c hc with rfl | rfl <;> decide⟩) (Or.inl rfl) (Nat.le_refl _) (by rw [eB]; simpa using Nat.le_trans hz' (by decide)) (fun i h1 h2 => absurd h2 (Nat.not_lt_zero _))
  rw [eB, eC] at hp
  rw [eB] at hC
  simp only [List.nil_append, List.drop_nil] at hC hp
  have hlen : rows.length ≤ (rows.flatMap fun r => r.1 ++ [13, 10]).length := by
    clear hz hC hp hl h eB eC hz2 hz' hz2'
    induction rows with
    | nil => exact Nat.le_refl _
    | cons r rows ih => simp only [List.flatMap_cons, List.length_cons, List.length_append]; omega
  rw [List.length_map] at hl
  refine ⟨ms, hC, by omega, ?_, ?_⟩
  · refine joinOk_nil _ ?_
    show ((parts (rows.flatMap fun r => r.1 ++ [13, 10]).toArray ⟨#[46, 46]⟩ 0 ms).flatMap fun x => x.cps.toList).length ≤ sizeLine
    rw [hp]
    exact Nat.le_trans hz2' (by decide)
  · rw [join_nil]
    show (⟨((parts (rows.flatMap fun r => r.1 ++ [13, 10]).toArray ⟨#[46, 46]⟩ 0 ms).flatMap fun x => x.cps.toList).toArray⟩ : Str) = _
    rw [hp]
    rfl
section
variable {w : World} {A : Around} {E : Value → Shared → Prop} {s : Shared} {h : Heap}
theorem pat1 (X : (top.heap_39 w.params).In h) : PatAt h 68 67 c1 := ⟨⟨_, _, _, X _ _ (by k_is)⟩, _, _, X _ _ (by k_is), rfl⟩
theorem pat2 (X : (top.heap_39 w.params).In h) : PatAt h 73 72 c2 := ⟨⟨_, _, _, X _ _ (by k_is)⟩, _, _, X _ _ (by k_is), rfl⟩
/-- the two looks of Headers -/
def c3 : List Nat := [14, 10, 4, 1, 1, 22, 0, 31, 16, 127, 0, 13, 7, 22, 0, 31, 16, 127, 0, 1]
def c4 : List Nat := [14, 14, 4, 1, 1, 9, 4294966783, 0, 0, 2147483648, 0, 0, 0, 0, 0, 13, 11, 9, 4294966783, 0, 0, 2147483648, 0, 0, 0, 0, 0, 1]
theorem pat3 (X : (top.heap_39 w.params).In h) : PatAt h 90 89 c3 := ⟨⟨_, _, _, X _ _ (by k_is)⟩, _, _, X _ _ (by k_is), rfl⟩
theorem pat4 (X : (top.heap_39 w.params).In h) : PatAt h 95 94 c4 := ⟨⟨_, _, _, X _ _ (by k_is)⟩, _, _, X _ _ (by k_is), rfl⟩
end
end Re
end PartRegex9
section PartQuote
set_option rowWalk.seconds 0
section

/-- a text comes back, the ledger as it stood -/
abbrev retStr (news : List (Addr × Obj)) (r : Str) (_w : World) (h₀ : Heap) (L : Addr) (m : Str → Option Value) (s : Shared) (Q : Value → Shared → Prop) : Prop :=
  ∀ (t : Tok) (h' : Heap) (tk' : Nat), Fr h₀ L h' m → News h₀ L h' news → Q (.str r t) { s with heap := h', toks := tk' }
theorem quote (rows : List (List Nat × List Nat)) (tk : Tok) (news : List (Addr × Obj)) (h : ∀ r ∈ rows, Re.rowOk r) (hA : (Re.mailA rows).length ≤ 2 ^ 18) (hB : (Re.mailB rows).length ≤ 2 ^ 18) (hC : (Re.mailC rows).length ≤ 2 ^ 18) :
    Ctr 80 2 32 [.str (Re.mailA rows) tk] news (retStr news (Re.mailC rows)) := by
  intro w p loose mean mg mb dp un gd cn cs a ccd cl outer A₀ base h₀ L m s Q E B F X N T hk hdp hun hret
  obtain ⟨ms2, g1, g2, g3, g4⟩ := Re.sub2 rows h hB
  obtain ⟨ms1, f1, f2, f3, f4⟩ := Re.sub1 rows h hB hC
  have hA' : (Re.mailA rows).length ≤ 2 ^ 20 := Nat.le_trans hA (by decide)
  have hB' : (Re.mailB rows).length ≤ 2 ^ 20 := Nat.le_trans hB (by decide)
  have ed : (⟨#[46, 46]⟩ : Str) = Str.ofString ".." := by decide +kernel
  rw [ed] at f3 f4
  k_with_none
  k_with "getm!" => (k_dflt (refine' Re.getm_sub ?kp ?_; (case kp => first | exact Re.pat1 (by k_in) | exact Re.pat2 (by k_in))))
  k_with "sub!" => (k_dflt (refine' Re.sub_call' ?kp ?kF ?kN ?kv ?kr _ ?kC ?kz ?kj ?ke ?_; (case kp => first | exact Re.pat1 (by k_in) | exact Re.pat2 (by k_in)); (case kF => k_asm); (case kN => k_asm); (case kC => first | exact g1 | exact f1); (case kv => first | exact hA' | exact hB'); (case kr => decide +kernel); (case kz => first | exact g2 | exact f2); (case kj => first | exact g3 | exact f3); (case ke => first | exact g4 | exact f4)); intro h9 tk9 tk8 F9 N9; (try dsimp only); (try k_fold))
  refine wpAny_call ?_
  k_dflt (refine' code_def ?k1 ?k2 ?k3 ?k4 ?k5 ?kA ?kF ?kK ?k6 ?k7 ?k8 ?k9 ?kB ?_ ?c2 ?c3 ?c4 ?c5; (case kA => exact rfl); (case kF => exact rfl); (case kK => first | exact rfl | assumption); (case k1 => k_asm); (case k2 => k_asm); (case k3 => k_asm); (case k4 => k_asm); (case k5 => k_asm); (case k6 => k_is); (case k7 => k_is); (case k8 => ktr_room); (case k9 => first | exact BindsTo.of_eq rfl | exact binds_K (by k_in) rfl (by k_is) rfl rfl rfl); (case c5 => decide); (case kB => exact locs rfl); (case c2 => exact rfl); (case c3 => exact rfl); (case c4 => exact rfl); k_whole; intro g' L' h' FG' F' N' B' X' T'; (try dsimp only); (try k_lift B'); (try k_fold))
  k_steps
  all_goals exact hret _ _ _ (by k_asm) (by k_asm)
end
end PartQuote
section PartText
section
open PySem.Builtin PySem.Builtin.Str PySem.StrLaws
def tx (l : List Nat) : Str := ⟨l.toArray⟩
theorem tx_len (l : List Nat) : (tx l).length = l.length := by unfold tx; show l.toArray.size = _; simp
abbrev crlf : Str := ⟨#[13, 10]⟩
def mailL (bs : List (List Nat)) : List Nat := bs.flatMap fun b => b ++ [13, 10]
theorem mailL_cons (b : List Nat) (r : List (List Nat)) : mailL (b :: r) = b ++ 13 :: 10 :: mailL r := by
  unfold mailL; rw [List.flatMap_cons]; simp
theorem subAt_no {l : List Nat} {i : Nat} (h : l[i]? ≠ some 13) : subAt (tx l) crlf i = false := by
  unfold subAt tx
  show (l.toArray.extract i (i + 2) == #[13, 10]) = false
  rw [beq_eq_false_iff_ne]
  intro e
  have e2 := congrArg Array.toList e
  rw [Array.toList_extract] at e2
  simp only [List.extract_eq_drop_take] at e2
  apply h
  have e3 : ((l.drop i).take (i + 2 - i))[0]? = some 13 := by rw [e2]; rfl
  rw [List.getElem?_take, if_pos (by omega), List.getElem?_drop] at e3
  simpa using e3
theorem subAt_yes {pre rest : List Nat} : subAt (tx (pre ++ 13 :: 10 :: rest)) crlf pre.length = true := by
  unfold subAt tx
  show ((pre ++ 13 :: 10 :: rest).toArray.extract pre.length (pre.length + 2) == #[13, 10]) = true
  rw [beq_iff_eq]
  apply Array.toList_inj.mp
  rw [Array.toList_extract]
  simp only [List.extract_eq_drop_take]
  rw [List.drop_left]
  have : pre.length + 2 - pre.length = 2 := by omega
  rw [this]
  rfl
theorem occ_skip (x : Str) (hi lim : Nat) : ∀ (k n lo : Nat) (st : Array Nat × Nat), (∀ i, lo ≤ i → i < lo + k → subAt x crlf i = false) →
    (forIn (List.range' lo (k + n)) st (occBody x crlf hi lim) : Id _) = forIn (List.range' (lo + k) n) st (occBody x crlf hi lim)
  | 0, n, lo, st, _ => by rw [Nat.zero_add, Nat.add_zero]
  | k + 1, n, lo, st, h => by
    rw [show k + 1 + n = (k + n) + 1 by omega, List.range'_succ, List.forIn_cons]
    unfold occBody
    rw [if_neg (by rw [h lo (Nat.le_refl _) (by omega)]; simp)]
    have ih := occ_skip x hi lim k n (lo + 1) st (fun i h1 h2 => h i (by omega) (by omega))
    rw [show lo + 1 + k = lo + (k + 1) by omega] at ih
    exact ih
/-- where the rows end -/
def cuts : Nat → List (List Nat) → List Nat
  | _, [] => []
  | o, b :: r => (o + b.length) :: cuts (o + b.length + 2) r
theorem occ_cuts (lim : Nat) : ∀ (bs : List (List Nat)) (pre : List Nat) (found : Array Nat) (free : Nat), (∀ b ∈ bs, ∀ c ∈ b, c ≠ 13) → found.size + bs.length < lim → free ≤ pre.length →
    (Id.run (forIn (List.range' pre.length ((mailL bs).length + 1)) (found, free) (occBody (tx (pre ++ mailL bs)) crlf (tx (pre ++ mailL bs)).length lim))).fst = found ++ (cuts pre.length bs).toArray
  | [], pre, found, free, _, _, _ => by
    show (Id.run (forIn (List.range' pre.length 1) (found, free) _)).fst = _
    rw [show List.range' pre.length 1 = [pre.length] from rfl, List.forIn_cons]
    unfold occBody
    rw [if_neg (by
      rintro ⟨⟨_, h⟩, _⟩
      rw [tx_len] at h
      simp [mailL] at h
      have : crlf.length = 2 := rfl
      omega)]
    simp [cuts]
  | b :: r, pre, found, free, hb, hl, hf => by
    have e0 : pre ++ mailL (b :: r) = (pre ++ b) ++ 13 :: 10 :: mailL r := by rw [mailL_cons, List.append_assoc]
    have hlen : (mailL (b :: r)).length + 1 = b.length + (1 + (1 + ((mailL r).length + 1))) := by rw [mailL_cons]; simp; omega
    rw [hlen, occ_skip _ _ _ b.length]
    · have e1 : pre.length + b.length = (pre ++ b).length := by rw [List.length_append]
      rw [show 1 + (1 + ((mailL r).length + 1)) = (1 + ((mailL r).length + 1)) + 1 by omega, List.range'_succ, List.forIn_cons]
      have hs : subAt (tx (pre ++ mailL (b :: r))) crlf (pre.length + b.length) = true := by rw [e0, e1]; exact subAt_yes
      unfold occBody
      rw [if_pos ⟨⟨⟨by show found.size < lim; simp at hl; omega, by show free ≤ _; omega⟩, by
        rw [tx_len, e0]; simp; show _ + 2 ≤ _; omega⟩, hs⟩]
      have ih0 := occ_skip (tx (pre ++ mailL (b :: r))) (tx (pre ++ mailL (b :: r))).length lim 1 ((mailL r).length + 1) (pre.length + b.length + 1) (found.push (pre.length + b.length), pre.length + b.length + crlf.length) (fun i h1 h2 => by
        have : i = pre.length + b.length + 1 := by omega
        subst this
        apply subAt_no
        rw [e0, e1, List.getElem?_append_right (by omega)]
        simp)
      unfold occBody at ih0
      have e2 : pre.length + b.length + 1 + 1 = (pre ++ b ++ [13, 10]).length := by simp; omega
      have e3 : pre ++ mailL (b :: r) = (pre ++ b ++ [13, 10]) ++ mailL r := by rw [mailL_cons]; simp
      have ih := occ_cuts lim r (pre ++ b ++ [13, 10]) (found.push (pre.length + b.length)) (pre.length + b.length + crlf.length) (fun b' hb' => hb b' (.tail _ hb')) (by simp at hl ⊢; omega) (by
        have : crlf.length = 2 := rfl
        simp; omega)
      rw [← e3, ← e2] at ih
      unfold occBody at ih
      have step : (forIn (List.range' (pre.length + b.length + 1) (1 + ((mailL r).length + 1))) (found.push (pre.length + b.length), pre.length + b.length + crlf.length) _ : Id _) = _ := ih0
      refine (congrArg (fun z : Id (Array Nat × Nat) => z.run.fst) step).trans (ih.trans ?_)
      simp [cuts, Nat.add_assoc]
    · intro i h1 h2
      apply subAt_no
      rw [mailL_cons, List.getElem?_append_right h1, List.getElem?_append_left (by omega)]
      intro h
      have hm := List.mem_of_getElem? h
      exact hb b (.head _) 13 hm rfl
theorem parts_cuts : ∀ (bs : List (List Nat)) (pre : List Nat),
    ((pre.length :: (cuts pre.length bs).map (· + 2)).zip (cuts pre.length bs ++ [(tx (pre ++ mailL bs)).length])).map (fun (i, j) => strSub (tx (pre ++ mailL bs)) i j) = bs.map tx ++ [tx []]
  | [], pre => by
    simp only [cuts, List.map_nil, List.nil_append, List.zip_cons_cons, List.zip_nil_right, List.map_cons, List.cons.injEq, and_true]
    rw [tx_len]
    unfold strSub tx
    simp [mailL]
  | b :: r, pre => by
    have e3 : pre ++ mailL (b :: r) = (pre ++ b ++ [13, 10]) ++ mailL r := by rw [mailL_cons]; simp
    have e2 : pre.length + b.length + 2 = (pre ++ b ++ [13, 10]).length := by simp; omega
    have ih := parts_cuts r (pre ++ b ++ [13, 10])
    simp only [cuts, List.map_cons, List.cons_append, List.zip_cons_cons, List.map_cons]
    rw [e3, e2, ih]
    congr 1
    unfold strSub tx
    simp
theorem split_mail (bs : List (List Nat)) (hb : ∀ b ∈ bs, ∀ c ∈ b, c = 45 ∨ c = 46) (h1 : bs ≠ []) : Txt.split (tx (mailL bs)) crlf = bs.map tx ++ [tx []] := by
  have hne : ∀ b ∈ bs, ∀ c ∈ b, c ≠ 13 := fun b h c hc => by rcases hb b h c hc with rfl | rfl <;> decide
  have hL : 2 ≤ (mailL bs).length := by
    cases bs with
    | nil => exact absurd rfl h1
    | cons b r => rw [mailL_cons]; simp; omega
  have hbl : ∀ bs : List (List Nat), bs.length ≤ (mailL bs).length := by
    intro bs
    induction bs with
    | nil => exact Nat.zero_le _
    | cons b r ih => rw [mailL_cons]; simp; omega
  have occ : occurrences (tx (mailL bs)) crlf 0 (tx (mailL bs)).length ((tx (mailL bs)).length + 1) = cuts 0 bs := by
    rw [occ_eq]
    have := occ_cuts ((tx (mailL bs)).length + 1) bs [] #[] 0 hne (by rw [tx_len]; have := hbl bs; simp; omega) (Nat.le_refl _)
    simp only [List.nil_append, List.length_nil] at this
    have e : (tx (mailL bs)).length + 1 - 0 = (mailL bs).length + 1 := by rw [tx_len]; rfl
    rw [e]
    rw [this]
    simp
  unfold Txt.split
  have k1 : decide ((tx (mailL bs)).length < crlf.length) = false := by rw [tx_len]; exact decide_eq_false (by show ¬ _ < 2; omega)
  have k2 : decide (Builtin.Str.strKind (tx (mailL bs)) < Builtin.Str.strKind crlf) = false := by
    apply decide_eq_false
    have : Builtin.Str.strKind crlf = 1 := by decide +kernel
    rw [this]
    unfold Builtin.Str.strKind
    split <;> (try split) <;> decide
  rw [k1, k2, occ]
  have hc : (cuts 0 bs).isEmpty = false := by
    cases bs with
    | nil => exact absurd rfl h1
    | cons b r => rfl
  rw [hc]
  simp only [Bool.or_self, Bool.false_eq_true, if_false]
  have := parts_cuts bs []
  simp only [List.nil_append, List.length_nil] at this
  unfold partsBetween
  exact this
end
end PartText
section PartDig
set_option rowWalk.seconds 0
section

section
variable {w : World} {A : Around} {E : Value → Shared → Prop} {s : Shared} {t u : Tok} {Q : Value → Shared → Prop} {x y r : Int}
theorem blen (hb : Builtin.Int.intBits x = y) (h : Q (.int y s.toks) { s with toks := s.toks + 1 }) :
    wpAny (model PG w) A (call (.builtin "int.bit_length") [.int x t]) Q E s := by subst hb; exact call_int_bit_length h
theorem divOne (h : Q (.int x s.toks) { s with toks := s.toks + 1 }) : wpAny (model PG w) A (binaryOp .FloorDiv (.int x t) (.int 1 u)) Q E s :=
  floordiv_int (by decide) (by simpa using h) (Or.inl (PyProof.noPylong_of_log2 (by decide +kernel)))
theorem shrE (hn : 0 ≤ y) (e : x.fdiv (2 ^ y.toNat) = r) (h : Q (.int r s.toks) { s with toks := s.toks + 1 }) : wpAny (model PG w) A (binaryOp .RShift (.int x t) (.int y u)) Q E s := by subst e; exact rshift_int hn h
theorem shlE (hn : 0 ≤ y) (hn2 : y ≤ 1000000) (ha : x.natAbs < 2 ^ 64) (e : x * (2 ^ y.toNat) = r) (h : Q (.int r s.toks) { s with toks := s.toks + 1 }) : wpAny (model PG w) A (binaryOp .LShift (.int x t) (.int y u)) Q E s := by subst e; exact lshift_int_small hn hn2 ha h
theorem xorE (e : Builtin.bitXor x y = r) (h : Q (.int r s.toks) { s with toks := s.toks + 1 }) : wpAny (model PG w) A (binaryOp .BitXor (.int x t) (.int y u)) Q E s := by subst e; exact xor_int h
theorem eqT (e : x = y) (h : Q (.bool true) s) : wpAny (model PG w) A (compareOp .Eq (.int x t) (.int y u)) Q E s := eq_int (by subst e; simpa using h)
theorem eqF (e : x ≠ y) (h : Q (.bool false) s) : wpAny (model PG w) A (compareOp .Eq (.int x t) (.int y u)) Q E s := eq_int (by rw [beq_false_of_ne e]; exact h)
end
abbrev keepB (b : List Stmt) {oc dV kV doc pm cdv ct : Value} {od an : Option Addr} {name qual : Str} {params : Arguments} {scope : Scope} {osl : Array (Option Value)} {w : World} (_ : (top.heap_39 w.params).lookup 45 = some ⟨oc, od, .func (fnOf name qual params b scope dV kV doc pm an cdv ct), osl⟩) : List Stmt := b
def digBody (w : World) : List Stmt := by
  exact keepB _ (w := w) (by k_is)
abbrev keepI (p : Arguments) (b : List Stmt) (sc : Scope) {s1 s3 s4 : Stmt} {n1 : Str} {l : List Expr} {r : Option Expr} {ps : _} {n2 : Str} {pos : Pos} (_ : ∀ w, digBody w = [s1, .FunctionDef n1 p b l r ps sc none n2 pos, s3, s4]) : Arguments × List Stmt × Scope := (p, b, sc)
def inAll : Arguments × List Stmt × Scope := by
  exact keepI _ _ _ (fun _ => rfl)
abbrev inPs : Arguments := inAll.1
abbrev inBody : List Stmt := inAll.2.1
abbrev inSc : Scope := inAll.2.2
abbrev fnIn (qual : Str) (doc pm ctv : Value) (c' ci ca cn : Addr) : Obj := fnMade (Str.ofString "inner") qual inPs inBody inSc [(Str.ofString "n", cn), (Str.ofString "inner", ci), (Str.ofString "a_digits", ca)] doc pm c' ctv
/-- the ledger at a call of inner -/
abbrev ledIn (f c' D l ci ca cn : Addr) (fo oc lo oi oa on : Obj) (news : List (Addr × Obj)) (vs : List Value) : List (Addr × Obj) := (f, fo) :: (c', oc) :: (D, listOf vs.toArray 0) :: (l, lo) :: (ci, oi) :: (ca, oa) :: (cn, on) :: news
/-- the digits of x from place a on, n of them -/
def BitsAt (ns ns' : List Int) (a n : Nat) (x : Int) : Prop := ns'.length = ns.length ∧ ∀ j, j < ns.length → ns'[j]? = if a ≤ j ∧ j < a + n then some (x / 2 ^ (j - a) % 2) else ns[j]?
theorem BitsAt.one {ns : List Int} {a : Nat} {x Li : Int} (hL : Li = a) (h : a < ns.length) (h0 : 0 ≤ x) (h1 : x < 2) : BitsAt ns (ns.set Li.toNat x) a 1 x := by
  rw [show Li.toNat = a by omega]
  refine ⟨List.length_set .., fun j hj => ?_⟩
  rw [List.getElem?_set]
  by_cases e : a = j
  · subst e; rw [if_pos rfl, if_pos h, if_pos (by omega)]; simp; omega
  · rw [if_neg e, if_neg (by omega)]
theorem BitsAt.two {ns ns1 ns2 : List Int} {a n1 n2 : Nat} {x : Int} (h0 : 0 ≤ x) (h1 : BitsAt ns ns1 a n1 (x % 2 ^ n1)) (h2 : BitsAt ns1 ns2 (a + n1) n2 (x / 2 ^ n1)) : BitsAt ns ns2 a (n1 + n2) x := by
  refine ⟨h2.1.trans h1.1, fun j hj => ?_⟩
  rw [h2.2 j (by rw [h1.1]; exact hj)]
  by_cases c2 : a + n1 ≤ j ∧ j < a + n1 + n2
  · rw [if_pos c2, if_pos (by omega)]
    have e : j - a = n1 + (j - (a + n1)) := by omega
    rw [e, Int.pow_add, ← Int.ediv_ediv_of_nonneg (by exact Int.le_of_lt (Int.pow_pos (by decide)))]
  · rw [if_neg c2, h1.2 j hj]
    by_cases c1 : a ≤ j ∧ j < a + n1
    · rw [if_pos c1, if_pos (by omega)]
      obtain ⟨k, hk⟩ : ∃ k, n1 = (j - a) + 1 + k := ⟨n1 - (j - a) - 1, by omega⟩
      generalize j - a = i at hk
      subst hk
      congr 1
      obtain ⟨y, rfl⟩ := Int.eq_ofNat_of_zero_le h0
      have e : y % 2 ^ (i + 1 + k) / 2 ^ i % 2 = y / 2 ^ i % 2 := by
        rw [show i + 1 + k = i + (1 + k) by omega, Nat.pow_add, Nat.mod_mul_right_div_self, Nat.pow_add, Nat.pow_one, Nat.mod_mul_right_mod]
      exact_mod_cast e
    · rw [if_neg c1, if_neg (by omega)]
abbrev retIn (led : List Value → List (Addr × Obj)) (ns : List Int) (a n : Nat) (x : Int) (_w : World) (h₀ : Heap) (L : Addr) (m : Str → Option Value) (s : Shared) (Q : Value → Shared → Prop) : Prop :=
  ∀ (vs' : List Value) (ns' : List Int) (h' : Heap) (tk' : Nat), IntsAre vs' ns' → BitsAt ns ns' a n x → Fr h₀ L h' m → News h₀ L h' (led vs') → Q .none { s with heap := h', toks := tk' }
section
variable {f c' D l ci ca cn : Nat} {oc lo oi oa on : Obj} {qual : Str} {doc pm ctv : Value} {t' tn : Tok} {cvs : Array Value} {news : List (Addr × Obj)}
theorem in_leaf (hoi : oi.data = .cell (some (.ref f))) (hoa : oa.data = .cell (some (.ref D))) (hon : on.data = .cell (some (.int 1 tn))) (hoc : oc.data = .fields cvs) (hcv : cvs[1]? = some (.str qual t'))
    (l1 : D < f ∧ D ≠ c' ∧ l < D ∧ ci < D ∧ ca < D ∧ cn < D ∧ AllLt D news) (x Li Ri : Int) (j : Nat) (hLi : Li = j) (hRi : Ri = Li + 1) (hx0 : 0 ≤ x) (hx1 : x < 2) (vs : List Value) (ns : List Int) (hvs : IntsAre vs ns) (ha : j < ns.length) (hn4 : ns.length ≤ 4) (t1 t2 t3 : Tok) :
    Ctr f 3 16 [.int x t1, .int Li t2, .int Ri t3] (ledIn f c' D l ci ca cn (fnIn qual doc pm ctv c' ci ca cn) oc lo oi oa on news vs) (retIn (ledIn f c' D l ci ca cn (fnIn qual doc pm ctv c' ci ca cn) oc lo oi oa on news) ns j 1 x) := by
  intro w p loose mean mg mb dp un gd cnF cs aF ccd clF outer A₀ base h₀ L m s Q E B F X N T hk hdp hun hret
  have hL0 : 0 ≤ Li := by omega
  have hL1 : Li < ns.length := by omega
  have hL2 : Li < 2 ^ 63 := by omega
  have heq : Li + 1 = Ri := by omega
  k_with_none
  k_with "eq!" => (k_dflt (first | refine eqT (by omega) ?_ | refine eqF (by omega) ?_))
  refine wpAny_call ?_
  k_dflt (refine' code_nest ?k1 ?k2 ?k3 ?k4 ?k5 ?kA ?kF ?kK ?k6 ?k7 ?k8 ?k9 ?kB ?_ ?c2 ?c3 ?c4 ?c5; (case kA => exact rfl); (case kF => exact rfl); (case kK => first | exact rfl | assumption); (case k1 => k_asm); (case k2 => k_asm); (case k3 => k_asm); (case k4 => k_asm); (case k5 => k_asm); (case k6 => k_mem); (case k7 => exact codeRec_news (by k_asm) (by k_mem) (by assumption) (by assumption)); (case k8 => ktr_room); (case k9 => exact BindsTo.of_eq rfl); (case c5 => decide); (case kB => exact locs rfl); (case c2 => exact rfl); (case c3 => exact rfl); (case c4 => exact rfl); k_whole; intro g' L' h' FG' F' N' B' X' T'; (try dsimp only [inPs, inBody, inSc, inAll, keepI]); (try k_lift B'); (try k_fold))
  have C40 : CodeHd g' 44 40 := codeHd_of_K X' (by kernel_rfl)
  k_steps
  all_goals exact hret _ _ _ _ (by assumption) (BitsAt.one hLi ha hx0 hx1) (by k_asm) (by k_asm)
theorem BitsAt.two' {ns ns1 ns2 : List Int} {n a n1 n2 : Nat} {x W U : Int} (hn : n = n1 + n2) (h0 : 0 ≤ x) (hW : W = x % 2 ^ n1) (hU : U = x / 2 ^ n1) (h1 : BitsAt ns ns1 a n1 W) (h2 : BitsAt ns1 ns2 (a + n1) n2 U) : BitsAt ns ns2 a n x := by subst hn hW hU; exact BitsAt.two h0 h1 h2
abbrev InCtr (d u : Nat) (f : Addr) (led : List Value → List (Addr × Obj)) (n : Nat) : Prop :=
  ∀ (x Li Ri : Int) (j : Nat), Li = j → Ri = Li + n → 0 ≤ x → x < 2 ^ n → ∀ (vs : List Value) (ns : List Int), IntsAre vs ns → j + n ≤ ns.length → ns.length ≤ 4 → ∀ t1 t2 t3, Ctr f d u [.int x t1, .int Li t2, .int Ri t3] (led vs) (retIn led ns j n x)
theorem shr_lt {x : Int} {a b : Nat} (h : x < 2 ^ (a + b)) : x / 2 ^ a < 2 ^ b := by
  refine Int.ediv_lt_of_lt_mul (Int.pow_pos (by decide)) ?_
  rw [← Int.pow_add, Nat.add_comm]; exact h
theorem xor_low {x : Int} {a : Nat} (h0 : 0 ≤ x) (h1 : x < 16) (ha : 1 ≤ a) (ha2 : a ≤ 2) : Builtin.bitXor x (x / 2 ^ a * 2 ^ a) = x % 2 ^ a := by
  obtain ⟨y, rfl⟩ := Int.eq_ofNat_of_zero_le h0
  have hy : y < 16 := by omega
  have key : ∀ y : Fin 16, ∀ a : Fin 3, 1 ≤ a.val → Builtin.bitXor ((y.val : Nat) : Int) (((y.val : Nat) : Int) / 2 ^ a.val * 2 ^ a.val) = ((y.val : Nat) : Int) % 2 ^ a.val := by decide +kernel
  exact key ⟨y, hy⟩ ⟨a, by omega⟩ ha
theorem in_split (hoi : oi.data = .cell (some (.ref f))) (hoa : oa.data = .cell (some (.ref D))) (hon : on.data = .cell (some (.int 1 tn))) (hoc : oc.data = .fields cvs) (hcv : cvs[1]? = some (.str qual t'))
    (n a b d u : Nat) (hab : n = a + b) (ha1 : 1 ≤ a) (ha2 : a ≤ 2) (hba : b = a ∨ b = a + 1) (hn4 : n ≤ 4)
    (IHa : InCtr d u f (ledIn f c' D l ci ca cn (fnIn qual doc pm ctv c' ci ca cn) oc lo oi oa on news) a) (IHb : InCtr d u f (ledIn f c' D l ci ca cn (fnIn qual doc pm ctv c' ci ca cn) oc lo oi oa on news) b) :
    InCtr (d + 1) (u + 16) f (ledIn f c' D l ci ca cn (fnIn qual doc pm ctv c' ci ca cn) oc lo oi oa on news) n := by
  intro x Li Ri j hLi hRi hx0 hx1 vs ns hvs hjn hns4 t1 t2 t3
  intro w p loose mean mg mb dp un gd cnF cs aF ccd clF outer A₀ base h₀ L m s Q E B F X N T hk hdp hun hret
  have hx16 : x < 16 := Int.lt_of_lt_of_le hx1 (by
    have : (2:Int) ^ n ≤ 2 ^ 4 := by exact_mod_cast Nat.pow_le_pow_right (by decide) hn4
    simpa using this)
  obtain ⟨M, hM⟩ : ∃ M : Int, M = Li + a := ⟨_, rfl⟩
  obtain ⟨U, hU⟩ : ∃ U : Int, U = x / 2 ^ a := ⟨_, rfl⟩
  obtain ⟨V, hV⟩ : ∃ V : Int, V = U * 2 ^ a := ⟨_, rfl⟩
  obtain ⟨W, hW⟩ : ∃ W : Int, W = x % 2 ^ a := ⟨_, rfl⟩
  have hsh : ((M - Li) * 1).toNat = a := by omega
  have e1 : (Li + Ri).fdiv (2 ^ (1 : Int).toNat) = M := by
    show (Li + Ri).fdiv 2 = M
    rw [Int.fdiv_eq_ediv_of_nonneg _ (by decide)]; omega
  have e2 : x.fdiv (2 ^ ((M - Li) * 1).toNat) = U := by
    rw [hsh, Int.fdiv_eq_ediv_of_nonneg _ (Int.le_of_lt (Int.pow_pos (by decide))), hU]
  have e3 : U * (2 ^ ((M - Li) * 1).toNat) = V := by rw [hsh, hV]
  have e4 : Builtin.bitXor x V = W := by rw [hV, hU, hW]; exact xor_low hx0 hx16 ha1 ha2
  have hp : (0:Int) < 2 ^ a := Int.pow_pos (by decide)
  have hU0 : 0 ≤ U := by rw [hU]; exact Int.ediv_nonneg hx0 (Int.le_of_lt hp)
  have hU1 : U < 2 ^ b := by rw [hU]; exact shr_lt (hab ▸ hx1)
  have hU2 : U ≤ x := by rw [hU]; exact Int.ediv_le_self _ hx0
  have hU3 : U.natAbs < 2 ^ 64 := by omega
  have hW0 : 0 ≤ W := by rw [hW]; exact Int.emod_nonneg _ (Int.ne_of_gt hp)
  have hW1 : W < 2 ^ a := by rw [hW]; exact Int.emod_lt_of_pos _ hp
  have hne : Li + 1 ≠ Ri := by omega
  have hs0 : 0 ≤ (M - Li) * 1 := by omega
  have hs1 : (M - Li) * 1 ≤ 1000000 := by omega
  have hMj : M = ((j + a : Nat) : Int) := by omega
  have hRb : Ri = M + b := by omega
  k_with_none
  k_with "eq!" => (k_dflt (first | refine eqT (by assumption) ?_ | refine eqF (by assumption) ?_))
  k_with "shr!" => (k_dflt (first | refine shrE (by decide) e1 ?_ | refine shrE (by assumption) e2 ?_))
  k_with "shl!" => (k_dflt (refine shlE (by assumption) (by assumption) (by assumption) e3 ?_))
  k_with "xor!" => (k_dflt (refine xorE e4 ?_))
  k_with "call ref!" => ((try dsimp only [List.nil_append]); first | ((with_reducible show wpAny _ _ (call (Value.ref _) [Value.int _ _, Value.int _ _, Value.int _ _]) _ _ _); k_dflt (refine' Ctr.use ?k1 ?k2 ?k3 ?k4 ?k5 ?kK (IHa W Li M j hLi hM hW0 hW1 _ _ ?hi ?hl ?h4 _ _ _) ?kd ?ku ?_; (case k1 => k_asm); (case k2 => k_asm); (case k3 => k_asm); (case k4 => k_asm); (case k5 => k_asm); (case kK => first | exact rfl | assumption); (case hi => assumption); (case hl => omega); (case h4 => assumption); (case kd => ktr_room); (case ku => ktr_units)); intro vs1 ns1 h9 tk9 I9 B9 F9 N9; (try dsimp only); (try k_fold)) | ((with_reducible show wpAny _ _ (call (Value.ref _) [Value.int _ _, Value.int _ _, Value.int _ _]) _ _ _); k_dflt (refine' Ctr.use ?k1 ?k2 ?k3 ?k4 ?k5 ?kK (IHb U M Ri (j + a) hMj hRb hU0 hU1 _ _ ?hi ?hl ?h4 _ _ _) ?kd ?ku ?_; (case k1 => k_asm); (case k2 => k_asm); (case k3 => k_asm); (case k4 => k_asm); (case k5 => k_asm); (case kK => first | exact rfl | assumption); (case hi => assumption); (case hl => (have := B9.1; omega)); (case h4 => (have := B9.1; omega)); (case kd => ktr_room); (case ku => ktr_units)); intro vs2 ns2 h8 tk8 I8 B8 F8 N8; (try dsimp only); (try k_fold)))
  refine wpAny_call ?_
  k_dflt (refine' code_nest ?k1 ?k2 ?k3 ?k4 ?k5 ?kA ?kF ?kK ?k6 ?k7 ?k8 ?k9 ?kB ?_ ?c2 ?c3 ?c4 ?c5; (case kA => exact rfl); (case kF => exact rfl); (case kK => first | exact rfl | assumption); (case k1 => k_asm); (case k2 => k_asm); (case k3 => k_asm); (case k4 => k_asm); (case k5 => k_asm); (case k6 => k_mem); (case k7 => exact codeRec_news (by k_asm) (by k_mem) (by assumption) (by assumption)); (case k8 => ktr_room); (case k9 => exact BindsTo.of_eq rfl); (case c5 => decide); (case kB => exact locs rfl); (case c2 => exact rfl); (case c3 => exact rfl); (case c4 => exact rfl); k_whole; intro g' L' h' FG' F' N' B' X' T'; (try dsimp only [inPs, inBody, inSc, inAll, keepI]); (try k_lift B'); (try k_fold))
  have C40 : CodeHd g' 44 40 := codeHd_of_K X' (by kernel_rfl)
  k_steps
  all_goals exact hret _ _ _ _ (by assumption) (BitsAt.two' hab hx0 hW hU (by assumption) (by assumption)) (by k_asm) (by k_asm)
theorem InCtr.mono {d u d' u' : Nat} {led : List Value → List (Addr × Obj)} {n : Nat} (h : InCtr d u f led n) (hd : d ≤ d') (hu : u ≤ u') : InCtr d' u' f led n := by
  intro x Li Ri j hLi hRi hx0 hx1 vs ns hvs hjn hns4 t1 t2 t3
  intro w p loose mean mg mb dp un gd cnF cs aF ccd clF outer A₀ base h₀ L m s Q E B F X N T hk hdp hun hret
  exact h x Li Ri j hLi hRi hx0 hx1 vs ns hvs hjn hns4 t1 t2 t3 _ _ _ _ _ _ _ _ _ _ _ _ _ _ _ _ _ _ _ _ _ _ _ B F X N T hk (by omega) (by omega) hret
theorem in_all (hoi : oi.data = .cell (some (.ref f))) (hoa : oa.data = .cell (some (.ref D))) (hon : on.data = .cell (some (.int 1 tn))) (hoc : oc.data = .fields cvs) (hcv : cvs[1]? = some (.str qual t'))
    (l1 : D < f ∧ D ≠ c' ∧ l < D ∧ ci < D ∧ ca < D ∧ cn < D ∧ AllLt D news) (n : Nat) (h1 : 1 ≤ n) (h4 : n ≤ 4) : InCtr 6 64 f (ledIn f c' D l ci ca cn (fnIn qual doc pm ctv c' ci ca cn) oc lo oi oa on news) n := by
  have i1 : InCtr 3 16 f (ledIn f c' D l ci ca cn (fnIn qual doc pm ctv c' ci ca cn) oc lo oi oa on news) 1 := fun x Li Ri j hLi hRi hx0 hx1 vs ns hvs hjn hns4 t1 t2 t3 =>
    in_leaf hoi hoa hon hoc hcv l1 x Li Ri j hLi hRi hx0 hx1 vs ns hvs hjn hns4 t1 t2 t3
  have i2 := in_split hoi hoa hon hoc hcv 2 1 1 3 16 rfl (by decide) (by decide) (by decide) (by decide) i1 i1
  have i3 := in_split hoi hoa hon hoc hcv 3 1 2 4 32 rfl (by decide) (by decide) (by decide) (by decide) (i1.mono (by decide) (by decide)) i2
  have i4 := in_split hoi hoa hon hoc hcv 4 2 2 4 32 rfl (by decide) (by decide) (by decide) (by decide) i2 i2
  have : n = 1 ∨ n = 2 ∨ n = 3 ∨ n = 4 := by omega
  rcases this with rfl | rfl | rfl | rfl
  · exact i1.mono (by decide) (by decide)
  · exact i2.mono (by decide) (by decide)
  · exact i3.mono (by decide) (by decide)
  · exact i4.mono (by decide) (by decide)
end
abbrev keepS (scope : Scope) {oc dV kV doc pm cdv ct : Value} {od an : Option Addr} {name qual : Str} {params : Arguments} {b : List Stmt} {osl : Array (Option Value)} {w : World} (_ : (top.heap_39 w.params).lookup 45 = some ⟨oc, od, .func (fnOf name qual params b scope dV kV doc pm an cdv ct), osl⟩) : Scope := scope
def digSc (w : World) : Scope := by
  exact keepS _ (w := w) (by k_is)
abbrev keepT (sc : Scope) (_ : ∀ w, digSc w = sc) : Scope := sc
def digS : Scope := by
  exact keepT _ (fun _ => rfl)
/-- the code object of inner, made at the first call -/
def CodeIn (oc : Obj) : Prop := ∃ cvs L t, oc.data = .fields cvs ∧ cvs[1]? = some (.str (qualnameIn (envOfC (Str.ofString "_int2digits") digS L 45 (.ref 44)) (Str.ofString "inner") (Str.ofString "inner")) t)
abbrev tabG (c' : Addr) : Obj := tabObj #[rawInt 9, rawInt 4, .ref c']
abbrev retDig (rest : List (Addr × Obj)) (v : Int) (n : Nat) (_w : World) (h₀ : Heap) (L : Addr) (m : Str → Option Value) (s : Shared) (Q : Value → Shared → Prop) : Prop :=
  ∀ (D c' : Nat) (oc : Obj) (vs : List Value) (ns : List Int) (h' : Heap) (tk' : Nat), IntsAre vs ns → BitsAt (List.replicate n 0) ns 0 n v → CodeIn oc → Fr h₀ L h' m → News h₀ L h' ((D, listOf vs.toArray 0) :: (c', oc) :: (40, tabG c') :: rest) → (∀ p ∈ rest, p.1 < D) → (∀ p ∈ rest, p.1 ≠ c') → 40 < D → D ≠ c' → c' ≠ 40 → Q (.ref D) { s with heap := h', toks := tk' }
theorem ints_rep (t : Tok) : ∀ n : Nat, IntsAre (List.replicate n (.int 0 t)) (List.replicate n 0)
  | 0 => .nil
  | n + 1 => by rw [List.replicate_succ, List.replicate_succ]; exact .cons 0 t (ints_rep t n)
theorem flat_rep (x : Value) : ∀ n : Nat, (List.replicate n [x]).flatten = List.replicate n x
  | 0 => rfl
  | n + 1 => by rw [List.replicate_succ, List.replicate_succ, List.flatten_cons, flat_rep x n]; rfl
theorem hz6 {P1 P2 P3 P4 P5 P6 R : Prop} (h : P1 ∧ P2 ∧ P3 ∧ P4 ∧ P5 ∧ P6 ∧ R) : R := h.2.2.2.2.2.2
theorem hz5 {P1 P2 P3 P4 P5 R : Prop} (h : P1 ∧ P2 ∧ P3 ∧ P4 ∧ P5 ∧ R) : R := h.2.2.2.2.2
section
variable {w : World} {A : Around} {E : Value → Shared → Prop} {s : Shared} {t u : Tok} {Q : Value → Shared → Prop} {x y r : Int}
theorem len_rep {h₀ : Heap} {L D : Addr} {n k : Nat} {x : Value} {news : List (Addr × Obj)} (N : News h₀ L s.heap news) (hm : (D, listOf (List.replicate n x).toArray k) ∈ news) (hn : n ≤ 4) (h : Q (.int n (s.toks + 1)) { s with toks := s.toks + 1 + 1 }) :
    wpAny (model PG w) A (call (.builtin "len") [.ref D]) Q E s := KM.len_K N hm (by simp) (by omega) h
theorem truT {Q : Bool → Shared → Prop} (hx : x ≠ 0) (h : Q true s) : wpAny (model PG w) A (truthy (.int x t)) Q E s := truthy_int (by rw [show (x != 0) = true from bne_iff_ne.mpr hx]; exact h)
end
theorem hit_perm {h₀ h : Heap} {L f c' D l ci ca cn : Addr} {fo oc X lo oi oa on : Obj} {rest : List (Addr × Obj)} (N : News h₀ L h ((f, fo) :: (D, X) :: (l, lo) :: (ci, oi) :: (ca, oa) :: (cn, on) :: (c', oc) :: rest)) :
    News h₀ L h ((f, fo) :: (c', oc) :: (D, X) :: (l, lo) :: (ci, oi) :: (ca, oa) :: (cn, on) :: rest) := cb_drop N (by kcj_all)
theorem dig_end {h₀ h : Heap} {L f c' D l ci ca cn : Addr} {fo oc X lo oi oa on T : Obj} {rest : List (Addr × Obj)} (N : News h₀ L h ((f, fo) :: (c', oc) :: (D, X) :: (l, lo) :: (ci, oi) :: (ca, oa) :: (cn, on) :: (40, T) :: rest)) :
    News h₀ L h ((D, X) :: (c', oc) :: (40, T) :: rest) := cb_drop N (by kcj_all)
theorem dig_0 (v : Int) (n : Nat) (hb : Builtin.Int.intBits v = n) (h1 : 1 ≤ n) (h4 : n ≤ 4) (hv0 : 1 ≤ v) (hv1 : v < 2 ^ n) (news : List (Addr × Obj)) (h40 : ∀ p ∈ news, p.1 ≠ 40) (t1 t2 : Tok) :
    Ctr 45 8 96 [.int v t1, .int 1 t2] ((40, tabObj #[]) :: news) (retDig news v n) := by
  intro w p loose mean mg mb dp un gd cnF cs aF ccd clF outer A₀ base h₀ L m s Q E B F X N T hk hdp hun hret
  have hv00 : 0 ≤ v := by omega
  have hvz : v ≠ 0 := by omega
  have hb' : ((Builtin.Int.intBits v : Nat) : Int) = n := by rw [hb]
  have hk1 : -(2 ^ 63 : Int) ≤ ((n : Int) + 1 - 1) := by omega
  have hk2 : ((n : Int) + 1 - 1) < 2 ^ 63 := by omega
  have hk3 : ((n : Int) + 1 - 1).toNat = n := by omega
  k_with_none
  k_with "mul!" => (k_dflt (refine' KMa.mul ?F ?N ?l ?lo ?hi ?z ?e ?_; (case F => k_asm); (case N => k_asm); (case l => is_list); (case lo => assumption); (case hi => assumption); (case z => (rw [hk3]; show 1 * n ≤ 256; omega)); (case e => exact (congrArg (fun k => (List.replicate k [_]).flatten) hk3).trans (flat_rep _ n)); k_whole); intro D' h' F' N' l1; (try k_lt l1); (try k_sweep))
  k_with "blen!" => (k_dflt (refine blen hb' ?_))
  k_with "div!" => (k_dflt (refine divOne ?_))
  k_with "call ref!" => ((try dsimp only [List.nil_append]); ((with_reducible show wpAny _ _ (call (Value.ref _) [Value.int _ _, Value.int _ _, Value.int _ _]) _ _ _); k_dflt (refine' Ctr.use ?k1 ?k2 ?k3 ?k4 ?k5 ?kK (in_all ?a1 ?a2 ?a3 ?a4 ?a5 ?a6 n h1 h4 v 0 n 0 rfl (by omega) hv00 hv1 _ _ ?hi ?hl ?hl4 _ _ _) ?kd ?ku ?_; (case k1 => k_asm); (case k2 => k_asm); (case k3 => k_asm); (case k4 => k_asm); (case k5 => k_asm); (case kK => first | exact rfl | assumption); (case a1 => assumption); (case a2 => assumption); (case a3 => assumption); (case a4 => assumption); (case a5 => assumption); (case a6 => exact ⟨by omega, by omega, by omega, by omega, by omega, by omega, by omega, hz5 (by assumption)⟩); (case hi => exact ints_rep _ n); (case hl => simp); (case hl4 => (simp; omega)); (case kd => ktr_room); (case ku => ktr_units)); intro vs1 ns1 h9 tk9 I9 B9 F9 N9; (try dsimp only); (try k_fold)))
  k_with "len!" => (k_dflt (refine len_rep (by k_asm) (by k_mem) h4 ?_))
  k_with "tru!" => (k_dflt (refine truT hvz ?_))
  refine wpAny_call ?_
  k_dflt (refine' code_defC ?k1 ?k2 ?k3 ?k4 ?k5 ?kA ?kF ?kK ?k6 ?k7 ?k8 ?k9 ?kB ?kD ?_ ?c2 ?c3 ?c4; (case kA => exact rfl); (case kF => exact rfl); (case kK => first | exact rfl | assumption); (case k1 => k_asm); (case k2 => k_asm); (case k3 => k_asm); (case k4 => k_asm); (case k5 => k_asm); (case k6 => k_is); (case k7 => k_is); (case k8 => ktr_room); (case k9 => first | exact BindsTo.of_eq rfl | exact binds_K (by k_in) rfl (by k_is) rfl rfl rfl); (case kB => exact rfl); (case kD => decide +kernel); (case c2 => exact rfl); (case c3 => exact rfl); (case c4 => exact rfl); k_whole; intro g' L' h' tk' cells' FG' F' N' Y' B' X' T' l1; (try k_lt l1); k_cells Y'; (try simp only [List.cons_append, List.nil_append] at N'); (try dsimp only); (try k_lift B'); (try k_fold))
  have C40 : CodeHd g' 44 40 := codeHd_of_K X' (by kernel_rfl)
  k_steps
  all_goals exact hret _ _ _ _ _ _ _ (by assumption) (by assumption) ⟨_, _, _, by assumption, by assumption⟩ (by k_asm) (dig_end (by assumption)) (by (first | exact lt1 (by assumption) | exact lt2 (by assumption) | exact lt6 (by assumption))) (by k_all) (by omega) (by omega) (by omega)
theorem dig_1 (v : Int) (n : Nat) (hb : Builtin.Int.intBits v = n) (h1 : 1 ≤ n) (h4 : n ≤ 4) (hv0 : 1 ≤ v) (hv1 : v < 2 ^ n) (c₀ : Nat) (oc₀ : Obj) (hc40 : c₀ ≠ 40) (hC : CodeIn oc₀) (news : List (Addr × Obj)) (h40 : ∀ p ∈ news, p.1 ≠ 40) (hcn : ∀ p ∈ news, p.1 ≠ c₀) (t1 t2 : Tok) :
    Ctr 45 8 96 [.int v t1, .int 1 t2] ((c₀, oc₀) :: (40, tabG c₀) :: news) (retDig news v n) := by
  intro w p loose mean mg mb dp un gd cnF cs aF ccd clF outer A₀ base h₀ L m s Q E B F X N T hk hdp hun hret
  obtain ⟨cvs0, L0, t0, hC1, hC2⟩ := hC
  have hv00 : 0 ≤ v := by omega
  have hvz : v ≠ 0 := by omega
  have hb' : ((Builtin.Int.intBits v : Nat) : Int) = n := by rw [hb]
  have hk1 : -(2 ^ 63 : Int) ≤ ((n : Int) + 1 - 1) := by omega
  have hk2 : ((n : Int) + 1 - 1) < 2 ^ 63 := by omega
  have hk3 : ((n : Int) + 1 - 1).toNat = n := by omega
  k_with_none
  k_with "mul!" => (k_dflt (refine' KMa.mul ?F ?N ?l ?lo ?hi ?z ?e ?_; (case F => k_asm); (case N => k_asm); (case l => is_list); (case lo => assumption); (case hi => assumption); (case z => (rw [hk3]; show 1 * n ≤ 256; omega)); (case e => exact (congrArg (fun k => (List.replicate k [_]).flatten) hk3).trans (flat_rep _ n)); k_whole); intro D' h' F' N' l1; (try k_lt l1); (try k_sweep))
  k_with "blen!" => (k_dflt (refine blen hb' ?_))
  k_with "div!" => (k_dflt (refine divOne ?_))
  k_with "call ref!" => ((try dsimp only [List.nil_append]); ((with_reducible show wpAny _ _ (call (Value.ref _) [Value.int _ _, Value.int _ _, Value.int _ _]) _ _ _); k_dflt (refine' Ctr.use ?k1 ?k2 ?k3 ?k4 ?k5 ?kK (in_all ?a1 ?a2 ?a3 ?a4 ?a5 ?a6 n h1 h4 v 0 n 0 rfl (by omega) hv00 hv1 _ _ ?hi ?hl ?hl4 _ _ _) ?kd ?ku ?_; (case k1 => k_asm); (case k2 => k_asm); (case k3 => k_asm); (case k4 => exact hit_perm (by assumption)); (case k5 => k_asm); (case kK => first | exact rfl | assumption); (case a1 => assumption); (case a2 => assumption); (case a3 => assumption); (case a4 => assumption); (case a5 => assumption); (case a6 => exact ⟨by omega, by omega, by omega, by omega, by omega, by omega, by omega, hz6 (by assumption)⟩); (case hi => exact ints_rep _ n); (case hl => simp); (case hl4 => (simp; omega)); (case kd => ktr_room); (case ku => ktr_units)); intro vs1 ns1 h9 tk9 I9 B9 F9 N9; (try dsimp only); (try k_fold)))
  k_with "len!" => (k_dflt (refine len_rep (by k_asm) (by k_mem) h4 ?_))
  k_with "tru!" => (k_dflt (refine truT hvz ?_))
  refine wpAny_call ?_
  k_dflt (refine' code_defC ?k1 ?k2 ?k3 ?k4 ?k5 ?kA ?kF ?kK ?k6 ?k7 ?k8 ?k9 ?kB ?kD ?_ ?c2 ?c3 ?c4; (case kA => exact rfl); (case kF => exact rfl); (case kK => first | exact rfl | assumption); (case k1 => k_asm); (case k2 => k_asm); (case k3 => k_asm); (case k4 => k_asm); (case k5 => k_asm); (case k6 => k_is); (case k7 => k_is); (case k8 => ktr_room); (case k9 => first | exact BindsTo.of_eq rfl | exact binds_K (by k_in) rfl (by k_is) rfl rfl rfl); (case kB => exact rfl); (case kD => decide +kernel); (case c2 => exact rfl); (case c3 => exact rfl); (case c4 => exact rfl); k_whole; intro g' L' h' tk' cells' FG' F' N' Y' B' X' T' l1; (try k_lt l1); k_cells Y'; (try simp only [List.cons_append, List.nil_append] at N'); (try dsimp only); (try k_lift B'); (try k_fold))
  have C40 : CodeHd g' 44 40 := codeHd_of_K X' (by kernel_rfl)
  k_steps
  all_goals exact hret _ _ _ _ _ _ _ (by assumption) (by assumption) ⟨_, _, _, by assumption, by assumption⟩ (by k_asm) (dig_end (by assumption)) (by (first | exact lt1 (by assumption) | exact lt2 (by assumption) | exact lt6 (by assumption) | exact lt7 (by assumption))) (by k_all) (by omega) (by omega) (by omega)
end
end PartDig
section PartDig2
set_option rowWalk.seconds 0
section
/-- the code table of _int2digits, empty or with inner's code -/
def TabOn (TN news : List (Addr × Obj)) : Prop := TN = (40, tabObj #[]) :: news ∨ ∃ (c : Nat) (oc : Obj), CodeIn oc ∧ c ≠ 40 ∧ (∀ p ∈ news, p.1 ≠ c) ∧ TN = (c, oc) :: (40, tabG c) :: news
theorem TabOn.lt {TN news : List (Addr × Obj)} {d : Nat} (h : TabOn TN news) (hl : ∀ p ∈ TN, p.1 < d) : 40 < d := by
  rcases h with rfl | ⟨c, oc, _, _, _, rfl⟩
  · exact hl _ (.head _)
  · exact hl _ (.tail _ (.head _))
/-- the bits of v, the lowest first -/
def bitsOf (v : Int) : List Int := (List.range (Builtin.Int.intBits v)).map fun j => v / 2 ^ j % 2
theorem bits_eq {v : Int} {n : Nat} {ns : List Int} (hb : Builtin.Int.intBits v = n) (h : BitsAt (List.replicate n 0) ns 0 n v) : ns = bitsOf v := by
  unfold bitsOf
  rw [hb]
  have hl : ns.length = n := by rw [h.1, List.length_replicate]
  apply List.ext_getElem?
  intro j
  by_cases hj : j < n
  · rw [h.2 j (by rw [List.length_replicate]; exact hj), if_pos (by omega), List.getElem?_map, List.getElem?_range hj]
    rfl
  · rw [List.getElem?_eq_none (by omega), List.getElem?_eq_none (by simp; omega)]
theorem bits_n {v : Int} (h : 1 ≤ v ∧ v ≤ 15) : 1 ≤ Builtin.Int.intBits v ∧ Builtin.Int.intBits v ≤ 4 ∧ v < 2 ^ Builtin.Int.intBits v := by
  have key : ∀ k : Fin 15, 1 ≤ Builtin.Int.intBits (k.val + 1 : Nat) ∧ Builtin.Int.intBits (k.val + 1 : Nat) ≤ 4 ∧ ((k.val + 1 : Nat) : Int) < 2 ^ Builtin.Int.intBits (k.val + 1 : Nat) := by decide +kernel
  have k := key ⟨(v - 1).toNat, by omega⟩
  have e : (((v - 1).toNat + 1 : Nat) : Int) = v := by omega
  simp only at k
  rw [e] at k
  exact k
abbrev retD (own news : List (Addr × Obj)) (v : Int) (_w : World) (h₀ : Heap) (L : Addr) (m : Str → Option Value) (s : Shared) (Q : Value → Shared → Prop) : Prop :=
  ∀ (D : Nat) (vs : List Value) (TN' : List (Addr × Obj)) (h' : Heap) (tk' : Nat), IntsAre vs (bitsOf v) → TabOn TN' news → (∀ q ∈ own, ∀ p ∈ TN', p.1 ≠ q.1) → (∀ p ∈ own, p.1 < D) → (∀ p ∈ TN', p.1 ≠ D) → Fr h₀ L h' m → News h₀ L h' ((D, listOf vs.toArray 0) :: (own ++ TN')) → Q (.ref D) { s with heap := h', toks := tk' }
theorem dig (v : Int) (hv : 1 ≤ v ∧ v ≤ 15) (own news TN : List (Addr × Obj)) (hT : TabOn TN news) (ho : ∀ q ∈ own, ∀ p ∈ TN, p.1 ≠ q.1) (hn : ∀ p ∈ news, p.1 ≠ 40) (t1 t2 : Tok) :
    Ctr 45 8 96 [.int v t1, .int 1 t2] (own ++ TN) (retD own news v) := by
  intro w p loose mean mg mb dp un gd cnF cs aF ccd clF outer A₀ base h₀ L m s Q E B F X N T hk hdp hun hret
  obtain ⟨n1, n4, nv⟩ := bits_n hv
  rcases hT with rfl | ⟨c, oc, hC, hc, hcn, rfl⟩
  · have h40 : ∀ p ∈ own ++ news, p.1 ≠ 40 := fun p hp => by
      rcases List.mem_append.mp hp with hp | hp
      · exact (ho p hp _ (.head _)).symm
      · exact hn p hp
    refine dig_0 v _ rfl n1 n4 hv.1 nv (own ++ news) h40 t1 t2 _ _ _ _ _ _ _ _ _ _ _ _ _ _ _ _ _ _ _ _ _ _ _ B F X (fun p hp => N p ?_) T hk hdp hun ?_
    · rcases List.mem_cons.mp hp with rfl | hp
      · exact List.mem_append_right _ (.head _)
      · rcases List.mem_append.mp hp with hp | hp
        · exact List.mem_append_left _ hp
        · exact List.mem_append_right _ (.tail _ hp)
    · intro D c oc vs ns h' tk' hi hb hC F' N' hl hc h4 hDc hc4
      refine hret D vs ((c, oc) :: (40, tabG c) :: news) h' tk' (bits_eq rfl hb ▸ hi) (.inr ⟨c, oc, hC, hc4, fun p hp => hc p (List.mem_append_right _ hp), rfl⟩) ?_ (fun p hp => hl p (List.mem_append_left _ hp)) ?_ F' (fun p hp => N' p ?_)
      · intro q hq p hp
        rcases List.mem_cons.mp hp with rfl | hp
        · exact (hc q (List.mem_append_left _ hq)).symm
        · rcases List.mem_cons.mp hp with rfl | hp
          · exact (h40 q (List.mem_append_left _ hq)).symm
          · exact ho q hq p (.tail _ hp)
      · intro p hp
        rcases List.mem_cons.mp hp with rfl | hp
        · exact hDc.symm
        · rcases List.mem_cons.mp hp with rfl | hp
          · exact Nat.ne_of_lt h4
          · exact Nat.ne_of_lt (hl p (List.mem_append_right _ hp))
      · rcases List.mem_cons.mp hp with rfl | hp
        · exact .head _
        · rcases List.mem_append.mp hp with hp | hp
          · exact .tail _ (.tail _ (.tail _ (List.mem_append_left _ hp)))
          · rcases List.mem_cons.mp hp with rfl | hp
            · exact .tail _ (.head _)
            · rcases List.mem_cons.mp hp with rfl | hp
              · exact .tail _ (.tail _ (.head _))
              · exact .tail _ (.tail _ (.tail _ (List.mem_append_right _ hp)))
  · have h40 : ∀ p ∈ own ++ news, p.1 ≠ 40 := fun p hp => by
      rcases List.mem_append.mp hp with hp | hp
      · exact (ho p hp _ (.tail _ (.head _))).symm
      · exact hn p hp
    have hcc : ∀ p ∈ own ++ news, p.1 ≠ c := fun p hp => by
      rcases List.mem_append.mp hp with hp | hp
      · exact (ho p hp _ (.head _)).symm
      · exact hcn p hp
    refine dig_1 v _ rfl n1 n4 hv.1 nv c oc hc hC (own ++ news) h40 hcc t1 t2 _ _ _ _ _ _ _ _ _ _ _ _ _ _ _ _ _ _ _ _ _ _ _ B F X (fun p hp => N p ?_) T hk hdp hun ?_
    · rcases List.mem_cons.mp hp with rfl | hp
      · exact List.mem_append_right _ (.head _)
      · rcases List.mem_cons.mp hp with rfl | hp
        · exact List.mem_append_right _ (.tail _ (.head _))
        · rcases List.mem_append.mp hp with hp | hp
          · exact List.mem_append_left _ hp
          · exact List.mem_append_right _ (.tail _ (.tail _ hp))
    · intro D c oc vs ns h' tk' hi hb hC F' N' hl hc h4 hDc hc4
      refine hret D vs ((c, oc) :: (40, tabG c) :: news) h' tk' (bits_eq rfl hb ▸ hi) (.inr ⟨c, oc, hC, hc4, fun p hp => hc p (List.mem_append_right _ hp), rfl⟩) ?_ (fun p hp => hl p (List.mem_append_left _ hp)) ?_ F' (fun p hp => N' p ?_)
      · intro q hq p hp
        rcases List.mem_cons.mp hp with rfl | hp
        · exact (hc q (List.mem_append_left _ hq)).symm
        · rcases List.mem_cons.mp hp with rfl | hp
          · exact (h40 q (List.mem_append_left _ hq)).symm
          · exact ho q hq p (.tail _ (.tail _ hp))
      · intro p hp
        rcases List.mem_cons.mp hp with rfl | hp
        · exact hDc.symm
        · rcases List.mem_cons.mp hp with rfl | hp
          · exact Nat.ne_of_lt h4
          · exact Nat.ne_of_lt (hl p (List.mem_append_right _ hp))
      · rcases List.mem_cons.mp hp with rfl | hp
        · exact .head _
        · rcases List.mem_append.mp hp with hp | hp
          · exact .tail _ (.tail _ (.tail _ (List.mem_append_left _ hp)))
          · rcases List.mem_cons.mp hp with rfl | hp
            · exact .tail _ (.head _)
            · rcases List.mem_cons.mp hp with rfl | hp
              · exact .tail _ (.tail _ (.head _))
              · exact .tail _ (.tail _ (.tail _ (List.mem_append_right _ hp)))
end
end PartDig2
section PartRows
set_option rowWalk.seconds 0
section
/-- the sign of a bit -/
def sgn (b : Int) : Nat := if b = 1 then 45 else 46
def signs (v : Int) : List Nat := (bitsOf v).map sgn
/-- how a row ends -/
def ends (x : Int) : List Nat := if x / 15 % 3 = 0 then [10] else if x / 15 % 3 = 1 then [13] else [13, 10]
/-- the row of a number -/
def rowOf (x : Int) : List Nat × List Nat := (signs (x % 15 + 1), ends x)
def rowTx (x : Int) : Str := tx ((rowOf x).1 ++ (rowOf x).2)
theorem rule_ok {x : Int} : 1 ≤ x % 15 + 1 ∧ x % 15 + 1 ≤ 15 := by omega
theorem signs_len {v : Int} (h : 1 ≤ v ∧ v ≤ 15) : 1 ≤ (signs v).length ∧ (signs v).length ≤ 4 := by
  have := bits_n h
  unfold signs bitsOf
  simp
  omega
theorem ends_len (x : Int) : (ends x).length ≤ 2 := by unfold ends; split <;> (try split) <;> decide
theorem sgn_is (b : Int) : sgn b = 45 ∨ sgn b = 46 := by unfold sgn; split <;> simp
theorem row_ok (x : Int) : Re.rowOk (rowOf x) := by
  refine ⟨fun e => ?_, fun c hc => ?_, ?_⟩
  · have := signs_len (v := x % 15 + 1) rule_ok
    have e2 : signs (x % 15 + 1) = [] := e
    rw [e2] at this
    simp at this
  · have hc' : c ∈ signs (x % 15 + 1) := hc
    unfold signs at hc'
    obtain ⟨b, _, rfl⟩ := List.mem_map.mp hc'
    exact sgn_is b
  · show Re.isEnd (ends x)
    unfold ends Re.isEnd
    split <;> (try split) <;> simp
theorem signs_sum {v : Int} (h : 1 ≤ v ∧ v ≤ 15) : (((bitsOf v).map fun b => [sgn b]).map (·.length)).sum + ((bitsOf v).map fun b => [sgn b]).length ≤ 1048576 := by
  have := bits_n h
  have e : ((bitsOf v).map fun b => [sgn b]).map (·.length) = List.replicate (bitsOf v).length 1 := by
    rw [List.map_map]
    exact List.eq_replicate_iff.mpr ⟨by simp, by simp⟩
  rw [e, List.sum_replicate_nat]
  have : (bitsOf v).length ≤ 4 := by unfold bitsOf; simp; omega
  simp
  omega
theorem row_small (x : Int) : (signs (x % 15 + 1)).length + (ends x).length ≤ 1000 := by
  have := signs_len (v := x % 15 + 1) rule_ok
  have := ends_len x
  omega
theorem bits_fit {vs : List Value} {v : Int} (h : IntsAre vs (bitsOf v)) (hv : 1 ≤ v ∧ v ≤ 15) : vs.toArray.size ≤ sizeLine := by
  have e := h.length
  have := bits_n hv
  have : (bitsOf v).length ≤ 4 := by unfold bitsOf; simp; omega
  refine Nat.le_trans ?_ (by decide : 4 ≤ sizeLine)
  simp
  omega
theorem bit_is {v b : Int} (h : b ∈ bitsOf v) : b = 0 ∨ b = 1 := by
  unfold bitsOf at h
  obtain ⟨j, _, rfl⟩ := List.mem_map.mp h
  omega
theorem ints_at {vs : List Value} {ns : List Int} (h : IntsAre vs ns) : ∀ {i : Nat} {v : Value}, vs[i]? = some v → ∃ n t, ns[i]? = some n ∧ v = .int n t := by
  induction h with
  | nil => intro i v h; simp at h
  | cons n t h ih =>
    intro i v hv
    cases i with
    | zero => simp at hv; subst hv; exact ⟨n, t, rfl, rfl⟩
    | succ i => simp at hv; simpa using ih hv
theorem flat_ones (l : List Int) : (l.map fun b => [sgn b]).flatten = l.map sgn := by
  induction l with
  | nil => rfl
  | cons b r ih => simp [ih]
section
variable {w : World} {A : Around} {E : Value → Shared → Prop} {s : Shared} {t u : Tok} {Q : Value → Shared → Prop} {h₀ : Heap} {L D : Addr} {news : List (Addr × Obj)}
theorem join_tx {ys : List Value} {ls : List (List Nat)} {r : List Nat} {k : Nat} (e₀ : ls.flatten = r) (N : News h₀ L s.heap news) (hm : (D, listOf ys.toArray k) ∈ news) (hy : StrsAre ys (ls.map tx)) (hz : (ls.map (·.length)).sum + ls.length ≤ 1048576)
    (h : ∀ t' k, Q (.str (tx r) t') { s with toks := k }) : wpAny (model PG w) A (call (.builtin "str.join") [.str (Str.ofString "") t, .ref D]) Q E s := by
  subst e₀
  refine join_listW (News.isList N hm) (by simpa using hy) (by decide +kernel) ?_ ?_
  · rw [List.map_map, List.length_map]
    have : ((fun (x : Str) => x.length) ∘ tx) = fun l : List Nat => l.length := by funext l; exact tx_len l
    rw [this]; exact hz
  · have e : Txt.join (Str.ofString "") (ls.map tx) = tx ls.flatten := by
      show Builtin.Str.glued _ _ = _
      rw [StrLaws.glued_eq_join]
      have hs : Str.ofString "" = ⟨#[]⟩ := by decide +kernel
      rw [hs]
      clear hz h hy hm N
      induction ls with
      | nil => rfl
      | cons a r ih =>
        cases r with
        | nil => show tx a = tx (a ++ []); rw [List.append_nil]
        | cons b r' =>
          rw [List.map_cons, List.map_cons]
          show tx a ++ (⟨#[]⟩ : Str) ++ Str.join ⟨#[]⟩ (tx b :: r'.map tx) = _
          rw [← List.map_cons, ih]
          show (⟨a.toArray ++ #[] ++ (b :: r').flatten.toArray⟩ : Str) = ⟨(a ++ (b :: r').flatten).toArray⟩
          simp
    rw [e]; exact h
theorem bit_item {value slice : Expr} {b : Int} (hb : b = 0 ∨ b = 1) (h : ∀ t, Q (.str (tx [sgn b]) t) { s with toks := s.toks + 1 })
    (hs : subscripted slice false (.str (Str.ofString ".-") t) (.int b u) = operate [.str (Str.ofString ".-") t, .int b u] (getItem (.str (Str.ofString ".-") t) (.int b u)))
    (ht : ∀ r, letTemporaryGo value (.str (Str.ofString ".-") t) r = pure ()) :
    wpAny (model PG w) A (subscriptTail value slice (.str (Str.ofString ".-") t) (.int b u)) Q E s := by
  have e0 : Str.ofString ".-" = ⟨#[46, 45]⟩ := by decide +kernel
  have hl : (Str.ofString ".-").length = 2 := by rw [e0]; rfl
  refine item_str (by rcases hb with rfl | rfl <;> decide) (by rw [hl]; omega) (by rw [hl]; omega) (fun _ => ?_) hs ht
  have : Txt.item (Str.ofString ".-") b = tx [sgn b] := by rcases hb with rfl | rfl <;> decide +kernel
  rw [this]; exact h _
theorem add_tx {a b : List Nat} (hz : a.length + b.length ≤ 1000) (h : ∀ t' tk, Q (.str (tx (a ++ b)) t') { s with toks := tk }) : wpAny (model PG w) A (binaryOp .Add (.str (tx a) t) (.str (tx b) u)) Q E s := by
  refine add_str (fun t' tk => ?_) (by rw [tx_len, tx_len]; exact Nat.le_trans hz (by decide))
  have : tx a ++ tx b = tx (a ++ b) := by
    show (⟨a.toArray ++ b.toArray⟩ : Str) = ⟨(a ++ b).toArray⟩
    simp
  rw [this]; exact h t' tk
theorem end_item {value slice : Expr} {x k : Int} {n : Nat} {t1 t2 t3 : Tok} (hk : k = x / 15 % 3) (N : News h₀ L s.heap news) (hm : (D, listOf #[.str (Str.ofString "\n") t1, .str (Str.ofString "\r") t2, .str (Str.ofString "\r\n") t3] n) ∈ news) (h : ∀ t, Q (.str (tx (ends x)) t) s)
    (hs : subscripted slice false (.ref D) (.int k u) = operate [.ref D, .int k u] (getItem (.ref D) (.int k u))) (ht : ∀ r, letTemporaryGo value (.ref D) r = pure ()) :
    wpAny (model PG w) A (subscriptTail value slice (.ref D) (.int k u)) Q E s := by
  subst hk
  refine item_strsA (l := [.str (Str.ofString "\n") t1, .str (Str.ofString "\r") t2, .str (Str.ofString "\r\n") t3]) (ys := [Str.ofString "\n", Str.ofString "\r", Str.ofString "\r\n"]) (News.isList N hm) (.cons _ _ (.cons _ _ (.cons _ _ .nil))) (by omega) (by show _ < ((3 : Nat) : Int); omega) (by omega) (fun t' => ?_) hs ht
  have : ([Str.ofString "\n", Str.ofString "\r", Str.ofString "\r\n"].getD (x / 15 % 3).toNat Str.empty) = tx (ends x) := by
    have h3 : x / 15 % 3 = 0 ∨ x / 15 % 3 = 1 ∨ x / 15 % 3 = 2 := by omega
    unfold ends
    rcases h3 with e | e | e <;> rw [e] <;> decide +kernel
  rw [this]; exact h t'
theorem mod15 {x : Int} (h : Q (.int (x % 15) s.toks) { s with toks := s.toks + 1 }) : wpAny (model PG w) A (binaryOp .Mod (.int x t) (.int 15 u)) Q E s := mod_int' (by decide) (by rw [Int.fmod_eq_emod_of_nonneg _ (by decide)]; exact h)
theorem mod3 {x : Int} (h : Q (.int (x % 3) s.toks) { s with toks := s.toks + 1 }) : wpAny (model PG w) A (binaryOp .Mod (.int x t) (.int 3 u)) Q E s := mod_int' (by decide) (by rw [Int.fmod_eq_emod_of_nonneg _ (by decide)]; exact h)
theorem div15 {x : Int} (h : Q (.int (x / 15) s.toks) { s with toks := s.toks + 1 }) : wpAny (model PG w) A (binaryOp .FloorDiv (.int x t) (.int 15 u)) Q E s :=
  floordiv_int (by decide) (by rw [Int.fdiv_eq_ediv_of_nonneg _ (by decide)]; exact h) (Or.inl (PyProof.noPylong_of_log2 (by decide +kernel)))
end
section
open PyProof.Rows.LCg
variable {prog : Program} {w : World} {A : Around} {h₀ : Heap} {L : Addr} {m : Str → Option Value} {env : Env} {elt : Expr} {x : Str} {scope : Scope} {cl : List (Str × Addr)} {s : Shared} {S : List (Addr × Obj) → Prop} {Fin : List Value → List (Addr × Obj) → Prop}
/-- the comprehension of the signs -/
theorem comp_signs {vs : List Value} {ns : List Int} (hvs : IntsAre vs ns) (hb : ∀ b ∈ ns, b = 0 ∨ b = 1) {news : List (Addr × Obj)}
    (turn : ∀ b t ys I oI C oC D m₂ h tk (E' : Value → Shared → Prop), (b = 0 ∨ b = 1) → NsObj oC m₂ → m₂ x = some (.int b t) → Fr h₀ L h m → News h₀ L h ((I, oI) :: (C, oC) :: (D, lst ys) :: news) → Off3 I C D news → ((@Ne Nat I C) ∧ (@Ne Nat I D) ∧ (@Ne Nat C D)) →
      wpAny (model prog w) A (eval elt (compEnvC scope cl C env)) (CompEnd h₀ L m { s with heap := h, toks := tk } I oI C oC D (lst ys) S (fun y nx' => nx' = news ∧ ∃ t, y = .str (tx [sgn b]) t)) E' { s with heap := h, toks := tk })
    (fin : ∀ ys, StrsAre ys ((ns.map fun b => [sgn b]).map tx) → Fin ys news) : CompRest prog w A h₀ L m env elt x scope cl s S (fun i v => vs.toArray[i]? = some v) Fin vs.toArray.size 0 [] news := by
  have hl : vs.toArray.size = ns.length := by simpa using hvs.length
  rw [hl]
  refine compJ (fun i ys nx => nx = news ∧ StrsAre ys (((ns.take i).map fun b => [sgn b]).map tx)) ⟨rfl, .nil⟩ ?_ ?_
  · rintro i v ys nx I oI C oC D m₂ h tk E' hi hv ⟨rfl, hy⟩ hC hx F N off ne
    obtain ⟨b, t, hn, rfl⟩ := ints_at hvs (by simpa using hv)
    refine wpAny_mono (turn b t ys I oI C oC D m₂ h tk E' (hb b (List.mem_of_getElem? hn)) hC hx F N off ne) (fun y s₃ hq => ?_) fun _ _ e => e
    obtain ⟨h', tk', nw, e, F', N', off', hS, hn', t', hy'⟩ := hq
    refine ⟨h', tk', nw, e, F', N', off', hS, hn', ?_⟩
    rw [hy', List.take_add_one, hn]
    simp only [Option.toList_some, List.map_append, List.map_cons, List.map_nil]
    exact StrsAre.append' hy (.cons _ t' .nil)
  · rintro ys nx ⟨rfl, hy⟩
    rw [List.take_length] at hy
    exact fin ys hy
end
end
end PartRows
section PartLook
set_option rowWalk.seconds 0
namespace Re
/-- the digit of a place -/
def dig (k : Nat) : Str := ⟨#[48 + k]⟩
theorem five {k : Nat} (h : k < 5) : k = 0 ∨ k = 1 ∨ k = 2 ∨ k = 3 ∨ k = 4 := by omega
theorem set3 (c : Nat) (h : ∃ k, k < 5 ∧ c = 48 + k) (seen : Sre.Seen) : ∃ seen', Sre.inSet c3.toArray c c3.toArray.size 5 true seen = .ok (false, seen') := by
  obtain ⟨k, hk, rfl⟩ := h
  rcases five hk with rfl | rfl | rfl | rfl | rfl <;> exact ⟨_, rfl⟩
theorem set4 (c : Nat) (h : c = 45 ∨ c = 46) (seen : Sre.Seen) : ∃ seen', Sre.inSet c4.toArray c c4.toArray.size 5 true seen = .ok (false, seen') := by
  rcases h with rfl | rfl <;> exact ⟨_, rfl⟩
section
variable {w : World} {A : Around} {E : Value → Shared → Prop} {s : Shared}
theorem look_name {t : Tok} {Q : Value → Shared → Prop} {k : Nat} (X : (top.heap_39 w.params).In s.heap) (hk : k < 5) (h : Q .none s) : wpAny (model PG w) A (call (.builtin "re.Pattern.search") [.ref 90, .str (dig k) t]) Q E s :=
  search_none (pat3 X) (show (1 : Nat) ≤ 2 ^ 20 by decide) _ set3 (fun i hi => by
    have hi' : i < 1 := hi
    obtain rfl : i = 0 := by omega
    exact ⟨k, hk, rfl⟩) rfl rfl rfl h
theorem look_val {v : Str} {t : Tok} {Q : Value → Shared → Prop} (X : (top.heap_39 w.params).In s.heap) (hv : v.length ≤ 2 ^ 20) (ho : ∀ c ∈ v.cps.toList, c = 45 ∨ c = 46) (h : Q .none s) : wpAny (model PG w) A (call (.builtin "re.Pattern.search") [.ref 95, .str v t]) Q E s :=
  search_none (pat4 X) hv _ set4 (fun i hi => by
    have : v.cps.getD i 0 = v.cps[i] := by simp [Array.getD_eq_getD_getElem?, hi]
    rw [this]
    exact ho _ (by simp)) rfl rfl rfl h
end
end Re
end PartLook
section PartHd
set_option rowWalk.seconds 0
section

/-- a Headers object: its dict names its list -/
abbrev hdrDict (w : World) (tk : Tok) (l : Addr) : Obj := dictOf [⟨PyData.keyHash w.params (Str.ofString "_headers"), .str (Str.ofString "_headers") tk, .ref l⟩] 1
abbrev retHdr (news : List (Addr × Obj)) (w : World) (h₀ : Heap) (L : Addr) (m : Str → Option Value) (s : Shared) (Q : Value → Shared → Prop) : Prop :=
  ∀ (x d l : Nat) (tk : Tok) (h' : Heap) (tk' : Nat), Fr h₀ L h' m → News h₀ L h' ((l, listOf #[] 0) :: (x, instObj 224 d) :: (d, hdrDict w tk l) :: news) → (∀ p ∈ news, p.1 < d) → d < x → x < l → Q (.ref x) { s with heap := h', toks := tk' }
theorem hdr_new (news : List (Addr × Obj)) : Ctr 224 4 32 [] news (retHdr news) := by
  intro w p loose mean mg mb dp un gd cn cs a ccd cl outer A₀ base h₀ L m s Q E B F X N T hk hdp hun hret
  k_with_none
  k_with "for!" => (k_dflt (refine' For_empty ?h0); (case' h0 => (walk1; k_dflt (refine' ⟨rfl, rfl, ?k1, ?k2, ?k3, ?_⟩; (case k1 => k_asm); (case k2 => k_asm); (case k3 => k_mem); intro h9 tk9 F9 N9))))
  k_dflt (refine' call_cls ?k1 ?k2 ?k3 ?k4 ?k5 ?k6 ?_; (case k1 => k_asm); (case k2 => k_asm); (case k3 => k_asm); (case k4 => k_is); (case k5 => k_is); (case k6 => k_is); k_whole; intro x' d' h' F' N' l1 l2; (try k_lt l1); (try k_lt2 l2))
  k_dflt (refine' code_def ?k1 ?k2 ?k3 ?k4 ?k5 ?kA ?kF ?kK ?k6 ?k7 ?k8 ?k9 ?kB ?_ ?c2 ?c3 ?c4 ?c5; (case kA => exact rfl); (case kF => exact rfl); (case kK => first | exact rfl | assumption); (case k1 => k_asm); (case k2 => k_asm); (case k3 => k_asm); (case k4 => k_asm); (case k5 => k_asm); (case k6 => k_is); (case k7 => k_is); (case k8 => ktr_room); (case k9 => first | exact BindsTo.of_eq rfl | exact binds_K (by k_in) rfl (by k_is) rfl rfl rfl); (case c5 => decide); (case kB => exact locs rfl); (case c2 => exact rfl); (case c3 => exact rfl); (case c4 => exact rfl); k_whole; intro g' L' h' FG' F' N' B' X' T'; (try dsimp only); (try k_lift B'); (try k_fold))
  k_steps
  all_goals exact hret _ _ _ _ _ _ (by k_asm) (by k_asm) (by assumption) (by omega) (by omega)
abbrev retAdd (news : List (Addr × Obj)) (w₀ : World) (x d l : Nat) (tk : Tok) (its : Array Value) (n k : Nat) (val : Str) (_w : World) (h₀ : Heap) (L : Addr) (m : Str → Option Value) (s : Shared) (Q : Value → Shared → Prop) : Prop :=
  ∀ (tp : Nat) (t1 t2 : Tok) (h' : Heap) (tk' : Nat), Fr h₀ L h' m → News h₀ L h' ((tp, ⟨.type "tuple", none, .seq #[.str (Re.dig k) t1, .str val t2] 0, #[]⟩) :: (l, listOf (its.push (.ref tp)) (n + 1)) :: (x, instObj 224 d) :: (d, hdrDict w₀ tk l) :: news) → l < tp → (∀ p ∈ news, p.1 < tp) → Q .none { s with heap := h', toks := tk' }
theorem hdr_add (w₀ : World) (news : List (Addr × Obj)) (x d l : Nat) (tk : Tok) (its : Array Value) (n k : Nat) (val : Str) (t1 t2 : Tok) (hdx : d < x) (hxl : x < l) (hn : ∀ p ∈ news, p.1 ≠ l) (hz : its.size ≤ 2 ^ 20) (hk5 : k < 5) (hv1 : val.length ≤ 2 ^ 20) (hv2 : ∀ c ∈ val.cps.toList, c = 45 ∨ c = 46) :
    Ctr 221 5 48 [.ref x, .str (Re.dig k) t1, .str val t2] ((l, listOf its n) :: (x, instObj 224 d) :: (d, hdrDict w₀ tk l) :: news) (retAdd news w₀ x d l tk its n k val) := by
  intro w p loose mean mg mb dp un gd cn cs a ccd cl outer A₀ base h₀ L m s Q E B F X N T hk hdp hun hret
  have hsz : its.size ≤ sizeLine := Nat.le_trans hz (by decide)
  k_with_none
  k_with "getm!" => (k_dflt (refine' Re.getm_search ?kp ?_; (case kp => first | exact Re.pat3 (by k_in) | exact Re.pat4 (by k_in))))
  k_with "search!" => (k_dflt (first | refine Re.look_name (by k_in) (by assumption) ?_ | refine Re.look_val (by k_in) (by assumption) (by assumption) ?_))
  refine wpAny_call ?_
  k_dflt (refine' kp_more ?k1 ?k2 ?k3 ?k4 ?k5 ?kA ?kF ?kK ?k6 ?k7 ?k8 ?kX ?kM ?kN ?kD ?kR ?kP ?kT ?kB ?_ ?c2 ?c3 ?c4 ?c5; (case kA => exact rfl); (case kF => exact rfl); (case kK => first | exact rfl | assumption); (case k1 => k_asm); (case k2 => k_asm); (case k3 => k_asm); (case k4 => k_asm); (case k5 => k_asm); (case k6 => k_is); (case k7 => k_is); (case k8 => ktr_room); (case kX => kp_lit); (case kM => exact rfl); (case kN => exact rfl); (case kD => kp_flats); (case kR => exact rfl); (case kP => exact rfl); (case kT => exact fun _ => rfl); (case kB => exact fun _ => locs rfl); (case c5 => decide); (case c2 => exact rfl); (case c3 => exact rfl); (case c4 => exact rfl); k_whole; intro D' o' g' L' h' tk' l1 lo' hs' fs' FG' F' N' B' X' T'; (try k_lt l1); (try dsimp only); (try k_lift B'); (try k_fold))
  k_steps
  k_dflt (refine' append_K ?k1 (drop2 ?k2) ?k3 ?_ ?z; (case k1 => k_asm); (case k2 => k_asm); (case k3 => k_upd); (case z => assumption); k_whole)
  intro h' F' N'
  k_steps
  refine hret _ _ _ _ _ (by k_asm) (drop2 (drop2 (by assumption))) (by omega) ?_
  first | exact lt1 (by assumption) | exact lt2 (by assumption) | exact lt3 (by assumption) | exact lt4 (by assumption) | exact lt5 (by assumption) | exact lt6 (by assumption) | exact lt7 (by assumption)
end
end PartHd
section PartComp
set_option rowWalk.seconds 0
section
open PyProof.Rows.LCg PyProof.Rows.LCt
variable {prog : Program} {w : World} {A : Around} {h₀ : Heap} {L : Addr} {m : Str → Option Value} {env : Env} {ct elt : Expr} {x : Str} {scope : Scope} {cl : List (Str × Addr)} {s : Shared} {S : List (Addr × Obj) → Prop} {Fin : List Value → List (Addr × Obj) → Prop} {news : List (Addr × Obj)}
/-- a comprehension with a test over a list, its element a text of the item's -/
theorem compT_strs {n : Nat} {P : Nat → Value → Prop} (rows : List (Nat × Str)) (k : Nat) (hn : rows.length = n)
    (turn : ∀ i r v I oI C oC D m₂ ys h tk (E' : Value → Shared → Prop), rows[i]? = some r → P i v → NsObj oC m₂ → m₂ x = some v → Fr h₀ L h m → News h₀ L h ((I, oI) :: (C, oC) :: (D, lst ys) :: news) → Off3 I C D news → ((@Ne Nat I C) ∧ (@Ne Nat I D) ∧ (@Ne Nat C D)) →
      wpAny (model prog w) A (isTrue ct (compEnvC scope cl C env) (eval ct (compEnvC scope cl C env))) (fun ok s' => ok = (r.1 == k) ∧ if ok = true then
        wpAny (model prog w) A (eval elt (compEnvC scope cl C env)) (CompEnd h₀ L m { s with heap := h, toks := tk } I oI C oC D (lst ys) S (fun y news' => news' = news ∧ ∃ t, y = .str r.2 t)) E' s'
        else CompEnd h₀ L m { s with heap := h, toks := tk } I oI C oC D (lst ys) S (fun _ news' => news' = news) Value.none s') E' { s with heap := h, toks := tk })
    (fin : ∀ ys, StrsAre ys ((rows.filter fun r => r.1 == k).map (·.2)) → Fin ys news) : CompRestT prog w A h₀ L m env ct elt x scope cl s S P Fin n 0 [] news := by
  have key : ∀ (j i : Nat) (ys : List Value), i + j = n → StrsAre ys (((rows.take i).filter fun r => r.1 == k).map (·.2)) → CompRestT prog w A h₀ L m env ct elt x scope cl s S P Fin j i ys news := by
    intro j
    induction j with
    | zero =>
      intro i ys hi hy
      have e : i = rows.length := by omega
      subst e
      rw [List.take_length] at hy
      exact CompRestT.zero (fin ys hy)
    | succ j ih =>
      intro i ys hi hy
      refine CompRestT.succ ?_
      intro v I oI C oC D m₂ h tk E' hv hC hx F N off ne
      have hlt : i < rows.length := by omega
      have hr : rows[i]? = some rows[i] := List.getElem?_eq_getElem hlt
      refine wpAny_mono (turn i rows[i] v I oI C oC D m₂ ys h tk E' hr hv hC hx F N off ne) (fun ok s₂ hq => ?_) fun _ _ e => e
      obtain ⟨hok, hq⟩ := hq
      by_cases h1 : ok = true
      · rw [if_pos h1] at hq ⊢
        refine wpAny_mono hq (fun y s₃ hq => ?_) fun _ _ e => e
        obtain ⟨h', tk', nw, e, F', N', off', hS, hn', t', hy'⟩ := hq
        rw [hn'] at N' off' hS
        refine ⟨h', tk', news, e, F', N', off', hS, ?_⟩
        rw [hy']
        refine ih (i + 1) _ (by omega) ?_
        rw [List.take_add_one, hr]
        have : (rows[i].1 == k) = true := by rw [← hok]; exact h1
        simp only [Option.toList_some, List.filter_append, List.filter_cons, this, if_true, List.filter_nil, List.map_append, List.map_cons, List.map_nil]
        exact StrsAre.append' hy (.cons _ t' .nil)
      · rw [if_neg h1] at hq ⊢
        obtain ⟨h', tk', nw, e, F', N', off', hS, hn'⟩ := hq
        rw [hn'] at N' off' hS
        refine ⟨h', tk', news, e, F', N', off', hS, ?_⟩
        refine ih (i + 1) _ (by omega) ?_
        rw [List.take_add_one, hr]
        have : (rows[i].1 == k) = false := by rw [← hok]; simpa using h1
        simp only [Option.toList_some, List.filter_append, List.filter_cons, this, Bool.false_eq_true, if_false, List.filter_nil, List.append_nil]
        exact hy
  exact key n 0 [] (by omega) (by simp only [List.take_zero, List.filter_nil, List.map_nil]; exact .nil)
end
end PartComp
section PartGet
set_option rowWalk.seconds 0
section

theorem low_dig {k : Nat} (h : k < 5) : Txt.lower (Re.dig k) = Re.dig k := by
  rcases Re.five h with rfl | rfl | rfl | rfl | rfl <;> decide +kernel
theorem dig_eq {i k : Nat} (hi : i < 5) (hk : k < 5) : (Re.dig i == Re.dig k) = (i == k) := by
  rcases Re.five hi with rfl | rfl | rfl | rfl | rfl <;> rcases Re.five hk with rfl | rfl | rfl | rfl | rfl <;> decide +kernel
theorem low_call {w : World} {A : Around} {E : Value → Shared → Prop} {s : Shared} {k : Nat} {t : Tok} {Q : Value → Shared → Prop} (hk : k < 5) (h : Q (.str (Re.dig k) s.toks) { s with toks := s.toks + 1 }) : wpAny (model PG w) A (call (.builtin "str.lower") [.str (Re.dig k) t]) Q E s := by
  refine SC.lower ?_ ?_
  · rw [low_dig hk]; exact (by decide : Builtin.Str.tooLong 1 = false)
  · rw [low_dig hk]; exact h
/-- the tuples of a table -/
def TupRows (news : List (Addr × Obj)) (its : List Value) (rows : List (Nat × Str)) : Prop :=
  its.length = rows.length ∧ ∀ (i : Nat) (r : Nat × Str) (v : Value), rows[i]? = some r → its[i]? = some v → ∃ a t1 t2, v = .ref a ∧ (a, (⟨.type "tuple", none, .seq #[.str (Re.dig r.1) t1, .str r.2 t2] 0, #[]⟩ : Obj)) ∈ news ∧ r.1 < 5
section
variable {w : World} {A : Around} {E : Value → Shared → Prop} {s : Shared} {h₀ : Heap} {L a : Addr} {k : Nat} {u t1 t2 : Tok} {val : Str} {all news : List (Addr × Obj)} {value slice : Expr} {Q : Value → Shared → Prop}
theorem tup0 (N : News h₀ L s.heap all) (hm : (a, (⟨.type "tuple", none, .seq #[.str (Re.dig k) t1, .str val t2] 0, #[]⟩ : Obj)) ∈ news) (sub : ∀ p ∈ news, p ∈ all) (h : Q (.str (Re.dig k) t1) s)
    (hs : subscripted slice false (.ref a) (.int 0 u) = operate [.ref a, .int 0 u] (getItem (.ref a) (.int 0 u))) :
    wpAny (model PG w) A (subscriptTail value slice (.ref a) (.int 0 u)) Q E s :=
  item_tupleT (l := [.str (Re.dig k) t1, .str val t2]) (j := 0) (News.isTup N (sub _ hm)) (by decide) (by decide) rfl rfl h hs
theorem tup1 (N : News h₀ L s.heap all) (hm : (a, (⟨.type "tuple", none, .seq #[.str (Re.dig k) t1, .str val t2] 0, #[]⟩ : Obj)) ∈ news) (sub : ∀ p ∈ news, p ∈ all) (h : Q (.str val t2) s)
    (hs : subscripted slice false (.ref a) (.int 1 u) = operate [.ref a, .int 1 u] (getItem (.ref a) (.int 1 u))) :
    wpAny (model PG w) A (subscriptTail value slice (.ref a) (.int 1 u)) Q E s :=
  item_tupleT (l := [.str (Re.dig k) t1, .str val t2]) (j := 1) (News.isTup N (sub _ hm)) (by decide) (by decide) rfl rfl h hs
end
abbrev retGet (news : List (Addr × Obj)) (w₀ : World) (x d l : Nat) (tk : Tok) (its : List Value) (n k : Nat) (rows : List (Nat × Str)) (_w : World) (h₀ : Heap) (L : Addr) (m : Str → Option Value) (s : Shared) (Q : Value → Shared → Prop) : Prop :=
  ∀ (D : Nat) (ys : List Value) (h' : Heap) (tk' : Nat), StrsAre ys ((rows.filter fun r => r.1 == k).map (·.2)) → Fr h₀ L h' m → News h₀ L h' ((D, LCg.lst ys) :: (l, listOf its.toArray n) :: (x, instObj 224 d) :: (d, hdrDict w₀ tk l) :: news) → LCg.Off1 D ((l, listOf its.toArray n) :: (x, instObj 224 d) :: (d, hdrDict w₀ tk l) :: news) → Q (.ref D) { s with heap := h', toks := tk' }
theorem hdr_get (w₀ : World) (news : List (Addr × Obj)) (x d l : Nat) (tk : Tok) (its : List Value) (n k : Nat) (t1 : Tok) (hk5 : k < 5) (rows : List (Nat × Str)) (hrows : TupRows news its rows) (hz : its.length ≤ 2 ^ 20) :
    Ctr 163 5 48 [.ref x, .str (Re.dig k) t1] ((l, listOf its.toArray n) :: (x, instObj 224 d) :: (d, hdrDict w₀ tk l) :: news) (retGet news w₀ x d l tk its n k rows) := by
  intro w p loose mean mg mb dp un gd cn cs a ccd cl outer A₀ base h₀ L m s Q E B F X N T hk hdp hun hret
  have hsz : its.toArray.size ≤ sizeLine := Nat.le_trans (by simpa using hz) (by decide : 2 ^ 20 ≤ sizeLine)
  k_with_none
  k_with "getm!" => (k_dflt (refine' Re.getm_search ?kp ?_; (case kp => first | exact Re.pat3 (by k_in) | exact Re.pat4 (by k_in))))
  k_with "search!" => (k_dflt (first | refine Re.look_name (by k_in) (by assumption) ?_ | refine Re.look_val (by k_in) (by assumption) (by assumption) ?_))
  k_with "low!" => (k_dflt (refine low_call (by assumption) ?_))
  k_with "lc!" => (k_dflt (refine' LCt.ListComp_T (F₀ := by k_asm) ?l1 ?l2 ?l3 ?l4 ?l5 ?l6; (case l1 => with_unfolding_all rfl); (case l2 => decide); (case l3 => rfl); (case l4 => decide); (case l5 => rfl)))
  k_with "tup!" => (k_dflt (first | ((with_reducible show wpAny _ _ (subscriptTail _ _ _ (Value.int 0 _)) _ _ _); refine' tup0 ?N ?hm ?sub ?_ ?hs) | ((with_reducible show wpAny _ _ (subscriptTail _ _ _ (Value.int 1 _)) _ _ _); refine' tup1 ?N ?hm ?sub ?_ ?hs)); (case N => k_asm); (case hm => assumption); (case sub => intro p hp; repeat (first | exact hp | apply List.mem_cons_of_mem)); (case hs => with_unfolding_all rfl))
  refine wpAny_call ?_
  k_dflt (refine' code_defC ?k1 ?k2 ?k3 ?k4 ?k5 ?kA ?kF ?kK ?k6 ?k7 ?k8 ?k9 ?kB ?kD ?_ ?c2 ?c3 ?c4; (case kA => exact rfl); (case kF => exact rfl); (case kK => first | exact rfl | assumption); (case k1 => k_asm); (case k2 => k_asm); (case k3 => k_asm); (case k4 => k_asm); (case k5 => k_asm); (case k6 => k_is); (case k7 => k_is); (case k8 => ktr_room); (case k9 => first | exact BindsTo.of_eq rfl | exact binds_K (by k_in) rfl (by k_is) rfl rfl rfl); (case kB => exact rfl); (case kD => decide +kernel); (case c2 => exact rfl); (case c3 => exact rfl); (case c4 => exact rfl); k_whole; intro g' L' h' tk' cells' FG' F' N' Y' B' X' T' l1; (try k_lt l1); k_cells Y'; (try simp only [List.cons_append, List.nil_append] at N'); (try dsimp only); (try k_lift B'); (try k_fold))
  k_steps
  k_dflt (refine' LCt.CompSrcT.ledger rfl ?k1 ?k2 ?k3 hsz ?_; (case k1 => k_asm); (case k2 => k_asm); (case k3 => k_mem))
  intro g9
  refine compT_strs rows k (by simpa using hrows.1.symm) ?_ ?_
  · intro i r v I oI C oC D m₂ ys h tk E' hr hv hC hx F N off ne
    obtain ⟨a9, u1, u2, rfl, hm, hr5⟩ := hrows.2 i r v hr (by simpa using hv)
    k_steps
    · revert hk5 hr5
      exact fun a b => dig_eq b a
    · exact LCg.CompEnd.intro (by k_asm) (by assumption) _ (by intro p hp; exact hp) off (.inr ⟨_, .tail _ (.head _), rfl, n, rfl⟩) ⟨rfl, _, rfl⟩
    · exact LCg.CompEnd.intro (by k_asm) (by assumption) _ (by intro p hp; exact hp) off (.inr ⟨_, .tail _ (.head _), rfl, n, rfl⟩) rfl
  · intro ys hy
    (try dsimp only)
    intro D h9 tk9 F9 N9 O9
    (try dsimp only)
    k_steps

    all_goals exact hret _ _ _ _ hy (by k_asm) (drop2 (by assumption)) O9.2
end
end PartGet
section PartRows2
set_option rowWalk.seconds 0
section
theorem own_c {r L l : Nat} {X Y Z : Obj} {own TN TN1 : List (Addr × Obj)} (hL : l < L ∧ AllLt L (own ++ TN)) (ho : ∀ q ∈ (r, X) :: (L + 1, Y) :: (l, Z) :: own, ∀ p ∈ TN1, p.1 ≠ q.1) : ∀ p ∈ own ++ TN1, p.1 ≠ L + 1 := fun p hp => by
  rcases List.mem_append.mp hp with hp | hp
  · exact Nat.ne_of_lt (Nat.lt_succ_of_lt (tb_ltOf hL.2 p (List.mem_append_left _ hp)))
  · exact ho _ (.tail _ (.head _)) p hp
theorem hoo_of {r L l : Nat} {X Y Z : Obj} {own TN : List (Addr × Obj)} (hr : L + 1 < r ∧ l < r ∧ AllLt r (own ++ TN)) (hL : l < L ∧ AllLt L (own ++ TN)) (ho : ∀ q ∈ (l, Z) :: own, ∀ p ∈ TN, p.1 ≠ q.1) : ∀ q ∈ (r, X) :: (L + 1, Y) :: (l, Z) :: own, ∀ p ∈ TN, p.1 ≠ q.1 := fun q hq p hp => by
  rcases List.mem_cons.mp hq with rfl | hq
  · exact Nat.ne_of_lt (tb_ltOf hr.2.2 p (List.mem_append_right _ hp))
  · rcases List.mem_cons.mp hq with rfl | hq
    · exact Nat.ne_of_lt (Nat.lt_succ_of_lt (tb_ltOf hL.2 p (List.mem_append_right _ hp)))
    · exact ho q hq p hp
theorem rows_map {its : List Value} {ns : List Int} (h : StrsAre its (ns.map rowTx)) : StrsAre its ((ns.map fun x => (rowOf x).1 ++ (rowOf x).2).map tx) := by
  rw [List.map_map]; exact h
theorem row_len (x : Int) : ((rowOf x).1 ++ (rowOf x).2).length ≤ 6 := by
  have h1 := signs_len (v := x % 15 + 1) rule_ok
  have h2 := ends_len x
  rw [List.length_append]
  show (signs (x % 15 + 1)).length + (ends x).length ≤ 6
  omega
theorem sum_le {α : Type} (f : α → Nat) (b : Nat) : ∀ l : List α, (∀ x ∈ l, f x ≤ b) → (l.map f).sum ≤ l.length * b
  | [], _ => by simp
  | a :: r, h => by
    have ih := sum_le f b r fun x hx => h x (.tail _ hx)
    have := h a (.head _)
    simp only [List.map_cons, List.sum_cons, List.length_cons, Nat.succ_mul]
    omega
theorem rows_sum {ns : List Int} (h5 : ns.length = 5) : ((ns.map fun x => (rowOf x).1 ++ (rowOf x).2).map (·.length)).sum + (ns.map fun x => (rowOf x).1 ++ (rowOf x).2).length ≤ 1048576 := by
  have := sum_le (fun l : List Nat => l.length) 6 (ns.map fun x => (rowOf x).1 ++ (rowOf x).2) (fun l hl => by obtain ⟨x, _, rfl⟩ := List.mem_map.mp hl; exact row_len x)
  simp only [List.length_map] at this ⊢
  omega
/-- a row as it comes out of the mail -/
def out (x : Int) : List Nat := Re.stuff (signs (x % 15 + 1))
theorem out_len (x : Int) : 1 ≤ (out x).length ∧ (out x).length ≤ 5 := by
  have h1 := signs_len (v := x % 15 + 1) rule_ok
  unfold out Re.stuff
  split
  · simp; omega
  · omega
theorem out_ok (x : Int) : ∀ c ∈ out x, c = 45 ∨ c = 46 := by
  have h := (row_ok x).2.1
  unfold out Re.stuff
  intro c hc
  split at hc
  · rcases List.mem_cons.mp hc with rfl | hc
    · exact .inr rfl
    · exact h c hc
  · exact h c hc
theorem flat_len {α : Type} (f : α → List Nat) (b : Nat) (l : List α) (h : ∀ x ∈ l, (f x).length ≤ b) : (l.flatMap f).length ≤ l.length * b := by
  induction l with
  | nil => simp
  | cons a r ih =>
    have := ih fun x hx => h x (.tail _ hx)
    have := h a (.head _)
    simp only [List.flatMap_cons, List.length_append, List.length_cons, Nat.succ_mul]
    omega
theorem quote5 (ns : List Int) (h5 : ns.length = 5) (tk : Tok) (news : List (Addr × Obj)) : Ctr 80 2 32 [.str (tx (ns.map fun x => (rowOf x).1 ++ (rowOf x).2).flatten) tk] news (retStr news (tx (mailL (ns.map out)))) := by
  have hA : ∀ f : List Nat × List Nat → List Nat, (∀ x : Int, (f (rowOf x)).length ≤ 7) → ((ns.map rowOf).flatMap f).length ≤ 35 := fun f hf => by
    have := flat_len f 7 (ns.map rowOf) (fun r hr => by obtain ⟨x, _, rfl⟩ := List.mem_map.mp hr; exact hf x)
    simp only [List.length_map] at this
    omega
  have q := quote (ns.map rowOf) tk news (fun r hr => by obtain ⟨x, _, rfl⟩ := List.mem_map.mp hr; exact row_ok x)
    (by show (tx _).length ≤ _; rw [tx_len]; exact Nat.le_trans (hA _ fun x => Nat.le_trans (row_len x) (by decide)) (by decide))
    (by show (tx _).length ≤ _; rw [tx_len]; exact Nat.le_trans (hA _ fun x => by
          have h1 := signs_len (v := x % 15 + 1) rule_ok
          rw [List.length_append]; show (signs (x % 15 + 1)).length + 2 ≤ 7; omega) (by decide))
    (by show (tx _).length ≤ _; rw [tx_len]; exact Nat.le_trans (hA _ fun x => by
          have h1 := out_len x
          rw [List.length_append]; show (out x).length + 2 ≤ 7; omega) (by decide))
  have e1 : Re.mailA (ns.map rowOf) = tx (ns.map fun x => (rowOf x).1 ++ (rowOf x).2).flatten := by
    show tx ((ns.map rowOf).flatMap fun r => r.1 ++ r.2) = _
    rw [List.flatMap_map, List.flatMap_def]
  have e2 : Re.mailC (ns.map rowOf) = tx (mailL (ns.map out)) := by
    show tx ((ns.map rowOf).flatMap fun r => Re.stuff r.1 ++ [13, 10]) = _
    unfold mailL
    rw [List.flatMap_map, List.flatMap_map]
    rfl
  rw [e1, e2] at q
  exact q
theorem off_one {a y : Str} (h : [a].contains y = false) : y ≠ a := by
  simpa using h
theorem off_two {a b y : Str} (h : [a, b].contains y = false) : y ≠ a ∧ y ≠ b := by
  simp at h
  exact ⟨h.1, h.2⟩
theorem rows_next {A : Array Value} {ns : List Int} {i : Nat} {x : Int} {t : Tok} (h : StrsAre A.toList ((ns.take i).map rowTx)) (hx : ns[i]? = some x) : StrsAre (A.push (.str (tx (signs (x % 15 + 1) ++ ends x)) t)).toList ((ns.take (i + 1)).map rowTx) := by
  rw [Array.toList_push, List.take_add_one, hx]
  simp only [Option.toList_some, List.map_append, List.map_cons, List.map_nil]
  exact StrsAre.append' h (.cons _ t .nil)
theorem off_I {I b c d : Nat} {X Y Z W Y' : Obj} {own TN : List (Addr × Obj)} (h : ∀ q ∈ (I, X) :: (b, Y) :: (c, Z) :: (d, W) :: own, ∀ p ∈ TN, p.1 ≠ q.1) (hb : b < I) (hc : c < I) (hd : d < I) (ho : ∀ p ∈ own, p.1 < I) : ∀ p ∈ (b, Y') :: (c, Z) :: (d, W) :: (own ++ TN), p.1 ≠ I := fun p hp => by
  rcases List.mem_cons.mp hp with rfl | hp
  · exact Nat.ne_of_lt hb
  · rcases List.mem_cons.mp hp with rfl | hp
    · exact Nat.ne_of_lt hc
    · rcases List.mem_cons.mp hp with rfl | hp
      · exact Nat.ne_of_lt hd
      · rcases List.mem_append.mp hp with hp | hp
        · exact Nat.ne_of_lt (ho p hp)
        · exact h _ (.head _) p hp
theorem O9' {I b c d : Nat} {X Y Z W Y' : Obj} {own TN : List (Addr × Obj)} (h : ∀ q ∈ (I, X) :: (b, Y) :: (c, Z) :: (d, W) :: own, ∀ p ∈ TN, p.1 ≠ q.1) : ∀ q ∈ (b, Y') :: (c, Z) :: (d, W) :: own, ∀ p ∈ TN, p.1 ≠ q.1 := fun q hq => by
  rcases List.mem_cons.mp hq with rfl | hq
  · exact h (b, Y) (.tail _ (.head _))
  · exact h q (.tail _ (.tail _ hq))
theorem four_lt {a b c d D : Nat} {X Y Z W : Obj} {own : List (Addr × Obj)} (h : ∀ p ∈ (a, X) :: (b, Y) :: (c, Z) :: (d, W) :: own, p.1 < D) : a < D ∧ b < D ∧ c < D ∧ d < D ∧ ∀ p ∈ own, p.1 < D :=
  ⟨h _ (.head _), h _ (.tail _ (.head _)), h _ (.tail _ (.tail _ (.head _))), h _ (.tail _ (.tail _ (.tail _ (.head _)))), fun p hp => h p (.tail _ (.tail _ (.tail _ (.tail _ hp))))⟩
theorem off_own {a b c d : Nat} {X Y Z W : Obj} {own TN : List (Addr × Obj)} (h : ∀ q ∈ (a, X) :: (b, Y) :: (c, Z) :: (d, W) :: own, ∀ p ∈ TN, p.1 ≠ q.1) (ho : ∀ p ∈ own, p.1 < b) : ∀ p ∈ own ++ TN, p.1 ≠ b := fun p hp => by
  rcases List.mem_append.mp hp with hp | hp
  · exact Nat.ne_of_lt (ho p hp)
  · exact h _ (.tail _ (.head _)) p hp
theorem split_tx {w : World} {A : Around} {E : Value → Shared → Prop} {s : Shared} {t u : Tok} {Q : Value → Shared → Prop} {h₀ : Heap} {L : Addr} {m : Str → Option Value} {news : List (Addr × Obj)} {bs : List (List Nat)} (F : Fr h₀ L s.heap m) (N : News h₀ L s.heap news)
    (hb : ∀ b ∈ bs, ∀ c ∈ b, c = 45 ∨ c = 46) (h1 : bs ≠ []) (hz : (mailL bs).length + 2 ≤ sizeLine)
    (h : ∀ (D : Nat) ys h' k, StrsAre ys (bs.map tx ++ [tx []]) → Fr h₀ L h' m → News h₀ L h' ((D, listOf ys.toArray 0) :: news) → (∀ p ∈ news, p.1 < D) → Q (.ref D) { s with heap := h', toks := k }) :
    wpAny (model PG w) A (call (.builtin "str.split") [.str (tx (mailL bs)) t, .str (Str.ofString "\r\n") u]) Q E s := by
  have e0 : Str.ofString "\r\n" = crlf := by decide +kernel
  rw [e0]
  refine splitN1A F N (by rfl) (fun l h' k he hs _ _ F' N' => ?_) (by rw [tx_len]; exact hz)
  rw [he, split_mail bs hb h1] at hs
  exact h _ _ _ _ hs F' N' fun p hp => Heap.lt_size (N p hp).1
theorem outs_ok (ns : List Int) : ∀ b ∈ ns.map out, ∀ c ∈ b, c = 45 ∨ c = 46 := fun b hb => by
  obtain ⟨x, _, rfl⟩ := List.mem_map.mp hb
  exact out_ok x
theorem outs_ne {ns : List Int} (h5 : ns.length = 5) : ns.map out ≠ [] := fun e => by
  have := congrArg List.length e
  simp [h5] at this
theorem outs_len {ns : List Int} (h5 : ns.length = 5) : (mailL (ns.map out)).length + 2 ≤ sizeLine := by
  have := flat_len (fun b : List Nat => b ++ [13, 10]) 7 (ns.map out) (fun b hb => by
    obtain ⟨x, _, rfl⟩ := List.mem_map.mp hb
    have := out_len x
    simp; omega)
  unfold mailL
  simp only [List.length_map, h5] at this
  exact Nat.le_trans (by omega) (by decide : 40 ≤ sizeLine)
theorem slice_last {w : World} {A : Around} {E : Value → Shared → Prop} {s : Shared} {t : Tok} {Q : Value → Shared → Prop} {h₀ : Heap} {L l : Addr} {m : Str → Option Value} {news : List (Addr × Obj)} {value slice : PySem.Expr} {ys : List Value} {k : Nat} {texts : List Str} {last : Str} (F : Fr h₀ L s.heap m) (N : News h₀ L s.heap news) (hm : (l, listOf ys.toArray k) ∈ news)
    (hy : StrsAre ys (texts ++ [last])) (hz : texts.length ≤ 1000)
    (h : ∀ (D : Nat) zs h', Fr h₀ L h' m → News h₀ L h' ((D, listOf (List.toArray zs) 0) :: news) → (∀ p ∈ news, p.1 < D) → StrsAre zs texts → Q (.ref D) { s with heap := h' })
    (hs : subscripted slice false (.ref l) (.ref s.heap.objs.size) = operate [.ref s.heap.objs.size, .ref l] (getItem (.ref l) (.ref s.heap.objs.size))) (ht : ∀ r, letTemporaryGo value (.ref l) r = pure ()) :
    wpAny (model PG w) A (subscriptTail value slice (.ref l) (.ref s.heap.objs.size)) Q E { s with heap := s.heap.push { cls := .type "slice", data := .fields #[.none, .int (-1) t, .none] } } := by
  have hl : ys.length = texts.length + 1 := by rw [hy.length]; simp
  refine kmk_slice F N (News.isList N hm) .none (.int _ _) (fun D h' F' N' l1 => ?_) hs ht (by
    have : ys.toArray.size ≤ 1001 := by simp; omega
    exact Nat.le_trans this (by decide))
  have e : sliceBounds none (some (-1)) none ys.toArray.size = (((0 : Nat) : Int), ((ys.toArray.size - 1 : Nat) : Int), 1) := by
    simp only [sliceBounds, Option.getD_none, show (1 : Int) > 0 by decide, if_true, if_pos (show (-1 : Int) < 0 by decide)]
    congr 1
    congr 1
    simp
    omega
  have e2 : slicePick ys.toArray none (some (-1)) none = (ys.take texts.length).toArray := by
    rw [kmk_pick_nat _ e]
    simp [hl]
  rw [e2] at N'
  refine h D _ h' F' N' l1 ?_
  clear e e2 N' F' h hm N F hz l1 hs ht
  induction texts generalizing ys with
  | nil => simp; exact .nil
  | cons a r ih =>
    cases hy with
    | cons y t hy' =>
      simp only [List.length_cons, List.take_succ_cons]
      exact .cons _ _ (ih hy' (by simpa using hl))
theorem loop1 {prog : Program} {w : World} {A : Around} {E : Value → Shared → Prop} {s : Shared} {env : Env} {h₀ : Heap} {x : Str} {body : List Stmt} {Q : Flow → Shared → Prop} {m₀ : Str → Option Value} {r c l kk : Nat} {oc : Obj} {vs : List Value} {ns : List Int} {own news TN : List (Addr × Obj)} (ov : List Str)
    (hvs : IntsAre vs ns) (hh : A.handled = none) (F : Fr h₀ env.locals s.heap m₀) (N : News h₀ env.locals s.heap ((r, listOf #[] 0) :: (c, oc) :: (l, listOf vs.toArray kk) :: (own ++ TN))) (hT : TabOn TN news)
    (hoo : ∀ q ∈ (r, listOf #[] 0) :: (c, oc) :: (l, listOf vs.toArray kk) :: own, ∀ p ∈ TN, p.1 ≠ q.1) (hr : c < r ∧ l < r ∧ AllLt r (own ++ TN))
    (turn : ∀ (I : Nat) it (i : Nat) xi t U (its : Array Value) (k : Nat) TN1 h tk, ns[i]? = some xi → i < ns.length → StrsAre its.toList ((ns.take i).map rowTx) → its.size ≤ i → TabOn TN1 news → (∀ q ∈ (I, it) :: (r, listOf its k) :: (c, oc) :: (l, listOf vs.toArray kk) :: own, ∀ p ∈ TN1, p.1 ≠ q.1) → r < I → c < I → l < I → (∀ p ∈ own, p.1 < I) → (c < r ∧ l < r) → (∀ p ∈ own, p.1 < r) →
      Fr h₀ env.locals h (fun y => if y = x then some (.int xi t) else ovl ov U m₀ y) → News h₀ env.locals h ((I, it) :: (r, listOf its k) :: (c, oc) :: (l, listOf vs.toArray kk) :: (own ++ TN1)) →
      wpAny (model prog w) A (execs body env) (LPost h₀ env.locals { s with heap := h, toks := tk } I it (NRest ov m₀ (fun nx => ∃ its' k' TN', nx = (r, listOf its' k') :: (c, oc) :: (l, listOf vs.toArray kk) :: (own ++ TN') ∧ StrsAre its'.toList ((ns.take (i + 1)).map rowTx) ∧ TabOn TN' news ∧ (∀ q ∈ (r, listOf #[] 0) :: (c, oc) :: (l, listOf vs.toArray kk) :: own, ∀ p ∈ TN', p.1 ≠ q.1))) Q) E { s with heap := h, toks := tk })
    (done : ∀ U (its : List Value) (k : Nat) TN1 h tk, StrsAre its (ns.map rowTx) → TabOn TN1 news → (∀ q ∈ (r, listOf #[] 0) :: (c, oc) :: (l, listOf vs.toArray kk) :: own, ∀ p ∈ TN1, p.1 ≠ q.1) → Fr h₀ env.locals h (ovl ov U m₀) → News h₀ env.locals h ((r, listOf its.toArray k) :: (c, oc) :: (l, listOf vs.toArray kk) :: (own ++ TN1)) → Q .next { s with heap := h, toks := tk }) :
    wpAny (model prog w) A (pyIter (.ref l)) (fun it s₂ => LoopAtV prog w A h₀ env x body Q E it s₂) E s := by
  refine iter_listN (vs := vs) (nn := kk) ov (fun i nx => ∃ its' k' TN', nx = (r, listOf its' k') :: (c, oc) :: (l, listOf vs.toArray kk) :: (own ++ TN') ∧ StrsAre its'.toList ((ns.take i).map rowTx) ∧ TabOn TN' news ∧ (∀ q ∈ (r, listOf #[] 0) :: (c, oc) :: (l, listOf vs.toArray kk) :: own, ∀ p ∈ TN', p.1 ≠ q.1)) hh (.tail _ (.tail _ (.head _))) ?_ F N ?_ ?_ ?_
  · rintro i nx ⟨its, k, TN', rfl, _⟩
    exact .tail _ (.tail _ (.head _))
  · exact ⟨#[], 0, TN, rfl, .nil, hT, hoo⟩
  · rintro I hI it i v U nx h tk hv ⟨its, k, TN', rfl, hs, hT', ho'⟩ hoff F' N'
    obtain ⟨n, t, hn, rfl⟩ := ints_at hvs hv
    have hi : i < ns.length := by
      rcases Nat.lt_or_ge i ns.length with h | h
      · exact h
      · rw [List.getElem?_eq_none h] at hn; cases hn
    refine turn I it i n t U its k TN' h tk hn hi hs (by have := hs.length; simp at this; omega) hT' ?_ (hI _ (.head _)) (hI _ (.tail _ (.head _))) (hI _ (.tail _ (.tail _ (.head _)))) (fun p hp => hI p (.tail _ (.tail _ (.tail _ (List.mem_append_left _ hp))))) ⟨hr.1, hr.2.1⟩ (fun p hp => tb_ltOf hr.2.2 p (List.mem_append_left _ hp)) F' N'
    intro q hq p hp
    rcases List.mem_cons.mp hq with rfl | hq
    · exact hoff p (.tail _ (.tail _ (.tail _ (List.mem_append_right _ hp))))
    · rcases List.mem_cons.mp hq with rfl | hq
      · exact ho' _ (.head _) p hp
      · exact ho' q (.tail _ hq) p hp
  · rintro U nx h tk ⟨its, k, TN', rfl, hs, hT', ho'⟩ F' N'
    refine done U its.toList k TN' h tk ?_ hT' ho' F' N'
    rw [hvs.length, List.take_length] at hs
    exact hs
/-- the rows of the file -/
def fileOf (ns : List Int) : List (Nat × Str) := ns.map fun x => ((out x).length - 1, tx (out x))
theorem TupRows.grow {news news' : List (Addr × Obj)} {its : List Value} {rows : List (Nat × Str)} (h : TupRows news its rows) (hs : ∀ p ∈ news, p ∈ news') : TupRows news' its rows :=
  ⟨h.1, fun i r v hr hv => let ⟨a, t1, t2, e, hm, h5⟩ := h.2 i r v hr hv; ⟨a, t1, t2, e, hs _ hm, h5⟩⟩
theorem TupRows.snoc {news : List (Addr × Obj)} {A : Array Value} {rows : List (Nat × Str)} {tp k : Nat} {val : Str} {t1 t2 : Tok} (h : TupRows news A.toList rows) (hk : k < 5) : TupRows ((tp, ⟨.type "tuple", none, .seq #[.str (Re.dig k) t1, .str val t2] 0, #[]⟩) :: news) (A.push (.ref tp)).toList (rows ++ [(k, val)]) := by
  refine ⟨by simpa using h.1, fun i r v hr hv => ?_⟩
  rw [Array.toList_push] at hv
  have hl := h.1
  by_cases hi : i < rows.length
  · rw [List.getElem?_append_left hi] at hr
    rw [List.getElem?_append_left (by omega)] at hv
    obtain ⟨a, t1, t2, e, hm, h5⟩ := h.2 i r v hr hv
    exact ⟨a, t1, t2, e, .tail _ hm, h5⟩
  · rw [List.getElem?_append_right (by omega)] at hr hv
    rcases Nat.eq_zero_or_pos (i - rows.length) with e | e
    · rw [e] at hr
      rw [show i - A.toList.length = 0 by omega] at hv
      simp at hr hv
      subst hr hv
      exact ⟨tp, t1, t2, rfl, .head _, hk⟩
    · rw [List.getElem?_eq_none (by simp; omega)] at hr
      cases hr
theorem strs_at {vs : List Value} {ns : List Str} (h : StrsAre vs ns) : ∀ {i : Nat} {v : Value}, vs[i]? = some v → ∃ n t, ns[i]? = some n ∧ v = .str n t := by
  induction h with
  | nil => intro i v h; simp at h
  | cons n t h ih =>
    intro i v hv
    cases i with
    | zero => simp at hv; subst hv; exact ⟨n, t, rfl, rfl⟩
    | succ i => simp at hv; simpa using ih hv
theorem perm3 {h₀ h : Heap} {L I lh xh dh : Addr} {Z X1 X2 X3 : Obj} {rest : List (Addr × Obj)} (N : News h₀ L h ((I, Z) :: (lh, X1) :: (xh, X2) :: (dh, X3) :: rest)) : News h₀ L h ((lh, X1) :: (xh, X2) :: (dh, X3) :: (I, Z) :: rest) := cb_drop N (by kcj_all)
theorem hn_of {I lh : Nat} {it : Obj} {rest : List (Addr × Obj)} (h : lh < I) (ho : ∀ p ∈ rest, p.1 ≠ lh) : ∀ p ∈ (I, it) :: rest, p.1 ≠ lh := fun p hp => by
  rcases List.mem_cons.mp hp with rfl | hp
  · exact Nat.ne_of_gt h
  · exact ho p hp
theorem tx_chars (x : Int) : ∀ c ∈ (tx (out x)).cps.toList, c = 45 ∨ c = 46 := by
  unfold tx; simpa using out_ok x
theorem out_k (x : Int) : ∃ K, (out x).length - 1 = K ∧ K < 5 ∧ (out x).length = K + 1 := by
  have := out_len x
  exact ⟨_, rfl, by omega, by omega⟩
section
variable {w : World} {A : Around} {E : Value → Shared → Prop} {s : Shared} {t u : Tok} {Q : Value → Shared → Prop}
theorem len_tx {b : List Nat} {K : Nat} (hK : b.length = K + 1) (h5 : K < 5) (h : ∀ t tk, Q (.int ((K : Int) + 1) t) { s with toks := tk }) : wpAny (model PG w) A (call (.builtin "len") [.str (tx b) t]) Q E s := by
  refine PyProof.Rows.len_str (by rw [tx_len, hK]; omega) ?_
  rw [tx_len, hK]
  exact h _ _
theorem str_dig {K : Nat} (h5 : K < 5) (h : ∀ t tk, Q (.str (Re.dig K) t) { s with toks := tk }) : wpAny (model PG w) A (call (.type "str") [.int ((K : Int) + 1 - 1) t]) Q E s := by
  have e : ((K : Int) + 1 - 1).natAbs.log2 < 1920 := by
    have : ((K : Int) + 1 - 1).natAbs = K := by omega
    rw [this]
    rcases Re.five h5 with rfl | rfl | rfl | rfl | rfl <;> decide +kernel
  refine P.str_of_int e ?_
  have e2 : Str.ofString (toString ((K : Int) + 1 - 1)) = Re.dig K := by
    have : ((K : Int) + 1 - 1) = K := by omega
    rw [this]
    rcases Re.five h5 with rfl | rfl | rfl | rfl | rfl <;> decide +kernel
  show Q (.str (Str.ofString (toString ((K : Int) + 1 - 1))) _) _
  rw [e2]
  exact h _ _
end
theorem perm2 {h₀ h : Heap} {L z y lh xh dh : Addr} {Z Y X1 X2 X3 : Obj} {rest : List (Addr × Obj)} (N : News h₀ L h ((z, Z) :: (y, Y) :: (lh, X1) :: (xh, X2) :: (dh, X3) :: rest)) : News h₀ L h ((lh, X1) :: (xh, X2) :: (dh, X3) :: (z, Z) :: (y, Y) :: rest) := cb_drop N (by kcj_all)
theorem end2 {w₀ : World} {h₀ h : Heap} {L : Addr} {m m₀ : Str → Option Value} {s₁ : Shared} {tk : Nat} {I lh xh dh tp K i k : Nat} {it : Obj} {tkh t1 t2 : Tok} {A : Array Value} {ns : List Int} {x : Int} {base nw : List (Addr × Obj)} {ov : List Str} (names : ∀ y, ov.contains y = false → m y = m₀ y) (F : Fr h₀ L h m)
    (N : News h₀ L h ((tp, ⟨.type "tuple", none, .seq #[.str (Re.dig K) t1, .str (tx (out x)) t2] 0, #[]⟩) :: (lh, listOf (A.push (.ref tp)) (k + 1)) :: (xh, instObj 224 dh) :: (dh, hdrDict w₀ tkh lh) :: (I, it) :: (base ++ nw)))
    (hT : TupRows nw A.toList (fileOf (ns.take i))) (hx : ns[i]? = some x) (hK : (out x).length - 1 = K) (hK5 : K < 5) (hsz : A.size = i) (hol : ∀ p ∈ base ++ nw, p.1 ≠ lh) (hoI : ∀ p ∈ base ++ nw, p.1 ≠ I) (hlI : lh < I) (hdx : dh < xh) (hxl : xh < lh) (hlt : lh < tp) (htp : ∀ p ∈ (I, it) :: (base ++ nw), p.1 < tp) :
    LEnd h₀ L s₁ I it (NRest ov m₀ (fun nx => ∃ its' k' nw', nx = (lh, listOf its' k') :: (xh, instObj 224 dh) :: (dh, hdrDict w₀ tkh lh) :: (base ++ nw') ∧ TupRows nw' its'.toList (fileOf (ns.take (i + 1))) ∧ its'.size = i + 1 ∧ (∀ p ∈ nw', p.1 ≠ lh))) { s₁ with heap := h, toks := tk } := by
  refine LEnd.intro F N ((lh, listOf (A.push (.ref tp)) (k + 1)) :: (xh, instObj 224 dh) :: (dh, hdrDict w₀ tkh lh) :: (base ++ (tp, ⟨.type "tuple", none, .seq #[.str (Re.dig K) t1, .str (tx (out x)) t2] 0, #[]⟩) :: nw)) (fun p hp => ?_) (fun p hp => ?_) ⟨names, _, _, _, rfl, ?_, by simp [hsz], fun p hp => ?_⟩
  · simp only [List.mem_cons, List.mem_append] at hp ⊢
    rcases hp with h | h | h | h | h | h | h <;> simp [h]
  · have hI := htp _ (.head _)
    simp only [List.mem_cons, List.mem_append] at hp
    rcases hp with rfl | rfl | rfl | h | rfl | h
    · exact Nat.ne_of_lt hlI
    · exact Nat.ne_of_lt (Nat.lt_trans hxl hlI)
    · exact Nat.ne_of_lt (Nat.lt_trans hdx (Nat.lt_trans hxl hlI))
    · exact hoI p (List.mem_append_left _ h)
    · exact Nat.ne_of_gt hI
    · exact hoI p (List.mem_append_right _ h)
  · have e : fileOf (ns.take (i + 1)) = fileOf (ns.take i) ++ [(K, tx (out x))] := by
      unfold fileOf
      rw [List.take_add_one, hx]
      simp [hK]
    rw [e]
    exact hT.snoc hK5
  · rcases List.mem_cons.mp hp with rfl | hp
    · exact Nat.ne_of_gt hlt
    · exact hol p (List.mem_append_right _ hp)
/-- the rows by their last coin's place -/
def placeOf (ns : List Int) (j : Nat) : List Str := ((fileOf ns).filter fun r => r.1 == j).map (·.2)
/-- the lists of `_law_filed`, up to place i -/
def FiledOk (ns : List Int) (gs : List (Addr × Obj)) (ys : List Value) (i : Nat) : Prop :=
  ys.length = i ∧ ∀ j, j < i → ∃ a zs, ys[j]? = some (.ref a) ∧ (a, LCg.lst zs) ∈ gs ∧ StrsAre zs (placeOf ns j)
theorem FiledOk.snoc {ns : List Int} {gs : List (Addr × Obj)} {ys zs : List Value} {i G : Nat} (h : FiledOk ns gs ys i) (hz : StrsAre zs (placeOf ns i)) : FiledOk ns ((G, LCg.lst zs) :: gs) (ys ++ [.ref G]) (i + 1) := by
  refine ⟨by simp [h.1], fun j hj => ?_⟩
  by_cases c : j < i
  · obtain ⟨a, zs, e, hm, hs⟩ := h.2 j c
    exact ⟨a, zs, by rw [List.getElem?_append_left (by rw [h.1]; exact c)]; exact e, .tail _ hm, hs⟩
  · have : j = i := by omega
    subst this
    refine ⟨G, zs, ?_, .head _, hz⟩
    rw [List.getElem?_append_right (by rw [h.1]; exact Nat.le_refl _), h.1, Nat.sub_self]
    rfl
theorem off3_of {I C D : Nat} : ∀ {l : List (Addr × Obj)}, LCg.Off3 I C D l ↔ ∀ p ∈ l, (@Ne Nat p.1 I) ∧ (@Ne Nat p.1 C) ∧ (@Ne Nat p.1 D)
  | [] => ⟨fun _ p hp => (nomatch hp), fun _ => trivial⟩
  | a :: r => by
    show (_ ∧ LCg.Off3 I C D r) ↔ _
    rw [off3_of (l := r)]
    exact ⟨fun h p hp => (List.mem_cons.mp hp).elim (fun e => e ▸ h.1) (fun hp => h.2 p hp), fun h => ⟨h a (.head _), fun p hp => h p (.tail _ hp)⟩⟩
theorem off1_of {D : Nat} : ∀ {l : List (Addr × Obj)}, LCg.Off1 D l ↔ ∀ p ∈ l, @Ne Nat p.1 D
  | [] => ⟨fun _ p hp => (nomatch hp), fun _ => trivial⟩
  | a :: r => by
    show (_ ∧ LCg.Off1 D r) ↔ _
    rw [off1_of (l := r)]
    exact ⟨fun h p hp => (List.mem_cons.mp hp).elim (fun e => e ▸ h.1) (fun hp => h.2 p hp), fun h => ⟨h a (.head _), fun p hp => h p (.tail _ hp)⟩⟩
/-- the invariant of the comprehension of places -/
def CJ (ns : List Int) (base : List (Addr × Obj)) (i : Nat) (ys : List Value) (nx : List (Addr × Obj)) : Prop :=
  ∃ gs, nx = base ++ gs ∧ FiledOk ns gs ys i ∧ ∀ q ∈ gs, ∀ p ∈ base, p.1 ≠ q.1
theorem perm4 {h₀ h : Heap} {L I C D lh xh dh : Addr} {Z1 Z2 Z3 X1 X2 X3 : Obj} {rest : List (Addr × Obj)} (N : News h₀ L h ((I, Z1) :: (C, Z2) :: (D, Z3) :: (lh, X1) :: (xh, X2) :: (dh, X3) :: rest)) : News h₀ L h ((lh, X1) :: (xh, X2) :: (dh, X3) :: (I, Z1) :: (C, Z2) :: (D, Z3) :: rest) := cb_drop N (by kcj_all)
theorem end3 {h₀ h : Heap} {L I C D G lh xh dh : Nat} {m : Str → Option Value} {s₁ : Shared} {tk i : Nat} {oI oC oD X1 X2 X3 : Obj} {S : List (Addr × Obj) → Prop} {ns : List Int} {ys zs : List Value} {rest gs : List (Addr × Obj)} (F : Fr h₀ L h m)
    (N : News h₀ L h ((G, LCg.lst zs) :: (lh, X1) :: (xh, X2) :: (dh, X3) :: (I, oI) :: (C, oC) :: (D, oD) :: (rest ++ gs)))
    (O : LCg.Off1 G ((lh, X1) :: (xh, X2) :: (dh, X3) :: (I, oI) :: (C, oC) :: (D, oD) :: (rest ++ gs))) (off : LCg.Off3 I C D ((lh, X1) :: (xh, X2) :: (dh, X3) :: (rest ++ gs)))
    (hf : FiledOk ns gs ys i) (hg : ∀ q ∈ gs, ∀ p ∈ (lh, X1) :: (xh, X2) :: (dh, X3) :: rest, p.1 ≠ q.1) (hz : StrsAre zs (placeOf ns i)) (hS : ∀ nx, S nx) :
    LCg.CompEnd h₀ L m s₁ I oI C oC D oD S (fun y nx' => CJ ns ((lh, X1) :: (xh, X2) :: (dh, X3) :: rest) (i + 1) (ys ++ [y]) nx') (.ref G) { s₁ with heap := h, toks := tk } := by
  have o := off1_of.mp O
  have o3 := off3_of.mp off
  refine LCg.CompEnd.intro F N ((lh, X1) :: (xh, X2) :: (dh, X3) :: (rest ++ (G, LCg.lst zs) :: gs)) (fun p hp => ?_) (off3_of.mpr fun p hp => ?_) (hS _) ⟨_, rfl, hf.snoc hz, fun q hq p hp => ?_⟩
  · simp only [List.mem_cons, List.mem_append] at hp ⊢
    rcases hp with h | h | h | h | h | h | h | h | h <;> simp [h]
  · simp only [List.mem_cons, List.mem_append] at hp
    have k : ∀ p, p ∈ (lh, X1) :: (xh, X2) :: (dh, X3) :: (rest ++ gs) → (@Ne Nat p.1 I) ∧ (@Ne Nat p.1 C) ∧ (@Ne Nat p.1 D) := o3
    rcases hp with rfl | rfl | rfl | h | rfl | h
    · exact k _ (.head _)
    · exact k _ (.tail _ (.head _))
    · exact k _ (.tail _ (.tail _ (.head _)))
    · exact k _ (.tail _ (.tail _ (.tail _ (List.mem_append_left _ h))))
    · exact ⟨Ne.symm (o (I, oI) (by simp)), Ne.symm (o (C, oC) (by simp)), Ne.symm (o (D, oD) (by simp))⟩
    · exact k _ (.tail _ (.tail _ (.tail _ (List.mem_append_right _ h))))
  · rcases List.mem_cons.mp hq with rfl | hq
    · refine o p ?_
      simp only [List.mem_cons, List.mem_append] at hp ⊢
      rcases hp with h | h | h | h <;> simp [h]
    · exact hg q hq p hp
theorem str_dig0 {w : World} {A : Around} {E : Value → Shared → Prop} {s : Shared} {t : Tok} {Q : Value → Shared → Prop} {K : Nat} (h5 : K < 5) (h : ∀ t tk, Q (.str (Re.dig K) t) { s with toks := tk }) : wpAny (model PG w) A (call (.type "str") [.int (0 + (K : Int)) t]) Q E s := by
  have e : (0 + (K : Int)) = (K : Int) + 1 - 1 := by omega
  rw [e]
  exact str_dig h5 h
theorem end4 {h₀ h : Heap} {L D a1 a2 a3 a4 a5 a6 a7 l : Nat} {X Y Z1 Z2 Z3 Z4 Z5 Z6 Z7 : Obj} {own TN nw gs : List (Addr × Obj)}
    (N : News h₀ L h ((D, X) :: (a1, Z1) :: (a2, Z2) :: (a3, Z3) :: (a4, Z4) :: (a5, Z5) :: (a6, Z6) :: (a7, Z7) :: (l, Y) :: (own ++ TN ++ nw ++ gs))) :
    News h₀ L h ((D, X) :: (gs ++ (l, Y) :: (own ++ TN))) := fun p hp => N p (by
  simp only [List.mem_cons, List.mem_append] at hp ⊢
  rcases hp with h | h | h | h | h <;> simp [h])
theorem off4 {D a1 a2 a3 a4 a5 a6 a7 l r c : Nat} {X Y Y' Z1 Z2 Z3 Z4 Z5 Z6 Z7 R C : Obj} {own TN nw gs : List (Addr × Obj)}
    (O : LCg.Off1 D ((a1, Z1) :: (a2, Z2) :: (a3, Z3) :: (a4, Z4) :: (a5, Z5) :: (a6, Z6) :: (a7, Z7) :: (l, Y) :: (own ++ TN ++ nw ++ gs)))
    (hg : ∀ q ∈ gs, ∀ p ∈ (a1, Z1) :: (a2, Z2) :: (a3, Z3) :: (a4, Z4) :: (a5, Z5) :: (a6, Z6) :: (a7, Z7) :: (l, Y) :: (own ++ TN ++ nw), p.1 ≠ q.1)
    (ho : ∀ q ∈ (r, R) :: (c, C) :: (l, Y') :: own, ∀ p ∈ TN, p.1 ≠ q.1) : ∀ q ∈ (D, X) :: (gs ++ (l, Y) :: own), ∀ p ∈ TN, p.1 ≠ q.1 := by
  intro q hq p hp
  rcases List.mem_cons.mp hq with rfl | hq
  · exact off1_of.mp O p (by simp [hp])
  · rcases List.mem_append.mp hq with hq | hq
    · exact hg q hq p (by simp [hp])
    · rcases List.mem_cons.mp hq with rfl | hq
      · exact ho (l, Y') (.tail _ (.tail _ (.head _))) p hp
      · exact ho q (.tail _ (.tail _ (.tail _ hq))) p hp
abbrev retFiled (vs : List Value) (ns : List Int) (kk l : Nat) (own news : List (Addr × Obj)) (_w : World) (h₀ : Heap) (L : Addr) (m : Str → Option Value) (s : Shared) (Q : Value → Shared → Prop) : Prop :=
  ∀ (D : Nat) (ys : List Value) (gs TN' : List (Addr × Obj)) (h' : Heap) (tk' : Nat), FiledOk ns gs ys 5 → TabOn TN' news → (∀ q ∈ (D, LCg.lst ys) :: (gs ++ (l, listOf vs.toArray kk) :: own), ∀ p ∈ TN', p.1 ≠ q.1) → Fr h₀ L h' m → News h₀ L h' ((D, LCg.lst ys) :: (gs ++ (l, listOf vs.toArray kk) :: (own ++ TN'))) → Q (.ref D) { s with heap := h', toks := tk' }
theorem loop2 {prog : Program} {w w₀ : World} {A : Around} {E : Value → Shared → Prop} {s : Shared} {env : Env} {h₀ : Heap} {x : Str} {body : List Stmt} {Q : Flow → Shared → Prop} {m₀ : Str → Option Value} {z lh xh dh : Nat} {tkh : Tok} {zs : List Value} {ns : List Int} {base : List (Addr × Obj)} (ov : List Str)
    (hzs : StrsAre zs ((ns.map out).map tx)) (hh : A.handled = none) (F : Fr h₀ env.locals s.heap m₀) (hzb : (z, listOf zs.toArray 0) ∈ base) (N : News h₀ env.locals s.heap ((lh, listOf #[] 0) :: (xh, instObj 224 dh) :: (dh, hdrDict w₀ tkh lh) :: base))
    (hbl : ∀ p ∈ base, p.1 ≠ lh) (hdx : dh < xh) (hxl : xh < lh)
    (turn : ∀ (I : Nat) it (i : Nat) xi t U (its : Array Value) (k : Nat) nw h tk, ns[i]? = some xi → i < ns.length → TupRows nw its.toList (fileOf (ns.take i)) → its.size = i → (∀ p ∈ base ++ nw, p.1 ≠ lh) → lh < I → (∀ p ∈ base ++ nw, p.1 ≠ I) →
      Fr h₀ env.locals h (fun y => if y = x then some (.str (tx (out xi)) t) else ovl ov U m₀ y) → News h₀ env.locals h ((I, it) :: (lh, listOf its k) :: (xh, instObj 224 dh) :: (dh, hdrDict w₀ tkh lh) :: (base ++ nw)) →
      wpAny (model prog w) A (execs body env) (LPost h₀ env.locals { s with heap := h, toks := tk } I it (NRest ov m₀ (fun nx => ∃ its' k' nw', nx = (lh, listOf its' k') :: (xh, instObj 224 dh) :: (dh, hdrDict w₀ tkh lh) :: (base ++ nw') ∧ TupRows nw' its'.toList (fileOf (ns.take (i + 1))) ∧ its'.size = i + 1 ∧ (∀ p ∈ nw', p.1 ≠ lh))) Q) E { s with heap := h, toks := tk })
    (done : ∀ U (its : Array Value) (k : Nat) nw h tk, TupRows nw its.toList (fileOf ns) → its.size = ns.length → Fr h₀ env.locals h (ovl ov U m₀) → News h₀ env.locals h ((lh, listOf its k) :: (xh, instObj 224 dh) :: (dh, hdrDict w₀ tkh lh) :: (base ++ nw)) → Q .next { s with heap := h, toks := tk }) :
    wpAny (model prog w) A (pyIter (.ref z)) (fun it s₂ => LoopAtV prog w A h₀ env x body Q E it s₂) E s := by
  have hzl : zs.length = ns.length := by rw [hzs.length]; simp
  refine iter_listN (vs := zs) (nn := 0) ov (fun i nx => ∃ its' k' nw', nx = (lh, listOf its' k') :: (xh, instObj 224 dh) :: (dh, hdrDict w₀ tkh lh) :: (base ++ nw') ∧ TupRows nw' its'.toList (fileOf (ns.take i)) ∧ its'.size = i ∧ (∀ p ∈ nw', p.1 ≠ lh)) hh (.tail _ (.tail _ (.tail _ hzb))) ?_ F N ?_ ?_ ?_
  · rintro i nx ⟨its, k, nw, rfl, _⟩
    exact .tail _ (.tail _ (.tail _ (List.mem_append_left _ hzb)))
  · exact ⟨#[], 0, [], by rw [List.append_nil], ⟨rfl, fun i r v hr => by simp [fileOf] at hr⟩, rfl, fun p hp => by cases hp⟩
  · rintro I hI it i v U nx h tk hv ⟨its, k, nw, rfl, hs, hz, ho⟩ hoff F' N'
    obtain ⟨b, t, hn, rfl⟩ := strs_at hzs hv
    rw [List.map_map, List.getElem?_map] at hn
    obtain ⟨xi, hx, rfl⟩ := Option.map_eq_some_iff.mp hn
    have hi : i < ns.length := by
      rcases Nat.lt_or_ge i ns.length with h | h
      · exact h
      · rw [List.getElem?_eq_none h] at hx; cases hx
    refine turn I it i xi t U its k nw h tk hx hi hs hz (fun p hp => ?_) (hI _ (.head _)) (fun p hp => hoff p (.tail _ (.tail _ (.tail _ hp)))) F' N'
    rcases List.mem_append.mp hp with hp | hp
    · exact hbl p hp
    · exact ho p hp
  · rintro U nx h tk ⟨its, k, nw, rfl, hs, hz, ho⟩ F' N'
    rw [hzl] at hs hz
    rw [List.take_length] at hs
    exact done U its k nw h tk hs hz F' N'
end
end PartRows2
section PartOut
set_option rowWalk.seconds 0
section

/-- what a rule of one and a rule of the other give -/
def outStep (W : Nat → Nat → Int) (a b : List Nat) (i : Nat) (v : Int) (k : Nat) : Int := if a[i]? = some 45 ∧ b[k]? = some 45 ∧ i + k < a.length + b.length - 2 then Builtin.bitXor v (W i k) else v
def outRow (W : Nat → Nat → Int) (a b : List Nat) (v : Int) (i : Nat) : Int := (List.range b.length).foldl (outStep W a b i) v
def outc (W : Nat → Nat → Int) (a b : List Nat) : Int := (List.range a.length).foldl (outRow W a b) 0
/-- the rows of worth that an outcome reads -/
def WorthAt (NW : List (Addr × Obj)) (wrows : List Value) (W : Nat → Nat → Int) (n m : Nat) : Prop :=
  ∀ i k, i < n → k < m → i + k < n + m - 2 → ∃ ra vs kk ns, wrows[i]? = some (.ref ra) ∧ (ra, listOf (List.toArray vs) kk) ∈ NW ∧ IntsAre vs ns ∧ ns[k]? = some (W i k)
theorem fold_succ {α : Type} (f : α → Nat → α) (z : α) (k : Nat) : (List.range (k + 1)).foldl f z = f ((List.range k).foldl f z) k := by
  rw [List.range_succ, List.foldl_append]; rfl
theorem stepT {W : Nat → Nat → Int} {a b : List Nat} {i k c1 c2 : Nat} {z : Int} (hc1 : a[i]? = some c1) (hc2 : b[k]? = some c2) (h1 : c1 = 45) (h2 : c2 = 45) (h3 : i + k < a.length + b.length - 2) : (List.range (k + 1)).foldl (outStep W a b i) z = Builtin.bitXor ((List.range k).foldl (outStep W a b i) z) (W i k) := by
  subst h1 h2
  rw [fold_succ]; unfold outStep; rw [if_pos ⟨hc1, hc2, h3⟩]
theorem stepF {W : Nat → Nat → Int} {a b : List Nat} {i k : Nat} {z : Int} (h : ¬ (a[i]? = some 45 ∧ b[k]? = some 45 ∧ i + k < a.length + b.length - 2)) : (List.range (k + 1)).foldl (outStep W a b i) z = (List.range k).foldl (outStep W a b i) z := by
  rw [fold_succ]
  show outStep W a b i _ k = _
  unfold outStep; rw [if_neg h]
theorem off_three {a b c y : Str} (h : [a, b, c].contains y = false) : y ≠ a ∧ y ≠ b ∧ y ≠ c := by
  simp at h
  exact ⟨h.1, h.2.1, h.2.2⟩
theorem off_2of3 {a b c y : Str} (h : [a, b, c].contains y = false) : [b, c].contains y = false := by
  simp at h ⊢
  exact ⟨h.2.1, h.2.2⟩
theorem range5 {n : Nat} (h : n ≤ 5) : Builtin.Range.small 0 (n : Int) 1 = true ∧ Builtin.Range.rangeSize 0 (n : Int) 1 = (n : Int) := by
  have : n = 0 ∨ n = 1 ∨ n = 2 ∨ n = 3 ∨ n = 4 ∨ n = 5 := by omega
  rcases this with rfl | rfl | rfl | rfl | rfl | rfl <;> decide
section
variable {w : World} {A : Around} {E : Value → Shared → Prop} {s : Shared} {t u : Tok} {Q : Value → Shared → Prop} {value slice : Expr}
theorem chr {a : List Nat} {i c : Nat} (hc : a[i]? = some c) (hz : a.length ≤ 5) (h : ∀ t, Q (.str (tx [c]) t) { s with toks := s.toks + 1 })
    (hs : subscripted slice false (.str (tx a) t) (.int (0 + (i : Int)) u) = operate [.str (tx a) t, .int (0 + (i : Int)) u] (getItem (.str (tx a) t) (.int (0 + (i : Int)) u)))
    (ht : ∀ r, letTemporaryGo value (.str (tx a) t) r = pure ()) :
    wpAny (model PG w) A (subscriptTail value slice (.str (tx a) t) (.int (0 + (i : Int)) u)) Q E s := by
  have hi : i < a.length := by
    rcases Nat.lt_or_ge i a.length with h | h
    · exact h
    · rw [List.getElem?_eq_none h] at hc; cases hc
  have e0 : (0 : Int) + (i : Int) = (i : Int) := by omega
  rw [e0] at hs ⊢
  have hl := tx_len a
  refine tail_any (typeIs_str s (tx a) t) F.slot_str_getitem.lookup (P.getItem_str (c := c) ?_ ?_ (h _)) hs
  · simp; omega
  · rw [hl]
    have : seqIndex? (i : Int) a.length = some i := by
      unfold seqIndex?
      simp
      omega
    rw [this]
    show (tx a).cps[i]? = some c
    unfold tx
    simpa using hc
theorem dashT {c : Nat} (hc : c = 45) (h : Q (.bool true) s) : wpAny (model PG w) A (compareOp .Eq (.str (tx [c]) t) (.str (Str.ofString "-") u)) Q E s := by
  subst hc
  refine P.eq_str ?_
  have e : ((tx [45]).cps.toList == (Str.ofString "-").cps.toList) = true := by decide +kernel
  rw [e]; exact h
theorem dashF {c : Nat} (hc : c ≠ 45) (h : Q (.bool false) s) : wpAny (model PG w) A (compareOp .Eq (.str (tx [c]) t) (.str (Str.ofString "-") u)) Q E s := by
  refine P.eq_str ?_
  have e0 : (Str.ofString "-").cps.toList = [45] := by decide +kernel
  have e : ((tx [c]).cps.toList == (Str.ofString "-").cps.toList) = false := by
    rw [e0]
    show ([c] == [45]) = false
    simpa using hc
  rw [e]; exact h
theorem ltT {x y : Int} (e : x < y) (h : Q (.bool true) s) : wpAny (model PG w) A (compareOp .Lt (.int x t) (.int y u)) Q E s := lt_int (by simpa [e] using h)
theorem ltF {x y : Int} (e : ¬ x < y) (h : Q (.bool false) s) : wpAny (model PG w) A (compareOp .Lt (.int x t) (.int y u)) Q E s := lt_int (by rw [decide_eq_false e]; exact h)
theorem rowItem {h₀ : Heap} {L l ra : Addr} {its : List Value} {n i : Nat} {news : List (Addr × Obj)} (N : News h₀ L s.heap news) (hm : (l, listOf its.toArray n) ∈ news) (hi : i ≤ 100) (hv : its[i]? = some (.ref ra)) (h : Q (.ref ra) s)
    (hs : subscripted slice false (.ref l) (.int (0 + (i : Int)) u) = operate [.ref l, .int (0 + (i : Int)) u] (getItem (.ref l) (.int (0 + (i : Int)) u))) (ht : ∀ r, letTemporaryGo value (.ref l) r = pure ()) :
    wpAny (model PG w) A (subscriptTail value slice (.ref l) (.int (0 + (i : Int)) u)) Q E s :=
  item_listL (News.isList N hm) (by omega) (by omega) (by rw [show (0 + (i : Int)).toNat = i by omega]; exact hv) h hs ht
theorem intItem {h₀ : Heap} {L l : Addr} {its : List Value} {ns : List Int} {n i : Nat} {x : Int} {news : List (Addr × Obj)} (N : News h₀ L s.heap news) (hm : (l, listOf its.toArray n) ∈ news) (hi : i ≤ 100) (hI : IntsAre its ns) (hv : ns[i]? = some x) (h : ∀ t, Q (.int x t) s)
    (hs : subscripted slice false (.ref l) (.int (0 + (i : Int)) u) = operate [.ref l, .int (0 + (i : Int)) u] (getItem (.ref l) (.int (0 + (i : Int)) u))) :
    wpAny (model PG w) A (subscriptTail value slice (.ref l) (.int (0 + (i : Int)) u)) Q E s := by
  have : ∃ t, its[i]? = some (.int x t) := by
    clear hs h hm N hi
    induction hI generalizing i with
    | nil => simp at hv
    | cons n t _ ih =>
      cases i with
      | zero => simp at hv; subst hv; exact ⟨t, rfl⟩
      | succ i => simp at hv ⊢; exact ih hv
  obtain ⟨t, ht⟩ := this
  exact tail_any (News.isList N hm).typeIs slot_list_getitem.lookup (wpAny_getItem_list (News.isList N hm) (by omega) (by omega) (x := .int x t) (by rw [show (0 + (i : Int)).toNat = i by omega]; simpa using ht) (h t)) hs
end
theorem lenS {w : World} {A : Around} {E : Value → Shared → Prop} {s : Shared} {t : Tok} {Q : Value → Shared → Prop} {b : List Nat} (hz : b.length ≤ 5) (h : ∀ t tk, Q (.int (b.length : Int) t) { s with toks := tk }) : wpAny (model PG w) A (call (.builtin "len") [.str (tx b) t]) Q E s := by
  refine PyProof.Rows.len_str (by rw [tx_len]; omega) ?_
  rw [tx_len]
  exact h _ _
theorem outcome (W : Nat → Nat → Int) (a b : List Nat) (wa kw : Nat) (wrows : List Value) (NW : List (Addr × Obj)) (hw : (wa, listOf wrows.toArray kw) ∈ NW) (hW : WorthAt NW wrows W a.length b.length)
    (ha : ∀ c ∈ a, c = 45 ∨ c = 46) (hb : ∀ c ∈ b, c = 45 ∨ c = 46) (ha5 : a.length ≤ 5) (hb5 : b.length ≤ 5) (t1 t2 : Tok) : Ctr 247 4 48 [.ref wa, .str (tx a) t1, .str (tx b) t2] NW (retInt NW (outc W a b)) := by
  intro w p loose mean mg mb dp un gd cnF cs aF ccd clF outer A₀ base h₀ L m s Q E B F X N T hk hdp hun hret
  k_with_none
  k_with "for!" => ((rename Fr _ _ _ _ => lF'); (with_unfolding_all refine' For_invVF lF' ?k1 ?k2 ?_; (case k1 => exact rfl); (case k2 => exact rfl); k_whole))
  refine wpAny_call ?_
  k_dflt (refine' code_def ?k1 ?k2 ?k3 ?k4 ?k5 ?kA ?kF ?kK ?k6 ?k7 ?k8 ?k9 ?kB ?_ ?c2 ?c3 ?c4 ?c5; (case kA => exact rfl); (case kF => exact rfl); (case kK => first | exact rfl | assumption); (case k1 => k_asm); (case k2 => k_asm); (case k3 => k_asm); (case k4 => k_asm); (case k5 => k_asm); (case k6 => k_is); (case k7 => k_is); (case k8 => ktr_room); (case k9 => first | exact BindsTo.of_eq rfl | exact binds_K (by k_in) rfl (by k_is) rfl rfl rfl); (case c5 => decide); (case kB => exact locs rfl); (case c2 => exact rfl); (case c3 => exact rfl); (case c4 => exact rfl); k_whole; intro g' L' h' FG' F' N' B' X' T'; (try dsimp only); (try k_lift B'); (try k_fold))
  k_with "len!" => (k_dflt (refine' lenS ?hz ?_; (case hz => assumption)); intro t9 k9; (try k_fold))
  k_with "chr!" => (k_dflt (refine' chr ?hc ?hz ?_ ?hs ?ht; (case hc => assumption); (case hz => assumption); (case hs => with_unfolding_all rfl); (case ht => (intro _; with_unfolding_all rfl))); intro t9)
  k_with "row!" => (k_dflt (refine' rowItem ?N ?hm ?hi ?hv ?_ ?hs ?ht; (case N => k_asm); (case hv => assumption); (case hm => exact .tail _ (.tail _ hw)); (case hi => omega); (case hs => with_unfolding_all rfl); (case ht => (intro _; with_unfolding_all rfl))))
  k_with "cell!" => (k_dflt (refine' intItem ?N ?hm ?hi ?hI ?hv ?_ ?hs; (case N => k_asm); (case hv => assumption); (case hI => assumption); (case hm => exact .tail _ (.tail _ hr2)); (case hi => omega); (case hs => with_unfolding_all rfl)); intro t9)
  k_with "dash!" => (k_dflt (first | refine dashT h1 ?_ | refine dashF h1 ?_ | refine dashT h2 ?_ | refine dashF h2 ?_))
  k_with "lt!" => (k_dflt (first | refine ltT (by omega) ?_ | refine ltF (by omega) ?_))
  iterate 21 (first | (k_unfold; (try dsimp only)) | walk1 | (dsimp only; walk1))
  k_dflt (refine' iter_rangeA (n := a.length) [Str.ofString "i", Str.ofString "k", Str.ofString "value"] (Str.ofString "value") (fun i v nx => NW = nx ∧ ∃ t, v = .int ((List.range i).foldl (outRow W a b) 0) t) ?zz1 rfl ?zz2 (range5 ha5).1 (range5 ha5).2 ?zz3 ?zz4 ⟨rfl, _, rfl⟩ ?zz5 ?zz6; (case zz3 => k_asm); (case zz4 => k_asm); (case zz2 => assumption); (case zz1 => rfl))
  · rintro I hI it i t v U nx h tk hi ⟨rfl, tv, rfl⟩ hoff F1 N1
    (try k_fold)
    iterate 16 (first | (k_unfold; (try dsimp only)) | walk1 | (dsimp only; walk1))
    k_dflt (refine' iter_rangeA (n := b.length) [Str.ofString "k", Str.ofString "value"] (Str.ofString "value") (fun k v nx => (I, it) :: NW = nx ∧ ∃ t, v = .int ((List.range k).foldl (outStep W a b i) ((List.range i).foldl (outRow W a b) 0)) t) ?yy1 rfl ?yy2 (range5 hb5).1 (range5 hb5).2 ?yy3 ?yy4 ⟨rfl, _, rfl⟩ ?yy5 ?yy6; (case yy3 => k_asm); (case yy4 => k_asm); (case yy2 => assumption); (case yy1 => rfl))
    · rintro I2 hI2 it2 k t2 v2 U2 nx2 h2 tk2 hk2 ⟨rfl, tv2, rfl⟩ hoff2 F2 N2
      (try k_fold)
      obtain ⟨c1, hc1⟩ : ∃ c, a[i]? = some c := ⟨_, List.getElem?_eq_getElem hi⟩
      obtain ⟨c2, hc2⟩ : ∃ c, b[k]? = some c := ⟨_, List.getElem?_eq_getElem hk2⟩
      by_cases h1 : c1 = 45
      · by_cases h2 : c2 = 45
        · by_cases h3 : i + k < a.length + b.length - 2
          · obtain ⟨ra, rvs, rk, rns, hr1, hr2, hr3, hr4⟩ := hW i k hi hk2 h3
            k_steps
            (show LEnd _ _ _ _ _ _ _); exact LEnd.intro (by k_asm) (by assumption) ((I, it) :: NW) (by kcj_all) hoff2 ⟨by intro y hy; obtain ⟨y1, y2⟩ := off_two hy; simp only [y1, y2, ovl, hy, Bool.false_eq_true, if_false], _, rfl, rfl, _, congrArg (fun z => Value.int z _) (stepT hc1 hc2 h1 h2 h3).symm⟩
          · k_steps
            (show LEnd _ _ _ _ _ _ _); exact LEnd.intro (by k_asm) (by assumption) ((I, it) :: NW) (by kcj_all) hoff2 ⟨by intro y hy; obtain ⟨y1, y2⟩ := off_two hy; simp only [y1, y2, ovl, hy, Bool.false_eq_true, if_false], _, rfl, rfl, _, congrArg (fun z => Value.int z _) (stepF fun h => h3 h.2.2).symm⟩
        · k_steps
          (show LEnd _ _ _ _ _ _ _); exact LEnd.intro (by k_asm) (by assumption) ((I, it) :: NW) (by kcj_all) hoff2 ⟨by intro y hy; obtain ⟨y1, y2⟩ := off_two hy; simp only [y1, y2, ovl, hy, Bool.false_eq_true, if_false], _, rfl, rfl, _, congrArg (fun z => Value.int z _) (stepF fun h => h2 (Option.some.inj (hc2.symm.trans h.2.1))).symm⟩
      · k_steps
        (show LEnd _ _ _ _ _ _ _); exact LEnd.intro (by k_asm) (by assumption) ((I, it) :: NW) (by kcj_all) hoff2 ⟨by intro y hy; obtain ⟨y1, y2⟩ := off_two hy; simp only [y1, y2, ovl, hy, Bool.false_eq_true, if_false], _, rfl, rfl, _, congrArg (fun z => Value.int z _) (stepF fun h => h1 (Option.some.inj (hc1.symm.trans h.1))).symm⟩
    · rintro v2 U2 nx2 h2 tk2 ⟨rfl, tv2, rfl⟩ F2 N2
      (try k_fold)
      k_steps
      (show LEnd _ _ _ _ _ _ _); exact LEnd.intro (by k_asm) (by assumption) NW (by kcj_all) hoff ⟨by intro y hy; obtain ⟨y1, y2, y3⟩ := off_three hy; simp only [y1, y2, y3, ovl, off_2of3 hy, hy, Bool.false_eq_true, if_false], _, rfl, rfl, _, congrArg (fun z => Value.int z _) (fold_succ _ _ _).symm⟩
  · rintro v U nx h tk ⟨rfl, tv, rfl⟩ F1 N1
    (try k_fold)
    k_steps
    exact hret _ _ _ (by k_asm) (by k_asm)
end
end PartOut
section PartBis
set_option rowWalk.seconds 0
section
theorem keys1 (h : Int) (n : Str) (t : Tok) (v : Value) : StrKeys #[⟨h, .str n t, v⟩] := fun e he => by
  simp at he
  exact ⟨n, t, by rw [he]⟩
theorem find1 (h : Int) (n : Str) (t : Tok) (v : Value) : nsFind #[⟨h, .str n t, v⟩] n = some v := by
  unfold nsFind findBy
  rw [← Array.find?_toList]
  have : (Value.str n t).isStr n = true := by unfold Value.isStr; simp
  simp [this]
theorem binds_D {α β : Type} {K : Frag} {s : Shared} {fd : FuncData} {args : Args} {binds : List (Str × Value)} {T D : Addr} {o od : Obj} {items : Array Value} {es : Array DictEntry} {n ep : Nat} {name : Str} {k : Option (Array Value) → Sem (List (Str × Value))} {k1 : Option Value → Sem α} {k2 : α → Sem β} {k3 : β → Sem (List (Str × Value))} {a : α} {b : β} {v : Value} (X : K.In s.heap)
    (hd : fd.defaults = .ref T) (ho : K.lookup T = some o) (hs : o.data = .seq items n) (_hk : fd.kwdefaults = .ref D) (hod : K.lookup D = some od) (hsd : od.data = .dict es ep) (hkeys : StrKeys es)
    (h₁ : bindArgs fd args = seqItems? fd.defaults >>= k) (h₂ : k (some items) = ((nsGet D name >>= k1) >>= k2) >>= k3) (hv : nsFind es name = some v) (h₃ : k1 (some v) = pure a) (h₄ : k2 a = pure b) (h₅ : k3 b = pure binds) : BindsTo s fd args binds :=
  fun _ _ _ _ hq => by
    rw [h₁, hd]
    refine wpAny_bind (wpAny_seqItems (X _ _ ho) hs ?_)
    rw [h₂]
    refine wpAny_bind (wpAny_bind (wpAny_bind (wpAny_nsGet ⟨od, es, ep, X _ _ hod, hsd, hkeys, fun _ => rfl⟩ ?_)))
    rw [hv, h₃]
    refine wpAny_pure ?_
    rw [h₄]
    refine wpAny_pure ?_
    rw [h₅]
    exact wpAny_pure hq
def LO : Str := Str.ofString "lo"
/-- the invariant of the search -/
abbrev BJ (m₀ : Str → Option Value) (news : List (Addr × Obj)) (p len : Int) (n : Nat) (m : Str → Option Value) (nx : List (Addr × Obj)) : Prop :=
  ∃ lo hi tl th, m (Str.ofString "lo") = some (.int lo tl) ∧ m (Str.ofString "hi") = some (.int hi th) ∧ (∀ y, [Str.ofString "lo", Str.ofString "hi", Str.ofString "mid"].contains y = false → m y = m₀ y) ∧ 0 ≤ lo ∧ lo ≤ p ∧ p ≤ hi ∧ hi ≤ len ∧ n = (hi - lo).toNat ∧ news = nx
theorem two_of {ov : List Str} {a b : Str} {m m₀ : Str → Option Value} {v u : Value} (hab : a ≠ b) (ha : m a = some v) (hb : m b = some u) (h : ∀ y, ov.contains y = false → m y = m₀ y) : m = fun y => if y = a then some v else if y = b then some u else ovl ov m m₀ y := by
  funext y
  by_cases e : y = a
  · rw [if_pos e, e, ha]
  · rw [if_neg e]
    by_cases e2 : y = b
    · rw [if_pos e2, e2, hb]
    · rw [if_neg e2]; exact congrFun (ovl_of h) y
theorem while_bis {prog : Program} {w : World} {A : Around} {E : Value → Shared → Prop} {Q : Flow → Shared → Prop} {s : Shared} {env : Env} {h₀ : Heap} {L : Addr} {test : Expr} {body : List Stmt} {pos : Pos} {m₀ : Str → Option Value} {news : List (Addr × Obj)} {p len : Int} {tl th : Tok}
    (h1 : m₀ (Str.ofString "lo") = some (.int 0 tl)) (h2 : m₀ (Str.ofString "hi") = some (.int len th)) (hp0 : 0 ≤ p) (hp : p ≤ len) (F : Fr h₀ L s.heap m₀) (N : News h₀ L s.heap news)
    (turn : ∀ lo hi tl th U h tk, 0 ≤ lo → lo ≤ p → p ≤ hi → hi ≤ len → Fr h₀ L h (fun y => if y = Str.ofString "lo" then some (.int lo tl) else if y = Str.ofString "hi" then some (.int hi th) else ovl [Str.ofString "lo", Str.ofString "hi", Str.ofString "mid"] U m₀ y) → News h₀ L h news →
      wpAny (model prog w) A (isTrue test env (eval test env)) (fun b s₂ => if b = true then wpAny (model prog w) A (execs body env) (WhileStep h₀ L s (BJ m₀ news p len) (hi - lo).toNat) E s₂ else Q .next s₂) E { s with heap := h, toks := tk })
    (hE : PassesOwn (model prog w) A env E := by passes_own) : wpAny (model prog w) A (exec (.While test body [] pos) env) Q E s := by
  refine While_inv (BJ m₀ news p len) (n₀ := (len - 0).toNat) F N ⟨0, len, tl, th, h1, h2, fun _ _ => rfl, by omega, hp0, hp, by omega, rfl, rfl⟩ ?_ hE
  rintro n m₁ nx h tk F₁ N₁ ⟨lo, hi, tl, th, e1, e2, hm, a1, a2, a3, a4, rfl, rfl⟩
  rw [two_of (by decide +kernel) e1 e2 hm] at F₁
  exact turn lo hi tl th m₁ h tk a1 a2 a3 a4 F₁ N₁
section
variable {w : World} {A : Around} {E : Value → Shared → Prop} {s : Shared} {t u : Tok} {Q : Value → Shared → Prop} {value slice : Expr}
theorem divMid {x : Int} (h : Q (.int (x / 2) s.toks) { s with toks := s.toks + 1 }) : wpAny (model PG w) A (binaryOp .FloorDiv (.int x t) (.int 2 u)) Q E s :=
  floordiv_int (by decide) (by rw [Int.fdiv_eq_ediv_of_nonneg _ (by decide)]; exact h) (Or.inl (PyProof.noPylong_of_log2 (by decide +kernel)))
theorem intItemZ {h₀ : Heap} {L l : Addr} {its : List Value} {ns : List Int} {n : Nat} {i x : Int} {news : List (Addr × Obj)} (N : News h₀ L s.heap news) (hm : (l, listOf its.toArray n) ∈ news) (hi0 : 0 ≤ i) (hi : i < 2 ^ 62) (hI : IntsAre its ns) (hv : ns[i.toNat]? = some x) (h : ∀ t, Q (.int x t) s)
    (hs : subscripted slice false (.ref l) (.int i u) = operate [.ref l, .int i u] (getItem (.ref l) (.int i u))) :
    wpAny (model PG w) A (subscriptTail value slice (.ref l) (.int i u)) Q E s := by
  obtain ⟨k, rfl⟩ := Int.eq_ofNat_of_zero_le hi0
  have : ∃ t, its[k]? = some (.int x t) := by
    have hv' : ns[k]? = some x := hv
    clear hs h hm N hi hv hi0
    induction hI generalizing k with
    | nil => simp at hv'
    | cons n t _ ih =>
      cases k with
      | zero => simp at hv'; subst hv'; exact ⟨t, rfl⟩
      | succ k => simp at hv' ⊢; exact ih k hv'
  obtain ⟨t, ht⟩ := this
  exact tail_any (News.isList N hm).typeIs slot_list_getitem.lookup (wpAny_getItem_list (News.isList N hm) (by omega) (by omega) (x := .int x t) (by simpa using ht) (h t)) hs
theorem lenI {h₀ : Heap} {L l : Addr} {its : List Value} {ns : List Int} {n : Nat} {news : List (Addr × Obj)} (N : News h₀ L s.heap news) (hm : (l, listOf its.toArray n) ∈ news) (hI : IntsAre its ns) (hz : ns.length ≤ 1000) (h : ∀ t tk, Q (.int (ns.length : Int) t) { s with toks := tk }) :
    wpAny (model PG w) A (call (.builtin "len") [.ref l]) Q E s := KM.len_K (n := ns.length) N hm (by simpa using hI.length) (by omega) (h _ _)
end
/-- how many are below x -/
def below (ns : List Int) (x : Int) : Nat := (ns.filter fun n => decide (n < x)).length
theorem below_le (ns : List Int) (x : Int) : below ns x ≤ ns.length := List.length_filter_le ..
theorem below_iff {x : Int} : ∀ {ns : List Int}, ns.Pairwise (· < ·) → ∀ {j : Nat} {y : Int}, ns[j]? = some y → (y < x ↔ j < below ns x)
  | [], _, j, y, h => by simp at h
  | a :: r, hs, j, y, h => by
    rw [List.pairwise_cons] at hs
    unfold below
    rw [List.filter_cons]
    by_cases ha : a < x
    · rw [if_pos (by simpa using ha)]
      cases j with
      | zero => simp at h; subst h; simp [ha]
      | succ j =>
        simp at h
        have := below_iff (x := x) hs.2 h
        rw [this]
        unfold below
        simp
    · rw [if_neg (by simpa using ha)]
      have hr : r.filter (fun n => decide (n < x)) = [] := by
        rw [List.filter_eq_nil_iff]
        intro b hb
        have := hs.1 b hb
        simp; omega
      rw [hr]
      cases j with
      | zero => simp at h; subst h; simp; omega
      | succ j =>
        simp at h
        have := hs.1 y (List.mem_of_getElem? h)
        simp; omega
theorem bisect (ns : List Int) (hs : ns.Pairwise (· < ·)) (hz : ns.length ≤ 1000) (vs : List Value) (l k : Nat) (x : Int) (NW : List (Addr × Obj)) (hm : (l, listOf vs.toArray k) ∈ NW) (hvs : IntsAre vs ns) (t1 t2 : Tok) :
    Ctr 63 4 48 [.ref l, .int x t1, .int 0 t2, .none] NW (retInt NW (below ns x)) := by
  intro w p loose mean mg mb dp un gd cnF cs aF ccd clF outer A₀ base h₀ L m s Q E B F X N T hk hdp hun hret
  k_with_none
  k_with "lt!" => (k_dflt (first | refine ltT (by omega) ?_ | refine ltF (by omega) ?_))
  k_with "len!" => (k_dflt (refine' lenI ?N ?hm ?hI ?hz ?_; (case N => k_asm); (case hm => assumption); (case hI => assumption); (case hz => assumption)); intro t9 k9; (try k_fold))
  refine wpAny_call ?_
  k_dflt (refine' code_def ?k1 ?k2 ?k3 ?k4 ?k5 ?kA ?kF ?kK ?k6 ?k7 ?k8 ?k9 ?kB ?_ ?c2 ?c3 ?c4 ?c5; (case kA => exact rfl); (case kF => exact rfl); (case kK => first | exact rfl | assumption); (case k1 => k_asm); (case k2 => k_asm); (case k3 => k_asm); (case k4 => k_asm); (case k5 => k_asm); (case k6 => k_is); (case k7 => k_is); (case k8 => ktr_room); (case k9 => first | exact BindsTo.of_eq rfl | exact binds_K (by k_in) rfl (by k_is) rfl rfl rfl | (refine' binds_D ?b1 ?b2 ?b3 ?b4 ?b5 ?b6 ?b7 ?b8 ?b9 ?b10 ?b14 ?b11 ?b12 ?b13; (case b1 => k_in); (case b2 => exact rfl); (case b3 => k_is); (case b4 => exact rfl); (case b5 => exact rfl); (case b6 => k_is); (case b7 => exact rfl); (case b8 => exact keys1 _ _ _ _); (case b9 => exact rfl); (case b10 => exact rfl); (case b14 => exact find1 _ _ _ _); (case b11 => exact rfl); (case b12 => exact rfl); (case b13 => exact rfl))); (case c5 => decide); (case kB => exact locs rfl); (case c2 => exact rfl); (case c3 => exact rfl); (case c4 => exact rfl); k_whole; intro g' L' h' FG' F' N' B' X' T'; (try dsimp only); (try k_lift B'); (try k_fold))
  k_with "div!" => (k_dflt (refine divMid ?_))
  iterate 41 (first | (k_unfold; (try dsimp only)) | walk1 | (dsimp only; walk1))
  k_dflt (refine' while_bis (p := (below ns x : Nat)) (len := (ns.length : Nat)) ?zz1 ?zz2 (by omega) (by have := below_le ns x; omega) ?zz3 ?zz4 ?zz5 ?zz6; (case zz3 => k_asm); (case zz4 => k_asm); (case zz1 => rfl); (case zz2 => rfl))
  case zz5 =>
    intro lo hi tl th U h tk a1 a2 a3 a4 F1 N1
    (try k_fold)
    by_cases hlh : lo < hi
    · have m1 : lo ≤ (lo + hi) / 2 := by omega
      have m2 : (lo + hi) / 2 < hi := by omega
      obtain ⟨M, hM⟩ : ∃ M : Int, M = (lo + hi) / 2 := ⟨_, rfl⟩
      rw [← hM] at m1 m2
      obtain ⟨y, hy⟩ : ∃ y, ns[M.toNat]? = some y := ⟨_, List.getElem?_eq_getElem (show M.toNat < ns.length by omega)⟩
      have hb := below_iff (x := x) hs hy
      k_with "div!" => (k_dflt (refine divMid ?_); (try rw [← hM]))
      k_with "item!" => (k_dflt (refine' intItemZ ?N ?hm ?h0 ?hi ?hI hy ?_ ?hs; (case N => k_asm); (case hm => assumption); (case h0 => omega); (case hi => omega); (case hI => assumption); (case hs => with_unfolding_all rfl)); intro t9)
      by_cases hyx : y < x
      · have hb' := hb.mp hyx
        k_steps
        exact WhileStep.intro (n' := (hi - (M + 1)).toNat) (by k_asm) (by k_asm) (by omega) ⟨M + 1, hi, _, _, rfl, rfl, by intro y hy; obtain ⟨y1, y2, y3⟩ := off_three hy; simp only [y1, y2, y3, ovl, hy, Bool.false_eq_true, if_false], by omega, by omega, by omega, by omega, rfl, rfl⟩
      · have hb' : ¬ M.toNat < below ns x := fun h => hyx (hb.mpr h)
        k_steps
        exact WhileStep.intro (n' := (M - lo).toNat) (by k_asm) (by k_asm) (by omega) ⟨lo, M, _, _, rfl, rfl, by intro y hy; obtain ⟨y1, y2, y3⟩ := off_three hy; simp only [y1, y2, y3, ovl, hy, Bool.false_eq_true, if_false], by omega, by omega, by omega, by omega, rfl, rfl⟩
    · k_steps
      have e : lo = (below ns x : Nat) := by omega
      rw [e]
      exact hret _ _ _ (by k_asm) (by k_asm)
  case zz6 => passes_own
end
end PartBis
section PartIns
set_option rowWalk.seconds 0
section
/-- x put in its place -/
def putIn (ns : List Int) (x : Int) : List Int := ns.take (below ns x) ++ x :: ns.drop (below ns x)
theorem fits_idx {n : Nat} (h : n ≤ 1000) : Builtin.List.listFitsIndex (n : Int) = true := by
  unfold Builtin.List.listFitsIndex; simp; omega
theorem fits_line (vs : List Value) (h : vs.length ≤ 1000) : vs.toArray.toList.length ≤ sizeLine := Nat.le_trans (by simpa using h) (by decide)
theorem ins_nat (vs : List Value) (n : Nat) (y : Value) (h : n ≤ vs.length) : kl_ins vs.toArray.toList (n : Int) y = vs.take n ++ y :: vs.drop n := by
  unfold kl_ins
  have : ¬ ((n : Int) < 0) := by omega
  simp [this, Nat.min_eq_left h]
theorem ints_ins {vs : List Value} {ns : List Int} (h : IntsAre vs ns) (x : Int) (t : Tok) (k : Nat) : IntsAre (vs.take k ++ .int x t :: vs.drop k) (ns.take k ++ x :: ns.drop k) := by
  induction h generalizing k with
  | nil => simp; exact .cons x t .nil
  | cons n u h ih =>
    cases k with
    | zero => simp; exact .cons x t (.cons n u h)
    | succ k => simp; exact .cons n u (ih k)
abbrev retIns (ns : List Int) (x : Int) (l : Nat) (news : List (Addr × Obj)) (_w : World) (h₀ : Heap) (L : Addr) (m : Str → Option Value) (s : Shared) (Q : Value → Shared → Prop) : Prop :=
  ∀ (vs' : List Value) (k' : Nat) (h' : Heap) (tk' : Nat), IntsAre vs' (putIn ns x) → Fr h₀ L h' m → News h₀ L h' ((l, listOf vs'.toArray k') :: news) → Q .none { s with heap := h', toks := tk' }
theorem insort (ns : List Int) (hs : ns.Pairwise (· < ·)) (hz : ns.length ≤ 1000) (vs : List Value) (l k : Nat) (x : Int) (news : List (Addr × Obj)) (hn : ∀ p ∈ news, p.1 ≠ l) (hvs : IntsAre vs ns) (t1 : Tok) :
    Ctr 54 8 96 [.ref l, .int x t1] ((l, listOf vs.toArray k) :: news) (retIns ns x l news) := by
  intro w p loose mean mg mb dp un gd cnF cs aF ccd clF outer A₀ base h₀ L m s Q E B F X N T hk hdp hun hret
  k_with_none
  k_with "call ref!" => ((try dsimp only [List.nil_append, List.cons_append]); ((with_reducible show wpAny _ _ (call (Value.ref _) [Value.ref _, Value.int _ _, Value.int _ _, Value.none]) _ _ _); k_dflt (refine' Ctr.use ?k1 ?k2 ?k3 ?k4 ?k5 ?kK (bisect ns hs hz vs l k x _ ?hm hvs _ _) ?kd ?ku ?_; (case k1 => k_asm); (case k2 => k_asm); (case k3 => k_asm); (case k4 => k_asm); (case k5 => k_asm); (case kK => first | exact rfl | assumption); (case hm => exact .head _); (case kd => ktr_room); (case ku => ktr_units)); intro t9 h9 tk9 F9 N9; (try dsimp only); (try k_fold)))
  have hlen : vs.length = ns.length := hvs.length
  have hbl := below_le ns x
  k_with "ins!" => ((try dsimp only [List.cons_append, List.nil_append]); k_dflt (refine' kl_insert (l := vs.take (below ns x) ++ .int x t1 :: vs.drop (below ns x)) ?F ?N ?f ?e ?U ?z ?_; (case F => k_asm); (case N => k_asm); (case U => k_upd); (case f => exact fits_idx (by omega)); (case e => exact ins_nat vs (below ns x) _ (by omega)); (case z => exact fits_line vs (by omega))); intro h9 F9 N9)
  refine wpAny_call ?_
  k_dflt (refine' code_def ?k1 ?k2 ?k3 ?k4 ?k5 ?kA ?kF ?kK ?k6 ?k7 ?k8 ?k9 ?kB ?_ ?c2 ?c3 ?c4 ?c5; (case kA => exact rfl); (case kF => exact rfl); (case kK => first | exact rfl | assumption); (case k1 => k_asm); (case k2 => k_asm); (case k3 => k_asm); (case k4 => k_asm); (case k5 => k_asm); (case k6 => k_is); (case k7 => k_is); (case k8 => ktr_room); (case k9 => first | exact BindsTo.of_eq rfl | exact binds_K (by k_in) rfl (by k_is) rfl rfl rfl | (refine' binds_D ?b1 ?b2 ?b3 ?b4 ?b5 ?b6 ?b7 ?b8 ?b9 ?b10 ?b14 ?b11 ?b12 ?b13; (case b1 => k_in); (case b2 => exact rfl); (case b3 => k_is); (case b4 => exact rfl); (case b5 => exact rfl); (case b6 => k_is); (case b7 => exact rfl); (case b8 => exact keys1 _ _ _ _); (case b9 => exact rfl); (case b10 => exact rfl); (case b14 => exact find1 _ _ _ _); (case b11 => exact rfl); (case b12 => exact rfl); (case b13 => exact rfl))); (case c5 => decide); (case kB => exact locs rfl); (case c2 => exact rfl); (case c3 => exact rfl); (case c4 => exact rfl); k_whole; intro g' L' h' FG' F' N' B' X' T'; (try dsimp only); (try k_lift B'); (try k_fold))
  k_steps
  all_goals exact hret _ _ _ _ (ints_ins hvs x t1 (below ns x)) (by k_asm) (by k_asm)
end
end PartIns
section PartGap
set_option rowWalk.seconds 0
section
theorem rangeKs_at' (n : Nat) (M : Int) (h0 : 0 ≤ M) (h : M.toNat < n) : (rangeKs 0 ((n : Int) - 0).toNat)[M.toNat]? = some M := by
  have e : ((n : Int) - 0).toNat = n := by omega
  rw [e]
  unfold rangeKs
  rw [List.getElem?_map, List.getElem?_range h]
  simp
  omega
section
variable {w : World} {A : Around} {E : Value → Shared → Prop} {s : Shared} {Q : Value → Shared → Prop} {t u : Tok}
theorem lenR {h₀ : Heap} {L l : Addr} {its : List Value} {n k : Nat} {news : List (Addr × Obj)} (N : News h₀ L s.heap news) (hm : (l, listOf its.toArray k) ∈ news) (hI : IntsAre its (rangeKs 0 ((n : Int) - 0).toNat)) (hz : n ≤ 1000) (h : ∀ t tk, Q (.int (n : Int) t) { s with toks := tk }) :
    wpAny (model PG w) A (call (.builtin "len") [.ref l]) Q E s := KM.len_K (n := n) N hm (by have := hI.length; rw [rangeKs_length] at this; simp; omega) (by omega) (h _ _)
theorem gtT {x y : Int} (e : y < x) (h : Q (.bool true) s) : wpAny (model PG w) A (compareOp .Gt (.int x t) (.int y u)) Q E s := PyProof.Rows.gt_int (by simpa [e] using h)
theorem gtF {x y : Int} (e : ¬ y < x) (h : Q (.bool false) s) : wpAny (model PG w) A (compareOp .Gt (.int x t) (.int y u)) Q E s := PyProof.Rows.gt_int (by rw [decide_eq_false e]; exact h)
end
/-- how far the list goes i, i + 1, .. -/
def gapFrom : List Int → Int → Nat
  | [], _ => 0
  | a :: r, i => if a = i then gapFrom r (i + 1) + 1 else 0
def gapOf (ns : List Int) : Nat := gapFrom ns 0
theorem gapFrom_le : ∀ (ns : List Int) (i : Int), gapFrom ns i ≤ ns.length
  | [], _ => Nat.le_refl _
  | a :: r, i => by
    unfold gapFrom
    have := gapFrom_le r (i + 1)
    split <;> simp <;> omega
theorem gapFrom_iff : ∀ {ns : List Int} {i : Int} {k : Nat} {y : Int}, ns.Pairwise (· < ·) → (∀ x ∈ ns, i ≤ x) → ns[k]? = some y → (i + k < y ↔ gapFrom ns i ≤ k)
  | [], _, _, _, _, _, h => by simp at h
  | a :: r, i, k, y, hs, h0, h => by
    rw [List.pairwise_cons] at hs
    unfold gapFrom
    have ha := h0 a (.head _)
    have hgt : ∀ {j : Nat} {z : Int}, r[j]? = some z → a + j < z := by
      intro j z hz
      have key : ∀ (r : List Int) (b : Int), (∀ x ∈ r, b < x) → r.Pairwise (· < ·) → ∀ (j : Nat) (z : Int), r[j]? = some z → b + j < z := by
        intro r
        induction r with
        | nil => intro b _ _ j z h; simp at h
        | cons c r ih =>
          intro b hb hp j z h
          rw [List.pairwise_cons] at hp
          have hc := hb c (.head _)
          cases j with
          | zero => simp at h; subst h; simp; exact hc
          | succ j =>
            simp at h
            have := ih c hp.1 hp.2 j z h
            omega
      exact key r a hs.1 hs.2 j z hz
    by_cases e : a = i
    · rw [if_pos e]
      cases k with
      | zero => simp at h; subst h; simp; omega
      | succ k =>
        simp at h
        have := gapFrom_iff (i := i + 1) hs.2 (fun x hx => by have := hs.1 x hx; omega) h
        rw [show (i + ((k + 1 : Nat) : Int)) = i + 1 + k by omega, this]
        omega
    · rw [if_neg e]
      cases k with
      | zero => simp at h; subst h; simp; omega
      | succ k =>
        simp at h
        have := hgt h
        simp
        omega
theorem gap_iff {ns : List Int} {M y : Int} (hs : ns.Pairwise (· < ·)) (h0 : ∀ x ∈ ns, 0 ≤ x) (hM : 0 ≤ M) (h : ns[M.toNat]? = some y) : M < y ↔ gapOf ns ≤ M.toNat := by
  have := gapFrom_iff (i := 0) hs h0 h
  unfold gapOf
  rw [← this]
  omega
theorem gap_end {h₀ h : Heap} {L f c' D a : Addr} {X1 X2 X3 X4 T : Obj} {rest : List (Addr × Obj)} (N : News h₀ L h ((f, X1) :: (c', X2) :: (D, X3) :: (a, X4) :: (235, T) :: rest)) : News h₀ L h ((c', X2) :: (235, T) :: rest) := cb_drop N (by kcj_all)
theorem gap_end1 {h₀ h : Heap} {L f c' D a : Addr} {X1 X2 X3 X4 T : Obj} {rest : List (Addr × Obj)} (N : News h₀ L h ((f, X1) :: (D, X3) :: (a, X4) :: (c', X2) :: (235, T) :: rest)) : News h₀ L h ((c', X2) :: (235, T) :: rest) := cb_drop N (by kcj_all)
abbrev keepG (scope : Scope) {oc dV kV doc pm cdv ct : Value} {od an : Option Addr} {name qual : Str} {params : Arguments} {b : List Stmt} {osl : Array (Option Value)} {w : World} (_ : (top.heap_39 w.params).lookup 240 = some ⟨oc, od, .func (fnOf name qual params b scope dV kV doc pm an cdv ct), osl⟩) : Scope := scope
def gapSc (w : World) : Scope := by
  exact keepG _ (w := w) (by k_is)
abbrev keepG2 (sc : Scope) (_ : ∀ w, gapSc w = sc) : Scope := sc
def gapS : Scope := by
  exact keepG2 _ (fun _ => rfl)
/-- the code object of the lambda, made at the first call -/
def CodeLam (oc : Obj) : Prop := ∃ cvs L t, oc.data = .fields cvs ∧ cvs[1]? = some (.str ((envOfC (Str.ofString "_law_first_gap") gapS L 240 (.ref 239)).qual ++ Str.ofString "<lambda>") t)
abbrev tabH (c' : Addr) : Obj := tabObj #[rawInt 161, rawInt 60, .ref c']
abbrev retGap (rest : List (Addr × Obj)) (n : Nat) (_w : World) (h₀ : Heap) (L : Addr) (m : Str → Option Value) (s : Shared) (Q : Value → Shared → Prop) : Prop :=
  ∀ (c' : Nat) (oc : Obj) (t : Tok) (h' : Heap) (tk' : Nat), CodeLam oc → Fr h₀ L h' m → News h₀ L h' ((c', oc) :: (235, tabH c') :: rest) → (∀ p ∈ rest, p.1 ≠ c') → c' ≠ 235 → Q (.int n t) { s with heap := h', toks := tk' }
theorem gap_0 (vs : List Value) (ns : List Int) (hvs : IntsAre vs ns) (hs : ns.Pairwise (· < ·)) (h0 : ∀ x ∈ ns, 0 ≤ x) (hz : ns.length ≤ 30) (o k : Nat) (news : List (Addr × Obj)) (hmo : (o, listOf vs.toArray k) ∈ news) (hn : ∀ p ∈ news, p.1 ≠ 235) :
    Ctr 240 12 200 [.ref o] ((235, tabObj #[]) :: news) (retGap news (gapOf ns)) := by
  intro w p loose mean mg mb dp un gd cnF cs aF ccd clF outer A₀ base h₀ L m s Q E B F X N T hk hdp hun hret
  have hz' : ns.length ≤ 1000 := by omega
  have hgl := gapFrom_le ns 0
  k_with_none
  k_with "len!" => (k_dflt (first | (refine' lenR ?N ?hm ?hI ?hz ?_; (case N => k_asm); (case hI => assumption); (case hm => (first | k_mem | (repeat (first | exact hmo | apply List.mem_cons_of_mem)))); (case hz => assumption)) | (refine' lenI ?N ?hm hvs ?hz ?_; (case N => k_asm); (case hm => (first | k_mem | (repeat (first | exact hmo | apply List.mem_cons_of_mem)))); (case hz => assumption))); intro t9 k9; (try k_fold))
  refine wpAny_call ?_
  k_dflt (refine' code_defC ?k1 ?k2 ?k3 ?k4 ?k5 ?kA ?kF ?kK ?k6 ?k7 ?k8 ?k9 ?kB ?kD ?_ ?c2 ?c3 ?c4; (case kA => exact rfl); (case kF => exact rfl); (case kK => first | exact rfl | assumption); (case k1 => k_asm); (case k2 => k_asm); (case k3 => k_asm); (case k4 => k_asm); (case k5 => k_asm); (case k6 => k_is); (case k7 => k_is); (case k8 => ktr_room); (case k9 => first | exact BindsTo.of_eq rfl | exact binds_K (by k_in) rfl (by k_is) rfl rfl rfl); (case kB => exact rfl); (case kD => decide +kernel); (case c2 => exact rfl); (case c3 => exact rfl); (case c4 => exact rfl); k_whole; intro g' L' h' tk' cells' FG' F' N' Y' B' X' T' l1; (try k_lt l1); k_cells Y'; (try simp only [List.cons_append, List.nil_append] at N'); (try dsimp only); (try k_lift B'); (try k_fold))
  have C40 : CodeHd g' 239 235 := codeHd_of_K X' (by kernel_rfl)
  iterate 75 (first | (k_unfold; (try dsimp only)) | walk1 | (dsimp only; walk1))
  k_dflt (refine' while_bis (p := (gapOf ns : Nat)) (len := (ns.length : Nat)) ?zz1 ?zz2 (by omega) (by unfold gapOf; omega) ?zz3 ?zz4 ?zz5 ?zz6; (case zz3 => k_asm); (case zz4 => k_asm); (case zz1 => rfl); (case zz2 => rfl))
  case zz5 =>
    intro lo hi tl th U h tk a1 a2 a3 a4 F1 N1
    (try k_fold)
    by_cases hlh : lo < hi
    · have m1 : lo ≤ (lo + hi) / 2 := by omega
      have m2 : (lo + hi) / 2 < hi := by omega
      obtain ⟨M, hM⟩ : ∃ M : Int, M = (lo + hi) / 2 := ⟨_, rfl⟩
      rw [← hM] at m1 m2
      have hMn : M.toNat < ns.length := by omega
      obtain ⟨y, hy⟩ : ∃ y, ns[M.toNat]? = some y := ⟨_, List.getElem?_eq_getElem hMn⟩
      have hr := rangeKs_at' ns.length M (by omega) hMn
      have hb := gap_iff hs h0 (by omega) hy
      k_with "lt!" => (k_dflt (first | refine ltT (by omega) ?_ | refine ltF (by omega) ?_))
      k_with "gt!" => (k_dflt (first | refine gtT (by omega) ?_ | refine gtF (by omega) ?_))
      k_with "div!" => (k_dflt (refine divMid ?_); (try rw [← hM]))
      k_with "item!" => (k_dflt (first | (refine' intItemZ ?N ?hm ?h0 ?hi hvs hy ?_ ?hs; (case N => k_asm); (case hm => (first | k_mem | (repeat (first | exact hmo | apply List.mem_cons_of_mem)))); (case h0 => omega); (case hi => omega); (case hs => with_unfolding_all rfl)) | (refine' intItemZ ?N ?hm ?h0 ?hi ?hI hr ?_ ?hs; (case N => k_asm); (case hI => assumption); (case hm => (first | k_mem | (repeat (first | exact hmo | apply List.mem_cons_of_mem)))); (case h0 => omega); (case hi => omega); (case hs => with_unfolding_all rfl))); intro t9)
      by_cases hyx : M < y
      · have hb' := hb.mp hyx
        k_steps
        exact WhileStep.intro (n' := (M - lo).toNat) (by k_asm) (by k_asm) (by omega) ⟨lo, M, _, _, rfl, rfl, by intro y hy; obtain ⟨y1, y2, y3⟩ := off_three hy; simp only [y1, y2, y3, ovl, hy, Bool.false_eq_true, if_false], by omega, by omega, by omega, by omega, rfl, rfl⟩
      · have hb' : ¬ gapOf ns ≤ M.toNat := fun h => hyx (hb.mpr h)
        k_steps
        exact WhileStep.intro (n' := (hi - (M + 1)).toNat) (by k_asm) (by k_asm) (by omega) ⟨M + 1, hi, _, _, rfl, rfl, by intro y hy; obtain ⟨y1, y2, y3⟩ := off_three hy; simp only [y1, y2, y3, ovl, hy, Bool.false_eq_true, if_false], by omega, by omega, by omega, by omega, rfl, rfl⟩
    · have e : lo = (gapOf ns : Nat) := by omega
      subst e
      k_with "lt!" => (k_dflt (first | refine ltT (by omega) ?_ | refine ltF (by omega) ?_))
      k_steps
      exact hret _ _ _ _ _ ⟨_, _, _, by assumption, by assumption⟩ (by k_asm) (gap_end (by assumption)) (by k_all) (by omega)
  case zz6 => passes_own
theorem gap_1 (vs : List Value) (ns : List Int) (hvs : IntsAre vs ns) (hs : ns.Pairwise (· < ·)) (h0 : ∀ x ∈ ns, 0 ≤ x) (hz : ns.length ≤ 30) (o k : Nat) (c₀ : Nat) (oc₀ : Obj) (hc40 : c₀ ≠ 235) (hC : CodeLam oc₀) (news : List (Addr × Obj)) (hmo : (o, listOf vs.toArray k) ∈ news) (hn : ∀ p ∈ news, p.1 ≠ 235) (hcn : ∀ p ∈ news, p.1 ≠ c₀) :
    Ctr 240 12 200 [.ref o] ((c₀, oc₀) :: (235, tabH c₀) :: news) (retGap news (gapOf ns)) := by
  intro w p loose mean mg mb dp un gd cnF cs aF ccd clF outer A₀ base h₀ L m s Q E B F X N T hk hdp hun hret
  have hz' : ns.length ≤ 1000 := by omega
  have hgl := gapFrom_le ns 0
  k_with_none
  k_with "len!" => (k_dflt (first | (refine' lenR ?N ?hm ?hI ?hz ?_; (case N => k_asm); (case hI => assumption); (case hm => (first | k_mem | (repeat (first | exact hmo | apply List.mem_cons_of_mem)))); (case hz => assumption)) | (refine' lenI ?N ?hm hvs ?hz ?_; (case N => k_asm); (case hm => (first | k_mem | (repeat (first | exact hmo | apply List.mem_cons_of_mem)))); (case hz => assumption))); intro t9 k9; (try k_fold))
  obtain ⟨cvs0, L0, t0, hC1, hC2⟩ := hC
  refine wpAny_call ?_
  k_dflt (refine' code_defC ?k1 ?k2 ?k3 ?k4 ?k5 ?kA ?kF ?kK ?k6 ?k7 ?k8 ?k9 ?kB ?kD ?_ ?c2 ?c3 ?c4; (case kA => exact rfl); (case kF => exact rfl); (case kK => first | exact rfl | assumption); (case k1 => k_asm); (case k2 => k_asm); (case k3 => k_asm); (case k4 => k_asm); (case k5 => k_asm); (case k6 => k_is); (case k7 => k_is); (case k8 => ktr_room); (case k9 => first | exact BindsTo.of_eq rfl | exact binds_K (by k_in) rfl (by k_is) rfl rfl rfl); (case kB => exact rfl); (case kD => decide +kernel); (case c2 => exact rfl); (case c3 => exact rfl); (case c4 => exact rfl); k_whole; intro g' L' h' tk' cells' FG' F' N' Y' B' X' T' l1; (try k_lt l1); k_cells Y'; (try simp only [List.cons_append, List.nil_append] at N'); (try dsimp only); (try k_lift B'); (try k_fold))
  have C40 : CodeHd g' 239 235 := codeHd_of_K X' (by kernel_rfl)
  iterate 75 (first | (k_unfold; (try dsimp only)) | walk1 | (dsimp only; walk1))
  k_dflt (refine' while_bis (p := (gapOf ns : Nat)) (len := (ns.length : Nat)) ?zz1 ?zz2 (by omega) (by unfold gapOf; omega) ?zz3 ?zz4 ?zz5 ?zz6; (case zz3 => k_asm); (case zz4 => k_asm); (case zz1 => rfl); (case zz2 => rfl))
  case zz5 =>
    intro lo hi tl th U h tk a1 a2 a3 a4 F1 N1
    (try k_fold)
    by_cases hlh : lo < hi
    · have m1 : lo ≤ (lo + hi) / 2 := by omega
      have m2 : (lo + hi) / 2 < hi := by omega
      obtain ⟨M, hM⟩ : ∃ M : Int, M = (lo + hi) / 2 := ⟨_, rfl⟩
      rw [← hM] at m1 m2
      have hMn : M.toNat < ns.length := by omega
      obtain ⟨y, hy⟩ : ∃ y, ns[M.toNat]? = some y := ⟨_, List.getElem?_eq_getElem hMn⟩
      have hr := rangeKs_at' ns.length M (by omega) hMn
      have hb := gap_iff hs h0 (by omega) hy
      k_with "lt!" => (k_dflt (first | refine ltT (by omega) ?_ | refine ltF (by omega) ?_))
      k_with "gt!" => (k_dflt (first | refine gtT (by omega) ?_ | refine gtF (by omega) ?_))
      k_with "div!" => (k_dflt (refine divMid ?_); (try rw [← hM]))
      k_with "item!" => (k_dflt (first | (refine' intItemZ ?N ?hm ?h0 ?hi hvs hy ?_ ?hs; (case N => k_asm); (case hm => (first | k_mem | (repeat (first | exact hmo | apply List.mem_cons_of_mem)))); (case h0 => omega); (case hi => omega); (case hs => with_unfolding_all rfl)) | (refine' intItemZ ?N ?hm ?h0 ?hi ?hI hr ?_ ?hs; (case N => k_asm); (case hI => assumption); (case hm => (first | k_mem | (repeat (first | exact hmo | apply List.mem_cons_of_mem)))); (case h0 => omega); (case hi => omega); (case hs => with_unfolding_all rfl))); intro t9)
      by_cases hyx : M < y
      · have hb' := hb.mp hyx
        k_steps
        exact WhileStep.intro (n' := (M - lo).toNat) (by k_asm) (by k_asm) (by omega) ⟨lo, M, _, _, rfl, rfl, by intro y hy; obtain ⟨y1, y2, y3⟩ := off_three hy; simp only [y1, y2, y3, ovl, hy, Bool.false_eq_true, if_false], by omega, by omega, by omega, by omega, rfl, rfl⟩
      · have hb' : ¬ gapOf ns ≤ M.toNat := fun h => hyx (hb.mpr h)
        k_steps
        exact WhileStep.intro (n' := (hi - (M + 1)).toNat) (by k_asm) (by k_asm) (by omega) ⟨M + 1, hi, _, _, rfl, rfl, by intro y hy; obtain ⟨y1, y2, y3⟩ := off_three hy; simp only [y1, y2, y3, ovl, hy, Bool.false_eq_true, if_false], by omega, by omega, by omega, by omega, rfl, rfl⟩
    · have e : lo = (gapOf ns : Nat) := by omega
      subst e
      k_with "lt!" => (k_dflt (first | refine ltT (by omega) ?_ | refine ltF (by omega) ?_))
      k_steps
      exact hret _ _ _ _ _ ⟨_, _, _, hC1, hC2⟩ (by k_asm) (gap_end1 (by assumption)) hcn hc40
  case zz6 => passes_own

end
end PartGap
section PartGap2
set_option rowWalk.seconds 0
section
/-- the code table of _law_first_gap, empty or with the lambda's code -/
def TabL (TN news : List (Addr × Obj)) : Prop := TN = (235, tabObj #[]) :: news ∨ ∃ (c : Nat) (oc : Obj), CodeLam oc ∧ c ≠ 235 ∧ (∀ p ∈ news, p.1 ≠ c) ∧ TN = (c, oc) :: (235, tabH c) :: news
abbrev retG (own news : List (Addr × Obj)) (n : Nat) (_w : World) (h₀ : Heap) (L : Addr) (m : Str → Option Value) (s : Shared) (Q : Value → Shared → Prop) : Prop :=
  ∀ (t : Tok) (TN' : List (Addr × Obj)) (h' : Heap) (tk' : Nat), TabL TN' news → (∀ q ∈ own, ∀ p ∈ TN', p.1 ≠ q.1) → Fr h₀ L h' m → News h₀ L h' (own ++ TN') → Q (.int n t) { s with heap := h', toks := tk' }
theorem gapT (vs : List Value) (ns : List Int) (hvs : IntsAre vs ns) (hs : ns.Pairwise (· < ·)) (h0 : ∀ x ∈ ns, 0 ≤ x) (hz : ns.length ≤ 30) (o k : Nat) (own news TN : List (Addr × Obj)) (hmo : (o, listOf vs.toArray k) ∈ own) (hT : TabL TN news) (ho : ∀ q ∈ own, ∀ p ∈ TN, p.1 ≠ q.1) (hn : ∀ p ∈ news, p.1 ≠ 235) :
    Ctr 240 12 200 [.ref o] (own ++ TN) (retG own news (gapOf ns)) := by
  intro w p loose mean mg mb dp un gd cnF cs aF ccd clF outer A₀ base h₀ L m s Q E B F X N T hk hdp hun hret
  rcases hT with rfl | ⟨c, oc, hC, hc, hcn, rfl⟩
  · have h40 : ∀ p ∈ own ++ news, p.1 ≠ 235 := fun p hp => by
      rcases List.mem_append.mp hp with hp | hp
      · exact (ho p hp _ (.head _)).symm
      · exact hn p hp
    refine gap_0 vs ns hvs hs h0 hz o k (own ++ news) (List.mem_append_left _ hmo) h40 _ _ _ _ _ _ _ _ _ _ _ _ _ _ _ _ _ _ _ _ _ _ _ B F X (fun p hp => N p ?_) T hk hdp hun ?_
    · rcases List.mem_cons.mp hp with rfl | hp
      · exact List.mem_append_right _ (.head _)
      · rcases List.mem_append.mp hp with hp | hp
        · exact List.mem_append_left _ hp
        · exact List.mem_append_right _ (.tail _ hp)
    · intro c oc t h' tk' hC F' N' hc hc4
      refine hret t ((c, oc) :: (235, tabH c) :: news) h' tk' (.inr ⟨c, oc, hC, hc4, fun p hp => hc p (List.mem_append_right _ hp), rfl⟩) ?_ F' (fun p hp => N' p ?_)
      · intro q hq p hp
        rcases List.mem_cons.mp hp with rfl | hp
        · exact (hc q (List.mem_append_left _ hq)).symm
        · rcases List.mem_cons.mp hp with rfl | hp
          · exact (h40 q (List.mem_append_left _ hq)).symm
          · exact ho q hq p (.tail _ hp)
      · rcases List.mem_append.mp hp with hp | hp
        · exact .tail _ (.tail _ (List.mem_append_left _ hp))
        · rcases List.mem_cons.mp hp with rfl | hp
          · exact .head _
          · rcases List.mem_cons.mp hp with rfl | hp
            · exact .tail _ (.head _)
            · exact .tail _ (.tail _ (List.mem_append_right _ hp))
  · have h40 : ∀ p ∈ own ++ news, p.1 ≠ 235 := fun p hp => by
      rcases List.mem_append.mp hp with hp | hp
      · exact (ho p hp _ (.tail _ (.head _))).symm
      · exact hn p hp
    have hcc : ∀ p ∈ own ++ news, p.1 ≠ c := fun p hp => by
      rcases List.mem_append.mp hp with hp | hp
      · exact (ho p hp _ (.head _)).symm
      · exact hcn p hp
    refine gap_1 vs ns hvs hs h0 hz o k c oc hc hC (own ++ news) (List.mem_append_left _ hmo) h40 hcc _ _ _ _ _ _ _ _ _ _ _ _ _ _ _ _ _ _ _ _ _ _ _ B F X (fun p hp => N p ?_) T hk hdp hun ?_
    · rcases List.mem_cons.mp hp with rfl | hp
      · exact List.mem_append_right _ (.head _)
      · rcases List.mem_cons.mp hp with rfl | hp
        · exact List.mem_append_right _ (.tail _ (.head _))
        · rcases List.mem_append.mp hp with hp | hp
          · exact List.mem_append_left _ hp
          · exact List.mem_append_right _ (.tail _ (.tail _ hp))
    · intro c oc t h' tk' hC F' N' hc hc4
      refine hret t ((c, oc) :: (235, tabH c) :: news) h' tk' (.inr ⟨c, oc, hC, hc4, fun p hp => hc p (List.mem_append_right _ hp), rfl⟩) ?_ F' (fun p hp => N' p ?_)
      · intro q hq p hp
        rcases List.mem_cons.mp hp with rfl | hp
        · exact (hc q (List.mem_append_left _ hq)).symm
        · rcases List.mem_cons.mp hp with rfl | hp
          · exact (h40 q (List.mem_append_left _ hq)).symm
          · exact ho q hq p (.tail _ (.tail _ hp))
      · rcases List.mem_append.mp hp with hp | hp
        · exact .tail _ (.tail _ (List.mem_append_left _ hp))
        · rcases List.mem_cons.mp hp with rfl | hp
          · exact .head _
          · rcases List.mem_cons.mp hp with rfl | hp
            · exact .tail _ (.head _)
            · exact .tail _ (.tail _ (List.mem_append_right _ hp))
end
end PartGap2
section PartBd
set_option rowWalk.seconds 0
section
/-- one row of the board -/
def rowW (W : Nat → Nat → Int) (x n : Nat) : List Int := (List.range n).map (W x)
theorem rowW_at {W : Nat → Nat → Int} {x n j : Nat} (h : j < n) : (rowW W x n)[j]? = some (W x j) := by
  unfold rowW; rw [List.getElem?_map, List.getElem?_range h]; rfl
theorem rowW_succ (W : Nat → Nat → Int) (x n : Nat) : rowW W x (n + 1) = rowW W x n ++ [W x n] := by
  unfold rowW; rw [List.range_succ, List.map_append]; rfl
/-- an outcome is kept once, in its place -/
def addOpt (l : List Int) (v : Int) : List Int := if v ∈ l then l else putIn l v
def optB (W : Nat → Nat → Int) (a : List Nat) (l : List Int) (bs : List (List Nat)) : List Int := bs.foldl (fun l b => addOpt l (outc W a b)) l
def optA (W : Nat → Nat → Int) (bs : List (List Nat)) (as : List (List Nat)) : List Int := as.foldl (fun l a => optB W a l bs) []
/-- the full rows of the board -/
def RowsIn (G : List (Addr × Obj)) (wrows : List Value) (W : Nat → Nat → Int) (x : Nat) : Prop :=
  wrows.length = x ∧ ∀ i, i < x → ∃ (ra : Nat) (vs : List Value) (kk : Nat), wrows[i]? = some (.ref ra) ∧ (ra, listOf (List.toArray vs) kk) ∈ G ∧ IntsAre vs (rowW W i 5)
theorem RowsIn.snoc {G : List (Addr × Obj)} {wrows : List Value} {W : Nat → Nat → Int} {x rx k : Nat} {vs : List Value} (h : RowsIn G wrows W x) (hv : IntsAre vs (rowW W x 5)) : RowsIn ((rx, listOf vs.toArray k) :: G) (wrows ++ [.ref rx]) W (x + 1) := by
  refine ⟨by simp [h.1], fun i hi => ?_⟩
  by_cases c : i < x
  · obtain ⟨ra, vs', kk, e, hm, hI⟩ := h.2 i c
    exact ⟨ra, vs', kk, by rw [List.getElem?_append_left (by rw [h.1]; exact c)]; exact e, .tail _ hm, hI⟩
  · have : i = x := by omega
    subst this
    refine ⟨rx, vs, k, ?_, .head _, hv⟩
    rw [List.getElem?_append_right (by rw [h.1]; exact Nat.le_refl _), h.1, Nat.sub_self]
    rfl
/-- what an outcome at (x, y) reads -/
theorem worthAt {NW G : List (Addr × Obj)} {wrows : List Value} {W : Nat → Nat → Int} {x y rx k : Nat} {vs : List Value} (h : RowsIn G wrows W x) (hG : ∀ p ∈ G, p ∈ NW) (hm : (rx, listOf vs.toArray k) ∈ NW) (hI : IntsAre vs (rowW W x y)) (hx : x < 5) (hy : y < 5) :
    WorthAt NW (wrows ++ [.ref rx]) W (x + 1) (y + 1) := by
  intro i j hi hj hij
  by_cases c : i < x
  · obtain ⟨ra, vs', kk, e, hm', hI'⟩ := h.2 i c
    exact ⟨ra, vs', kk, _, by rw [List.getElem?_append_left (by rw [h.1]; exact c)]; exact e, hG _ hm', hI', rowW_at (by omega)⟩
  · have : i = x := by omega
    subst this
    refine ⟨rx, vs, k, _, ?_, hm, hI, rowW_at (by omega)⟩
    rw [List.getElem?_append_right (by rw [h.1]; exact Nat.le_refl _), h.1, Nat.sub_self]
    rfl
section
variable {prog : Program} {w : World} {A : Around} {E : Value → Shared → Prop} {s : Shared} {env : Env} {h₀ : Heap} {x : Str} {body : List Stmt} {Q : Flow → Shared → Prop} {m₀ : Str → Option Value}
abbrev JX (wa : Nat) (own news : List (Addr × Obj)) (W : Nat → Nat → Int) (i : Nat) (nx : List (Addr × Obj)) : Prop :=
  ∃ (wrows : Array Value) (n : Nat) (G TN : List (Addr × Obj)), nx = (wa, listOf wrows n) :: (G ++ TN) ∧ RowsIn G wrows.toList W i ∧ (∀ p ∈ own, p ∈ G) ∧ TabL TN news ∧ (∀ p ∈ G ++ TN, p.1 ≠ wa) ∧ (∀ q ∈ G, ∀ p ∈ TN, p.1 ≠ q.1)
theorem loopX {r wa : Nat} {t₀ u₀ v₀ : Tok} {W : Nat → Nat → Int} {own news TN₀ : List (Addr × Obj)} (ov : List Str)
    (hh : A.handled = none) (hr : IsRange s.heap r 0 5 1 t₀ u₀ v₀) (F : Fr h₀ env.locals s.heap m₀) (N : News h₀ env.locals s.heap ((wa, listOf #[] 0) :: (own ++ TN₀))) (hT : TabL TN₀ news) (ho : ∀ q ∈ own, ∀ p ∈ TN₀, p.1 ≠ q.1) (hw : AllLt wa (own ++ TN₀))
    (turn : ∀ (I : Nat) it (i : Nat) t U (wrows : Array Value) (n : Nat) G TN h tk, i < 5 → RowsIn G wrows.toList W i → (∀ p ∈ own, p ∈ G) → TabL TN news → (∀ p ∈ G ++ TN, p.1 ≠ wa) → (∀ q ∈ G, ∀ p ∈ TN, p.1 ≠ q.1) → wa < I → (∀ p ∈ G ++ TN, p.1 ≠ I) →
      Fr h₀ env.locals h (fun y => if y = x then some (.int (0 + (i : Int)) t) else ovl ov U m₀ y) → News h₀ env.locals h ((I, it) :: (wa, listOf wrows n) :: (G ++ TN)) →
      wpAny (model prog w) A (execs body env) (LPost h₀ env.locals { s with heap := h, toks := tk } I it (NRest ov m₀ (JX wa own news W (i + 1))) Q) E { s with heap := h, toks := tk })
    (done : ∀ U (wrows : Array Value) (n : Nat) G TN h tk, RowsIn G wrows.toList W 5 → (∀ p ∈ own, p ∈ G) → TabL TN news → (∀ p ∈ G ++ TN, p.1 ≠ wa) → (∀ q ∈ G, ∀ p ∈ TN, p.1 ≠ q.1) → Fr h₀ env.locals h (ovl ov U m₀) → News h₀ env.locals h ((wa, listOf wrows n) :: (G ++ TN)) → Q .next { s with heap := h, toks := tk }) :
    wpAny (model prog w) A (pyIter (.ref r)) (fun it s₂ => LoopAtV prog w A h₀ env x body Q E it s₂) E s := by
  refine iter_rangeN (n := 5) ov (JX wa own news W) hh hr (by decide) (by decide) F N ⟨#[], 0, own, TN₀, rfl, ⟨rfl, fun i hi => by omega⟩, fun p hp => hp, hT, fun p hp => Nat.ne_of_lt (tb_ltOf hw p hp), ho⟩ ?_ ?_
  · rintro I hI it i t U nx h tk hi ⟨wrows, n, G, TN, rfl, a1, a2, a3, a4, a5⟩ hoff F' N'
    exact turn I it i t U wrows n G TN h tk hi a1 a2 a3 a4 a5 (hI _ (.head _)) (fun p hp => hoff p (.tail _ hp)) F' N'
  · rintro U nx h tk ⟨wrows, n, G, TN, rfl, a1, a2, a3, a4, a5⟩ F' N'
    exact done U wrows n G TN h tk a1 a2 a3 a4 a5 F' N'
abbrev JY (rx I wa : Nat) (it WA : Obj) (news G : List (Addr × Obj)) (W : Nat → Nat → Int) (i y : Nat) (nx : List (Addr × Obj)) : Prop :=
  ∃ (vs : Array Value) (k : Nat) (TN : List (Addr × Obj)), nx = (rx, listOf vs k) :: (I, it) :: (wa, WA) :: (G ++ TN) ∧ IntsAre vs.toList (rowW W i y) ∧ TabL TN news ∧ (∀ q ∈ (rx, WA) :: (I, WA) :: (wa, WA) :: G, ∀ p ∈ TN, p.1 ≠ q.1)
theorem loopY {r rx I wa : Nat} {it WA : Obj} {t₀ u₀ v₀ : Tok} {W : Nat → Nat → Int} {i : Nat} {news G TN₀ : List (Addr × Obj)} (ov : List Str)
    (hh : A.handled = none) (hr : IsRange s.heap r 0 5 1 t₀ u₀ v₀) (F : Fr h₀ env.locals s.heap m₀) (N : News h₀ env.locals s.heap ((rx, listOf #[] 0) :: (I, it) :: (wa, WA) :: (G ++ TN₀))) (hT : TabL TN₀ news) (ho : ∀ q ∈ (rx, WA) :: (I, WA) :: (wa, WA) :: G, ∀ p ∈ TN₀, p.1 ≠ q.1)
    (turn : ∀ (I2 : Nat) it2 (y : Nat) t U (vs : Array Value) (k : Nat) TN h tk, y < 5 → IntsAre vs.toList (rowW W i y) → vs.size = y → TabL TN news → (∀ q ∈ (rx, WA) :: (I, WA) :: (wa, WA) :: G, ∀ p ∈ TN, p.1 ≠ q.1) → rx < I2 → I < I2 → wa < I2 → (∀ p ∈ G, p.1 < I2) → (∀ p ∈ TN, p.1 ≠ I2) →
      Fr h₀ env.locals h (fun z => if z = x then some (.int (0 + (y : Int)) t) else ovl ov U m₀ z) → News h₀ env.locals h ((I2, it2) :: (rx, listOf vs k) :: (I, it) :: (wa, WA) :: (G ++ TN)) →
      wpAny (model prog w) A (execs body env) (LPost h₀ env.locals { s with heap := h, toks := tk } I2 it2 (NRest ov m₀ (JY rx I wa it WA news G W i (y + 1))) Q) E { s with heap := h, toks := tk })
    (done : ∀ U (vs : Array Value) (k : Nat) TN h tk, IntsAre vs.toList (rowW W i 5) → TabL TN news → (∀ q ∈ (rx, WA) :: (I, WA) :: (wa, WA) :: G, ∀ p ∈ TN, p.1 ≠ q.1) → Fr h₀ env.locals h (ovl ov U m₀) → News h₀ env.locals h ((rx, listOf vs k) :: (I, it) :: (wa, WA) :: (G ++ TN)) → Q .next { s with heap := h, toks := tk }) :
    wpAny (model prog w) A (pyIter (.ref r)) (fun it s₂ => LoopAtV prog w A h₀ env x body Q E it s₂) E s := by
  refine iter_rangeN (n := 5) ov (JY rx I wa it WA news G W i) hh hr (by decide) (by decide) F N ⟨#[], 0, TN₀, rfl, .nil, hT, ho⟩ ?_ ?_
  · rintro I2 hI it2 y t U nx h tk hy ⟨vs, k, TN, rfl, a1, a2, a3⟩ hoff F' N'
    refine turn I2 it2 y t U vs k TN h tk hy a1 (by have := a1.length; simp [rowW] at this; omega) a2 a3 (hI _ (.head _)) (hI _ (.tail _ (.head _))) (hI _ (.tail _ (.tail _ (.head _)))) (fun p hp => hI p (.tail _ (.tail _ (.tail _ (List.mem_append_left _ hp))))) (fun p hp => hoff p (.tail _ (.tail _ (.tail _ (List.mem_append_right _ hp))))) F' N'
  · rintro U nx h tk ⟨vs, k, TN, rfl, a1, a2, a3⟩ F' N'
    exact done U vs k TN h tk a1 a2 a3 F' N'
abbrev JO (o : Nat) (R : List (Addr × Obj)) (S : Nat → List Int) (i : Nat) (nx : List (Addr × Obj)) : Prop := ∃ (vs : List Value) (k : Nat), nx = (o, listOf vs.toArray k) :: R ∧ IntsAre vs (S i)
/-- a loop over the rules of one place; the options stand first -/
theorem loopO {g o k₀ : Nat} {zs vs₀ : List Value} {as : List (List Nat)} {R : List (Addr × Obj)} (S : Nat → List Int) (ov : List Str)
    (hzs : StrsAre zs (as.map tx)) (hh : A.handled = none) (F : Fr h₀ env.locals s.heap m₀) (hg : (g, LCg.lst zs) ∈ R) (N : News h₀ env.locals s.heap ((o, listOf vs₀.toArray k₀) :: R)) (hI₀ : IntsAre vs₀ (S 0))
    (turn : ∀ (I : Nat) it (i : Nat) a t U (vs : List Value) (k : Nat) h tk, as[i]? = some a → i < as.length → IntsAre vs (S i) → o < I → (∀ p ∈ R, p.1 < I) →
      Fr h₀ env.locals h (fun y => if y = x then some (.str (tx a) t) else ovl ov U m₀ y) → News h₀ env.locals h ((I, it) :: (o, listOf vs.toArray k) :: R) →
      wpAny (model prog w) A (execs body env) (LPost h₀ env.locals { s with heap := h, toks := tk } I it (NRest ov m₀ (JO o R S (i + 1))) Q) E { s with heap := h, toks := tk })
    (done : ∀ U (vs : List Value) (k : Nat) h tk, IntsAre vs (S as.length) → Fr h₀ env.locals h (ovl ov U m₀) → News h₀ env.locals h ((o, listOf vs.toArray k) :: R) → Q .next { s with heap := h, toks := tk }) :
    wpAny (model prog w) A (pyIter (.ref g)) (fun it s₂ => LoopAtV prog w A h₀ env x body Q E it s₂) E s := by
  have hl : zs.length = as.length := by rw [hzs.length]; simp
  refine iter_listN (vs := zs) (nn := zs.length) ov (JO o R S) hh (.tail _ hg) ?_ F N ⟨vs₀, k₀, rfl, hI₀⟩ ?_ ?_
  · rintro i nx ⟨vs, k, rfl, _⟩
    exact .tail _ hg
  · rintro I hI it i v U nx h tk hv ⟨vs, k, rfl, hs⟩ hoff F' N'
    obtain ⟨b, t, hn, rfl⟩ := strs_at hzs hv
    rw [List.getElem?_map] at hn
    obtain ⟨a, ha, rfl⟩ := Option.map_eq_some_iff.mp hn
    have hi : i < as.length := by
      rcases Nat.lt_or_ge i as.length with h | h
      · exact h
      · rw [List.getElem?_eq_none h] at ha; cases ha
    exact turn I it i a t U vs k h tk ha hi hs (hI _ (.head _)) (fun p hp => hI p (.tail _ hp)) F' N'
  · rintro U nx h tk ⟨vs, k, rfl, hs⟩ F' N'
    rw [hl] at hs
    exact done U vs k h tk hs F' N'
end
/-- a game's rules by their last coin's place -/
def GameIn (own : List (Addr × Obj)) (d : Nat) (A : Nat → List (List Nat)) : Prop :=
  ∃ ys, (d, LCg.lst ys) ∈ own ∧ ∀ x, x < 5 → ∃ (a : Nat) (zs : List Value), ys[x]? = some (.ref a) ∧ (a, LCg.lst zs) ∈ own ∧ StrsAre zs ((A x).map tx)
abbrev retBoard (own news : List (Addr × Obj)) (W : Nat → Nat → Int) (_w : World) (h₀ : Heap) (L : Addr) (m : Str → Option Value) (s : Shared) (Q : Value → Shared → Prop) : Prop :=
  ∀ (wa : Nat) (wrows : Array Value) (n : Nat) (G TN' : List (Addr × Obj)) (h' : Heap) (tk' : Nat), RowsIn G wrows.toList W 5 → (∀ p ∈ own, p ∈ G) → TabL TN' news → Fr h₀ L h' m → News h₀ L h' ((wa, listOf wrows n) :: (G ++ TN')) → Q (.ref wa) { s with heap := h', toks := tk' }
end
end PartBd
section PartOpt
set_option rowWalk.seconds 0
section
/-- in order, and below 16 -/
def Ok (l : List Int) : Prop := l.Pairwise (· < ·) ∧ ∀ v ∈ l, 0 ≤ v ∧ v < 16
theorem mem_putIn {ns : List Int} {x y : Int} : y ∈ putIn ns x ↔ y = x ∨ y ∈ ns := by
  unfold putIn
  rw [List.mem_append, List.mem_cons]
  have e : y ∈ ns ↔ y ∈ ns.take (below ns x) ∨ y ∈ ns.drop (below ns x) := by
    rw [← List.mem_append, List.take_append_drop]
  rw [e]
  constructor
  · rintro (h | h | h)
    · exact .inr (.inl h)
    · exact .inl h
    · exact .inr (.inr h)
  · rintro (h | h | h)
    · exact .inr (.inl h)
    · exact .inl h
    · exact .inr (.inr h)
theorem below_lt {a x : Int} {r : List Int} (h : a < x) : below (a :: r) x = below r x + 1 := by
  unfold below
  rw [List.filter_cons, if_pos (by simpa using h)]
  rfl
theorem below_ge {a x : Int} {r : List Int} (hs : (a :: r).Pairwise (· < ·)) (h : ¬ a < x) : below (a :: r) x = 0 := by
  rw [List.pairwise_cons] at hs
  unfold below
  rw [List.filter_cons, if_neg (by simpa using h)]
  have : r.filter (fun n => decide (n < x)) = [] := by
    rw [List.filter_eq_nil_iff]
    intro b hb
    have := hs.1 b hb
    simp; omega
  rw [this]; rfl
theorem putIn_lt {a x : Int} {r : List Int} (h : a < x) : putIn (a :: r) x = a :: putIn r x := by
  unfold putIn; rw [below_lt h]; rfl
theorem putIn_sorted {x : Int} : ∀ {ns : List Int}, ns.Pairwise (· < ·) → x ∉ ns → (putIn ns x).Pairwise (· < ·)
  | [], _, _ => by simp [putIn]
  | a :: r, hs, hx => by
    by_cases h : a < x
    · rw [putIn_lt h]
      have hs' := List.pairwise_cons.mp hs
      refine List.pairwise_cons.mpr ⟨fun b hb => ?_, putIn_sorted hs'.2 (fun hm => hx (.tail _ hm))⟩
      rcases mem_putIn.mp hb with rfl | hb
      · exact h
      · exact hs'.1 b hb
    · have e : putIn (a :: r) x = x :: a :: r := by unfold putIn; rw [below_ge hs h]; rfl
      rw [e]
      have hax : x < a := by
        have : x ≠ a := fun e => hx (e ▸ .head _)
        omega
      refine List.pairwise_cons.mpr ⟨fun b hb => ?_, hs⟩
      rcases List.mem_cons.mp hb with rfl | hb
      · exact hax
      · have := (List.pairwise_cons.mp hs).1 b hb; omega
theorem addOpt_ok {l : List Int} {v : Int} (h : Ok l) (hv : 0 ≤ v ∧ v < 16) : Ok (addOpt l v) := by
  unfold addOpt
  split
  · exact h
  · rename_i hm
    refine ⟨putIn_sorted h.1 hm, fun y hy => ?_⟩
    rcases mem_putIn.mp hy with rfl | hy
    · exact hv
    · exact h.2 y hy
theorem mem_addOpt {l : List Int} {v y : Int} : y ∈ addOpt l v ↔ y = v ∨ y ∈ l := by
  unfold addOpt
  split
  · rename_i h
    exact ⟨.inr, fun e => e.elim (fun e => e ▸ h) id⟩
  · exact mem_putIn
theorem Ok.len {l : List Int} (h : Ok l) : l.length ≤ 16 := by
  have key : ∀ (l : List Int) (b : Int), (∀ x ∈ l, b ≤ x ∧ x < 16) → l.Pairwise (· < ·) → b ≤ 16 → (l.length : Int) ≤ 16 - b := by
    intro l
    induction l with
    | nil => intro b _ _ hb; simp; omega
    | cons a r ih =>
      intro b hb hp _
      rw [List.pairwise_cons] at hp
      have ha := hb a (.head _)
      have := ih (a + 1) (fun x hx => ⟨by have := hp.1 x hx; omega, (hb x (.tail _ hx)).2⟩) hp.2 (by omega)
      simp
      omega
  have := key l 0 h.2 h.1 (by decide)
  omega
theorem xor16 {x y : Int} (hx : 0 ≤ x ∧ x < 16) (hy : 0 ≤ y ∧ y < 16) : 0 ≤ Builtin.bitXor x y ∧ Builtin.bitXor x y < 16 := by
  have key : ∀ a b : Fin 16, 0 ≤ Builtin.bitXor (a.val : Nat) (b.val : Nat) ∧ Builtin.bitXor (a.val : Nat) (b.val : Nat) < 16 := by decide +kernel
  obtain ⟨a, rfl⟩ := Int.eq_ofNat_of_zero_le hx.1
  obtain ⟨b, rfl⟩ := Int.eq_ofNat_of_zero_le hy.1
  exact key ⟨a, by omega⟩ ⟨b, by omega⟩
theorem outc_ok {W : Nat → Nat → Int} {a b : List Nat} (hW : ∀ i k, 0 ≤ W i k ∧ W i k < 16) : 0 ≤ outc W a b ∧ outc W a b < 16 := by
  have step : ∀ (i k : Nat) (v : Int), 0 ≤ v ∧ v < 16 → 0 ≤ outStep W a b i v k ∧ outStep W a b i v k < 16 := by
    intro i k v hv
    unfold outStep
    split
    · exact xor16 hv (hW i k)
    · exact hv
  have fold : ∀ {f : Int → Nat → Int} (l : List Nat) (v : Int), (∀ k v, 0 ≤ v ∧ v < 16 → 0 ≤ f v k ∧ f v k < 16) → 0 ≤ v ∧ v < 16 → 0 ≤ l.foldl f v ∧ l.foldl f v < 16 := by
    intro f l
    induction l with
    | nil => intro v _ hv; exact hv
    | cons k l ih => intro v hf hv; exact ih _ hf (hf k v hv)
  unfold outc
  refine fold _ _ (fun i v hv => ?_) (by decide)
  unfold outRow
  exact fold _ _ (fun k v hv => step i k v hv) hv
theorem optB_ok {W : Nat → Nat → Int} (hW : ∀ i k, 0 ≤ W i k ∧ W i k < 16) (a : List Nat) : ∀ (bs : List (List Nat)) {l : List Int}, Ok l → Ok (optB W a l bs)
  | [], _, h => h
  | b :: r, l, h => optB_ok hW a r (addOpt_ok h (outc_ok hW))
theorem optA_ok' {W : Nat → Nat → Int} (hW : ∀ i k, 0 ≤ W i k ∧ W i k < 16) (bs : List (List Nat)) : ∀ (as : List (List Nat)) {l : List Int}, Ok l → Ok (as.foldl (fun l a => optB W a l bs) l)
  | [], _, h => h
  | a :: r, l, h => optA_ok' hW bs r (optB_ok hW a bs h)
theorem optA_ok {W : Nat → Nat → Int} (hW : ∀ i k, 0 ≤ W i k ∧ W i k < 16) (bs as : List (List Nat)) : Ok (optA W bs as) := optA_ok' hW bs as ⟨.nil, fun v hv => by cases hv⟩
theorem mem_optB {W : Nat → Nat → Int} {a : List Nat} {y : Int} : ∀ {bs : List (List Nat)} {l : List Int}, y ∈ optB W a l bs ↔ y ∈ l ∨ ∃ b ∈ bs, y = outc W a b
  | [], l => by simp [optB]
  | b :: r, l => by
    show y ∈ optB W a (addOpt l (outc W a b)) r ↔ _
    rw [mem_optB, mem_addOpt]
    constructor
    · rintro ((h | h) | ⟨c, hc, h⟩)
      · exact .inr ⟨b, .head _, h⟩
      · exact .inl h
      · exact .inr ⟨c, .tail _ hc, h⟩
    · rintro (h | ⟨c, hc, h⟩)
      · exact .inl (.inr h)
      · rcases List.mem_cons.mp hc with rfl | hc
        · exact .inl (.inl h)
        · exact .inr ⟨c, hc, h⟩
theorem mem_optA {W : Nat → Nat → Int} {bs : List (List Nat)} {y : Int} {as : List (List Nat)} : y ∈ optA W bs as ↔ ∃ a ∈ as, ∃ b ∈ bs, y = outc W a b := by
  have key : ∀ (as : List (List Nat)) (l : List Int), y ∈ as.foldl (fun l a => optB W a l bs) l ↔ y ∈ l ∨ ∃ a ∈ as, ∃ b ∈ bs, y = outc W a b := by
    intro as
    induction as with
    | nil => intro l; simp
    | cons a r ih =>
      intro l
      rw [List.foldl_cons, ih, mem_optB]
      constructor
      · rintro ((h | h) | ⟨c, hc, h⟩)
        · exact .inl h
        · exact .inr ⟨a, .head _, h⟩
        · exact .inr ⟨c, .tail _ hc, h⟩
      · rintro (h | ⟨c, hc, h⟩)
        · exact .inl (.inl h)
        · rcases List.mem_cons.mp hc with rfl | hc
          · exact .inl (.inr h)
          · exact .inr ⟨c, hc, h⟩
  have := key as []
  unfold optA
  rw [this]
  simp
theorem gapFrom_spec : ∀ {ns : List Int} {i : Int}, ns.Pairwise (· < ·) → (∀ x ∈ ns, i ≤ x) → (i + gapFrom ns i) ∉ ns ∧ ∀ v, i ≤ v → v < i + gapFrom ns i → v ∈ ns
  | [], i, _, _ => ⟨by simp, fun v h1 h2 => by simp [gapFrom] at h2; omega⟩
  | a :: r, i, hs, h0 => by
    rw [List.pairwise_cons] at hs
    unfold gapFrom
    by_cases e : a = i
    · rw [if_pos e]
      have ih := gapFrom_spec (i := i + 1) hs.2 (fun x hx => by have := hs.1 x hx; omega)
      have e2 : i + ((gapFrom r (i + 1) + 1 : Nat) : Int) = i + 1 + (gapFrom r (i + 1) : Nat) := by omega
      rw [e2]
      refine ⟨fun hm => ?_, fun v h1 h2 => ?_⟩
      · rcases List.mem_cons.mp hm with h | h
        · omega
        · exact ih.1 h
      · by_cases hv : v = a
        · exact hv ▸ .head _
        · exact .tail _ (ih.2 v (by omega) h2)
    · rw [if_neg e]
      have ha := h0 a (.head _)
      refine ⟨fun hm => ?_, fun v h1 h2 => by simp at h2; omega⟩
      rcases List.mem_cons.mp hm with h | h
      · simp at h; omega
      · have := hs.1 _ h; simp at this; omega
/-- the first gap is the value that is asked for -/
theorem gap_is {l : List Int} {v : Int} (h : Ok l) (hv : 0 ≤ v) (h1 : v ∉ l) (h2 : ∀ u, 0 ≤ u → u < v → u ∈ l) : (gapOf l : Int) = v := by
  have s := gapFrom_spec (i := 0) h.1 (fun x hx => (h.2 x hx).1)
  unfold gapOf
  rw [Int.zero_add] at s
  rcases Int.lt_trichotomy (gapFrom l 0 : Int) v with c | c | c
  · exact absurd (h2 _ (by omega) c) s.1
  · exact c
  · exact absurd (s.2 v hv c) h1
end
end PartOpt
section PartBoard
set_option rowWalk.seconds 0
section
theorem push_eq (A : Array Value) (v : Value) : A.push v = (A.toList ++ [v]).toArray := by
  apply Array.toList_inj.mp
  simp
theorem rows_fit {G : List (Addr × Obj)} {wrows : Array Value} {W : Nat → Nat → Int} {i : Nat} (h : RowsIn G wrows.toList W i) (hi : i < 5) : wrows.size ≤ sizeLine := by
  have : wrows.size = i := by have := h.1; simpa using this
  exact Nat.le_trans (by omega) (by decide : 5 ≤ sizeLine)
theorem rows_last {G : List (Addr × Obj)} {wrows : List Value} {W : Nat → Nat → Int} {i : Nat} {v : Value} (h : RowsIn G wrows W i) : (wrows ++ [v])[i]? = some v := by
  rw [List.getElem?_append_right (by rw [h.1]; exact Nat.le_refl _), h.1, Nat.sub_self]; rfl
theorem hoY {rx I wa : Nat} {WA : Obj} {G TN : List (Addr × Obj)} (l1 : I < rx ∧ wa < rx ∧ AllLt rx (G ++ TN)) (hI : ∀ p ∈ G ++ TN, p.1 ≠ I) (hwa : ∀ p ∈ G ++ TN, p.1 ≠ wa) (hG : ∀ q ∈ G, ∀ p ∈ TN, p.1 ≠ q.1) : ∀ q ∈ (rx, WA) :: (I, WA) :: (wa, WA) :: G, ∀ p ∈ TN, p.1 ≠ q.1 := fun q hq p hp => by
  rcases List.mem_cons.mp hq with rfl | hq
  · exact Nat.ne_of_lt (tb_ltOf l1.2.2 p (List.mem_append_right _ hp))
  · rcases List.mem_cons.mp hq with rfl | hq
    · exact hI p (List.mem_append_right _ hp)
    · rcases List.mem_cons.mp hq with rfl | hq
      · exact hwa p (List.mem_append_right _ hp)
      · exact hG q hq p hp
theorem permO {h₀ h : Heap} {L I o : Addr} {X Y : Obj} {R : List (Addr × Obj)} (N : News h₀ L h ((I, X) :: (o, Y) :: R)) : News h₀ L h ((o, Y) :: (I, X) :: R) := cb_drop N (by kcj_all)
theorem permI {h₀ h : Heap} {L I o : Addr} {X Y : Obj} {R : List (Addr × Obj)} (N : News h₀ L h ((I, X) :: (o, Y) :: R)) : News h₀ L h ((o, Y) :: (I, X) :: R) := permO N
theorem off_cons {I o : Nat} {X : Obj} {R : List (Addr × Obj)} (h : o < I) (hR : ∀ p ∈ R, p.1 < I) : ∀ p ∈ (o, X) :: R, p.1 ≠ I := fun p hp => by
  rcases List.mem_cons.mp hp with rfl | hp
  · exact Nat.ne_of_lt h
  · exact Nat.ne_of_lt (hR p hp)
theorem worthAt' {NW G : List (Addr × Obj)} {wrows : List Value} {W : Nat → Nat → Int} {x y rx k : Nat} {vs : List Value} {a b : List Nat} (ha : a.length = x + 1) (hb : b.length = y + 1) (h : RowsIn G wrows W x) (hG : ∀ p ∈ G, p ∈ NW) (hm : (rx, listOf vs.toArray k) ∈ NW) (hI : IntsAre vs (rowW W x y)) (hx : x < 5) (hy : y < 5) :
    WorthAt NW (wrows ++ [.ref rx]) W a.length b.length := by rw [ha, hb]; exact worthAt h hG hm hI hx hy
theorem optB_succ {W : Nat → Nat → Int} {a b : List Nat} {l : List Int} {bs : List (List Nat)} {j : Nat} (hb : bs[j]? = some b) : optB W a l (bs.take (j + 1)) = addOpt (optB W a l (bs.take j)) (outc W a b) := by
  unfold optB
  rw [List.take_add_one, hb, List.foldl_append]; rfl
theorem optA_succ {W : Nat → Nat → Int} {a : List Nat} {as bs : List (List Nat)} {j : Nat} (ha : as[j]? = some a) : optA W bs (as.take (j + 1)) = optB W a (optA W bs (as.take j)) bs := by
  unfold optA
  rw [List.take_add_one, ha, List.foldl_append]; rfl
theorem addOpt_in {l : List Int} {v : Int} (h : v ∈ l) : addOpt l v = l := by unfold addOpt; rw [if_pos h]
theorem addOpt_out {l : List Int} {v : Int} (h : v ∉ l) : addOpt l v = putIn l v := by unfold addOpt; rw [if_neg h]
theorem fit5 {vs : Array Value} {y : Nat} (h : vs.size = y) (hy : y < 5) : vs.size ≤ sizeLine := Nat.le_trans (by omega) (by decide : 5 ≤ sizeLine)
section
variable {w : World} {A : Around} {E : Value → Shared → Prop} {s : Shared} {Q : Value → Shared → Prop} {t : Tok} {h₀ : Heap} {L l : Addr} {vs : List Value} {ns : List Int} {k : Nat} {v : Int} {news : List (Addr × Obj)}
theorem notinT (N : News h₀ L s.heap news) (hm : (l, listOf vs.toArray k) ∈ news) (hI : IntsAre vs ns) (hv : v ∉ ns) (h : Q (.bool true) s) : wpAny (model PG w) A (compareOp .NotIn (.int v t) (.ref l)) Q E s :=
  notin_list_ints (News.isList N hm) hI (by
    have : ns.any (· == v) = false := by rw [List.any_eq_false]; intro x hx; simp; rintro rfl; exact hv hx
    rw [this]; exact h)
theorem notinF (N : News h₀ L s.heap news) (hm : (l, listOf vs.toArray k) ∈ news) (hI : IntsAre vs ns) (hv : v ∈ ns) (h : Q (.bool false) s) : wpAny (model PG w) A (compareOp .NotIn (.int v t) (.ref l)) Q E s :=
  notin_list_ints (News.isList N hm) hI (by
    have : ns.any (· == v) = true := by rw [List.any_eq_true]; exact ⟨v, hv, by simp⟩
    rw [this]; exact h)
end
theorem hoG {o I2 rx I wa : Nat} {X Y Z Y' Z' WA : Obj} {G TN : List (Addr × Obj)} (l1 : I2 < o ∧ rx < o ∧ I < o ∧ wa < o ∧ AllLt o (G ++ TN)) (h : ∀ q ∈ (rx, WA) :: (I, WA) :: (wa, WA) :: G, ∀ p ∈ TN, p.1 ≠ q.1) (h2 : ∀ p ∈ TN, p.1 ≠ I2) :
    ∀ q ∈ (o, X) :: (I2, Y) :: (rx, Z) :: (I, Y') :: (wa, Z') :: G, ∀ p ∈ TN, p.1 ≠ q.1 := fun q hq p hp => by
  rcases List.mem_cons.mp hq with rfl | hq
  · exact Nat.ne_of_lt (tb_ltOf l1.2.2.2.2 p (List.mem_append_right _ hp))
  · rcases List.mem_cons.mp hq with rfl | hq
    · exact h2 p hp
    · rcases List.mem_cons.mp hq with rfl | hq
      · exact h _ (.head _) p hp
      · rcases List.mem_cons.mp hq with rfl | hq
        · exact h _ (.tail _ (.head _)) p hp
        · rcases List.mem_cons.mp hq with rfl | hq
          · exact h _ (.tail _ (.tail _ (.head _))) p hp
          · exact h q (.tail _ (.tail _ (.tail _ hq))) p hp
theorem offRx {o I2 rx I wa : Nat} {X Y Z Y' Z' : Obj} {G TN1 TN : List (Addr × Obj)} (l1 : I < rx ∧ wa < rx ∧ AllLt rx (G ++ TN1)) (h : ∀ q ∈ (o, X) :: (I2, Y) :: (rx, Z) :: (I, Y') :: (wa, Z') :: G, ∀ p ∈ TN, p.1 ≠ q.1) : ∀ p ∈ G ++ TN, p.1 ≠ rx := fun p hp => by
  rcases List.mem_append.mp hp with hp | hp
  · exact Nat.ne_of_lt (tb_ltOf l1.2.2 p (List.mem_append_left _ hp))
  · exact h _ (.tail _ (.tail _ (.head _))) p hp
theorem off_five {a b c d e y : Str} (h : [a, b, c, d, e].contains y = false) : y ≠ a ∧ y ≠ b ∧ y ≠ c ∧ y ≠ d ∧ y ≠ e := by
  simp at h
  exact ⟨h.1, h.2.1, h.2.2.1, h.2.2.2.1, h.2.2.2.2⟩
theorem off_six {a b c d e f y : Str} (h : [a, b, c, d, e, f].contains y = false) : y ≠ a ∧ y ≠ b ∧ y ≠ c ∧ y ≠ d ∧ y ≠ e ∧ y ≠ f := by
  simp at h
  exact ⟨h.1, h.2.1, h.2.2.1, h.2.2.2.1, h.2.2.2.2.1, h.2.2.2.2.2⟩
theorem off_3of5 {a b c d e y : Str} (h : [a, b, c, d, e].contains y = false) : [c, d, e].contains y = false := by
  simp at h ⊢
  exact ⟨h.2.2.1, h.2.2.2.1, h.2.2.2.2⟩
theorem off_5of6 {a b c d e f y : Str} (h : [a, b, c, d, e, f].contains y = false) : [b, c, d, e, f].contains y = false := by
  simp at h ⊢
  exact ⟨h.2.1, h.2.2.1, h.2.2.2.1, h.2.2.2.2.1, h.2.2.2.2.2⟩
theorem offI2 {o I2 rx I wa : Nat} {X Y Z Y' Z' Z2 Y2 Z3 : Obj} {G TN : List (Addr × Obj)} (h : ∀ q ∈ (o, X) :: (I2, Y) :: (rx, Z) :: (I, Y') :: (wa, Z') :: G, ∀ p ∈ TN, p.1 ≠ q.1) (r1 : rx < I2) (r2 : I < I2) (r3 : wa < I2) (r4 : ∀ p ∈ G, p.1 < I2) : ∀ p ∈ (rx, Z2) :: (I, Y2) :: (wa, Z3) :: (G ++ TN), p.1 ≠ I2 := fun p hp => by
  rcases List.mem_cons.mp hp with rfl | hp
  · exact Nat.ne_of_lt r1
  · rcases List.mem_cons.mp hp with rfl | hp
    · exact Nat.ne_of_lt r2
    · rcases List.mem_cons.mp hp with rfl | hp
      · exact Nat.ne_of_lt r3
      · rcases List.mem_append.mp hp with hp | hp
        · exact Nat.ne_of_lt (r4 p hp)
        · exact h _ (.tail _ (.head _)) p hp
theorem offJ {o I2 rx I wa : Nat} {X Y Z Y' Z' WA : Obj} {G TN : List (Addr × Obj)} (h : ∀ q ∈ (o, X) :: (I2, Y) :: (rx, Z) :: (I, Y') :: (wa, Z') :: G, ∀ p ∈ TN, p.1 ≠ q.1) : ∀ q ∈ (rx, WA) :: (I, WA) :: (wa, WA) :: G, ∀ p ∈ TN, p.1 ≠ q.1 := fun q hq p hp => by
  rcases List.mem_cons.mp hq with rfl | hq
  · exact h _ (.tail _ (.tail _ (.head _))) p hp
  · rcases List.mem_cons.mp hq with rfl | hq
    · exact h _ (.tail _ (.tail _ (.tail _ (.head _)))) p hp
    · rcases List.mem_cons.mp hq with rfl | hq
      · exact h _ (.tail _ (.tail _ (.tail _ (.tail _ (.head _))))) p hp
      · exact h q (.tail _ (.tail _ (.tail _ (.tail _ (.tail _ hq))))) p hp
theorem ints_snoc {vs : List Value} {ns : List Int} (h : IntsAre vs ns) (x : Int) (t : Tok) : IntsAre (vs ++ [.int x t]) (ns ++ [x]) := by
  induction h with
  | nil => exact .cons x t .nil
  | cons n u _ ih => exact .cons n u ih
theorem row_next {vs : Array Value} {W : Nat → Nat → Int} {i y : Nat} {g : Int} {t : Tok} (h : IntsAre vs.toList (rowW W i y)) (hg : g = W i y) : IntsAre (vs.push (.int g t)).toList (rowW W i (y + 1)) := by
  rw [Array.toList_push, rowW_succ, hg]
  exact ints_snoc h _ t
theorem offX {rx I wa : Nat} {X Y WA : Obj} {G TN1 TN : List (Addr × Obj)} (h : ∀ q ∈ (rx, WA) :: (I, WA) :: (wa, WA) :: G, ∀ p ∈ TN, p.1 ≠ q.1) (hw : wa < I) (l1 : I < rx ∧ wa < rx ∧ AllLt rx (G ++ TN1)) (hI : ∀ p ∈ G ++ TN1, p.1 ≠ I) : ∀ p ∈ (wa, X) :: ((rx, Y) :: G ++ TN), p.1 ≠ I := fun p hp => by
  rcases List.mem_cons.mp hp with rfl | hp
  · exact Nat.ne_of_lt hw
  · rcases List.mem_cons.mp hp with rfl | hp
    · exact Nat.ne_of_gt l1.1
    · rcases List.mem_append.mp hp with hp | hp
      · exact hI p (List.mem_append_left _ hp)
      · exact h _ (.tail _ (.head _)) p hp
theorem subX {rx I wa : Nat} {X Y Z : Obj} {G TN : List (Addr × Obj)} : ∀ p ∈ (I, Z) :: (wa, X) :: ((rx, Y) :: G ++ TN), p ∈ (rx, Y) :: (I, Z) :: (wa, X) :: (G ++ TN) := fun p hp => by
  simp only [List.cons_append, List.mem_cons, List.mem_append] at hp ⊢
  rcases hp with h | h | h | h | h <;> simp [h]
theorem offWa {rx I wa : Nat} {Y WA : Obj} {G TN1 TN : List (Addr × Obj)} (h : ∀ q ∈ (rx, WA) :: (I, WA) :: (wa, WA) :: G, ∀ p ∈ TN, p.1 ≠ q.1) (l1 : I < rx ∧ wa < rx ∧ AllLt rx (G ++ TN1)) (hw : ∀ p ∈ G ++ TN1, p.1 ≠ wa) : ∀ p ∈ (rx, Y) :: G ++ TN, p.1 ≠ wa := fun p hp => by
  rcases List.mem_cons.mp hp with rfl | hp
  · exact Nat.ne_of_gt l1.2.1
  · rcases List.mem_append.mp hp with hp | hp
    · exact hw p (List.mem_append_left _ hp)
    · exact h _ (.tail _ (.tail _ (.head _))) p hp
theorem offG {rx I wa : Nat} {Y WA : Obj} {G TN : List (Addr × Obj)} (h : ∀ q ∈ (rx, WA) :: (I, WA) :: (wa, WA) :: G, ∀ p ∈ TN, p.1 ≠ q.1) : ∀ q ∈ (rx, Y) :: G, ∀ p ∈ TN, p.1 ≠ q.1 := fun q hq p hp => by
  rcases List.mem_cons.mp hq with rfl | hq
  · exact h _ (.head _) p hp
  · exact h q (.tail _ (.tail _ (.tail _ hq))) p hp
theorem board (W : Nat → Nat → Int) (hW : ∀ i k, 0 ≤ W i k ∧ W i k < 16) (A B : Nat → List (List Nat)) (hA : ∀ x, x < 5 → ∀ a ∈ A x, a.length = x + 1 ∧ ∀ c ∈ a, c = 45 ∨ c = 46) (hB : ∀ x, x < 5 → ∀ a ∈ B x, a.length = x + 1 ∧ ∀ c ∈ a, c = 45 ∨ c = 46)
    (hgap : ∀ x, x < 5 → ∀ y, y < 5 → (gapOf (optA W (B y) (A x)) : Int) = W x y) (d e : Nat) (own news TN : List (Addr × Obj)) (hd : GameIn own d A) (he : GameIn own e B) (hT : TabL TN news) (ho : ∀ q ∈ own, ∀ p ∈ TN, p.1 ≠ q.1) (hn : ∀ p ∈ news, p.1 ≠ 235) :
    Ctr 254 30 600 [.ref d, .ref e] (own ++ TN) (retBoard own news W) := by
  intro w p loose mean mg mb dp un gd cnF cs aF ccd clF outer A₀ base h₀ L m s Q E BF F X N T hk hdp hun hret
  obtain ⟨yd, hd1, hd2⟩ := hd
  obtain ⟨ye, he1, he2⟩ := he
  k_with_none
  k_with "for!" => ((rename Fr _ _ _ _ => lF'); (with_unfolding_all refine' For_invVF lF' ?k1 ?k2 ?_; (case k1 => exact rfl); (case k2 => exact rfl); k_whole))
  refine wpAny_call ?_
  k_dflt (refine' code_def ?k1 ?k2 ?k3 ?k4 ?k5 ?kA ?kF ?kK ?k6 ?k7 ?k8 ?k9 ?kB ?_ ?c2 ?c3 ?c4 ?c5; (case kA => exact rfl); (case kF => exact rfl); (case kK => first | exact rfl | assumption); (case k1 => k_asm); (case k2 => k_asm); (case k3 => k_asm); (case k4 => k_asm); (case k5 => k_asm); (case k6 => k_is); (case k7 => k_is); (case k8 => ktr_room); (case k9 => first | exact BindsTo.of_eq rfl | exact binds_K (by k_in) rfl (by k_is) rfl rfl rfl); (case c5 => decide); (case kB => exact locs rfl); (case c2 => exact rfl); (case c3 => exact rfl); (case c4 => exact rfl); k_whole; intro g' L' h' FG' F' N' B' X' T'; (try dsimp only); (try k_lift B'); (try k_fold))
  iterate 15 (first | (k_unfold; (try dsimp only)) | walk1 | (dsimp only; walk1))
  k_dflt (refine' loopX (W := W) [Str.ofString "x", Str.ofString "y", Str.ofString "options", Str.ofString "one", Str.ofString "other", Str.ofString "value"] ?zx1 ?zx2 ?zx3 ?zx4 hT ho ?zx5 ?zx6 ?zx7; (case zx3 => k_asm); (case zx4 => k_asm); (case zx1 => rfl); (case zx2 => assumption); (case zx5 => first | assumption | exact allLt_of (by assumption)))
  case zx6 =>
    intro I it i t U wrows n G TN1 h tk hi hR hsub hT1 hwa hG hwI hoI F1 N1
    (try k_fold)
    k_with "app!" => (k_dflt (refine' append_K ?k1 ?k2 ?k3 ?_ ?z; (case k1 => k_asm); (case k2 => k_asm); (case k3 => k_upd); (case z => exact rows_fit hR hi); k_whole); intro h9 F9 N9; (rw [push_eq] at N9))
    k_with "row!" => (first | (k_dflt (refine' rowItem ?N ?hm ?hi ?hv ?_ ?hs ?ht; (case hv => exact hA1); (case N => k_asm); (case hm => (repeat (first | exact List.mem_append_left _ (hsub _ hd1) | apply List.mem_cons_of_mem))); (case hi => omega); (case hs => with_unfolding_all rfl); (case ht => (intro _; with_unfolding_all rfl)))) | (k_dflt (refine' rowItem ?N ?hm ?hi ?hv ?_ ?hs ?ht; (case hv => exact hB1); (case N => k_asm); (case hm => (repeat (first | exact List.mem_append_left _ (hsub _ he1) | apply List.mem_cons_of_mem))); (case hi => omega); (case hs => with_unfolding_all rfl); (case ht => (intro _; with_unfolding_all rfl)))) | (k_dflt (refine' rowItem ?N ?hm ?hi ?hv ?_ ?hs ?ht; (case hv => exact rows_last hR); (case N => k_asm); (case hm => k_mem); (case hi => omega); (case hs => with_unfolding_all rfl); (case ht => (intro _; with_unfolding_all rfl)))))
    iterate 21 (first | (k_unfold; (try dsimp only)) | walk1 | (dsimp only; walk1))
    obtain ⟨ga, zsa, hA1, hA2, hA3⟩ := hd2 i hi
    have hAi := hA i hi
    k_dflt (refine' loopY (W := W) (i := i) (G := G) [Str.ofString "y", Str.ofString "options", Str.ofString "one", Str.ofString "other", Str.ofString "value"] ?zy1 ?zy2 ?zy3 ?zy4 hT1 ?zy5 ?zy6 ?zy7; (case zy3 => k_asm); (case zy4 => k_asm); (case zy1 => rfl); (case zy2 => assumption); (case zy5 => exact hoY (by assumption) hoI hwa hG))
    case zy6 =>
      intro I2 it2 y t2 U2 vs k TN2 h2 tk2 hy hvs hsz hT2 hoff2 r1 r2 r3 r4 r5 F2 N2
      (try k_fold)
      obtain ⟨gb, zsb, hB1, hB2, hB3⟩ := he2 y hy
      have hBy := hB y hy
      iterate 12 (first | (k_unfold; (try dsimp only)) | walk1 | (dsimp only; walk1))
      k_dflt (refine' loopO (as := A i) (vs₀ := []) (k₀ := 0) (fun n => optA W (B y) ((A i).take n)) [Str.ofString "one", Str.ofString "other", Str.ofString "value"] hA3 ?za1 ?za2 ?za3 ?za4 .nil ?za6 ?za7; (case za2 => k_asm); (case za4 => k_asm); (case za1 => rfl); (case za3 => (repeat (first | exact List.mem_append_left _ (hsub _ hA2) | apply List.mem_cons_of_mem))))
      case za6 =>
        intro I3 it3 ia a ta U3 vsa ka h3 tk3 ha hia hvsa oI3 RI3 F3 N3
        (try k_fold)
        have hal := hAi a (List.mem_of_getElem? ha)
        iterate 6 (first | (k_unfold; (try dsimp only)) | walk1 | (dsimp only; walk1))
        k_dflt (refine' loopO (as := B y) (vs₀ := vsa) (k₀ := ka) (fun n => optB W a (optA W (B y) ((A i).take ia)) ((B y).take n)) [Str.ofString "other", Str.ofString "value"] hB3 ?zb1 ?zb2 ?zb3 (permO ?zb4) hvsa ?zb6 ?zb7; (case zb2 => k_asm); (case zb4 => k_asm); (case zb1 => rfl); (case zb3 => (repeat (first | exact List.mem_append_left _ (hsub _ hB2) | apply List.mem_cons_of_mem))))
        case zb6 =>
          intro I4 it4 jb b tb U4 vsb kb h4 tk4 hb hjb hvsb oI4 RI4 F4 N4
          (try k_fold)
          have hbl := hBy b (List.mem_of_getElem? hb)
          have hOk := optB_ok hW a ((B y).take jb) (optA_ok hW (B y) ((A i).take ia))
          have hS := optB_succ (W := W) (a := a) (l := optA W (B y) ((A i).take ia)) hb
          by_cases hm : outc W a b ∈ optB W a (optA W (B y) ((A i).take ia)) ((B y).take jb)
          · k_with "call ref!" => ((try dsimp only [List.nil_append, List.cons_append]); ((with_reducible show wpAny _ _ (call (Value.ref _) [Value.ref _, Value.str _ _, Value.str _ _]) _ _ _); k_dflt (refine' Ctr.use ?k1 ?k2 ?k3 ?k4 ?k5 ?kK (outcome W a b _ _ _ _ ?hw ?hWt hal.2 hbl.2 ?ha5 ?hb5 _ _) ?kd ?ku ?_; (case k1 => k_asm); (case k2 => k_asm); (case k3 => k_asm); (case k4 => k_asm); (case k5 => k_asm); (case kK => first | exact rfl | assumption); (case hw => k_mem); (case hWt => exact worthAt' (vs := vs.toList) hal.1 hbl.1 hR (fun p hp => by (repeat (first | exact List.mem_append_left _ hp | apply List.mem_cons_of_mem))) (by k_mem) hvs hi hy); (case ha5 => (rw [hal.1]; omega)); (case hb5 => (rw [hbl.1]; omega)); (case kd => ktr_room); (case ku => ktr_units)); intro t9 h9 tk9 F9 N9; (try dsimp only); (try k_fold)))
            k_with "notin!" => (k_dflt (refine' notinF ?N ?hm hvsb hm ?_; (case N => k_asm); (case hm => k_mem)))
            k_steps
            exact LEnd.intro (by k_asm) (by assumption) ((_, listOf vsb.toArray kb) :: (I3, it3) :: (I2, it2) :: (_, listOf vs k) :: (I, it) :: (_, _) :: (G ++ TN2)) (by kcj_all) (off_cons oI4 RI4) ⟨by intro z hz; obtain ⟨y1, y2⟩ := off_two hz; simp only [y1, y2, ovl, hz, Bool.false_eq_true, if_false], vsb, kb, rfl, by dsimp only; rw [hS, addOpt_in hm]; exact hvsb⟩
          · k_with "call ref!" => ((try dsimp only [List.nil_append, List.cons_append]); first | ((with_reducible show wpAny _ _ (call (Value.ref _) [Value.ref _, Value.str _ _, Value.str _ _]) _ _ _); k_dflt (refine' Ctr.use ?k1 ?k2 ?k3 ?k4 ?k5 ?kK (outcome W a b _ _ _ _ ?hw ?hWt hal.2 hbl.2 ?ha5 ?hb5 _ _) ?kd ?ku ?_; (case k1 => k_asm); (case k2 => k_asm); (case k3 => k_asm); (case k4 => k_asm); (case k5 => k_asm); (case kK => first | exact rfl | assumption); (case hw => k_mem); (case hWt => exact worthAt' (vs := vs.toList) hal.1 hbl.1 hR (fun p hp => by (repeat (first | exact List.mem_append_left _ hp | apply List.mem_cons_of_mem))) (by k_mem) hvs hi hy); (case ha5 => (rw [hal.1]; omega)); (case hb5 => (rw [hbl.1]; omega)); (case kd => ktr_room); (case ku => ktr_units)); intro t9 h9 tk9 F9 N9; (try dsimp only); (try k_fold)) | ((with_reducible show wpAny _ _ (call (Value.ref _) [Value.ref _, Value.int _ _]) _ _ _); k_dflt (refine' Ctr.use ?k1 ?k2 ?k3 ?k4 ?k5 ?kK (insort _ hOk.1 ?hz vsb _ kb (outc W a b) _ ?hn hvsb _) ?kd ?ku ?_; (case k1 => k_asm); (case k2 => k_asm); (case k3 => k_asm); (case k4 => exact permI (by k_asm)); (case k5 => k_asm); (case kK => first | exact rfl | assumption); (case hz => (have := hOk.len; omega)); (case hn => k_all); (case kd => ktr_room); (case ku => ktr_units)); intro vs9 k9 h9 tk9 I9 F9 N9; (try dsimp only); (try k_fold)))
            k_with "notin!" => (k_dflt (refine' notinT ?N ?hm hvsb hm ?_; (case N => k_asm); (case hm => k_mem)))
            k_steps
            exact LEnd.intro (by k_asm) (by assumption) ((_, listOf _ _) :: (I3, it3) :: (I2, it2) :: (_, listOf vs k) :: (I, it) :: (_, _) :: (G ++ TN2)) (by kcj_all) (off_cons oI4 RI4) ⟨by intro z hz; obtain ⟨y1, y2⟩ := off_two hz; simp only [y1, y2, ovl, hz, Bool.false_eq_true, if_false], _, _, rfl, by dsimp only; rw [hS, addOpt_out hm]; assumption⟩
        case zb7 =>
          intro U4 vsb kb h4 tk4 hvsb F4 N4
          (try k_fold)
          (try dsimp only at hvsb)
          rw [List.take_length] at hvsb
          k_steps
          exact LEnd.intro (by k_asm) (by assumption) ((_, listOf vsb.toArray kb) :: (I2, it2) :: (_, listOf vs k) :: (I, it) :: (_, _) :: (G ++ TN2)) (by kcj_all) (off_cons oI3 RI3) ⟨by intro z hz; obtain ⟨y1, y2, y3⟩ := off_three hz; simp only [y1, y2, y3, ovl, off_2of3 hz, hz, Bool.false_eq_true, if_false], vsb, kb, rfl, by dsimp only; rw [optA_succ ha]; exact hvsb⟩
      case za7 =>
        intro U3 vsa ka h3 tk3 hvsa F3 N3
        (try k_fold)
        (try dsimp only at hvsa)
        rw [List.take_length] at hvsa
        have hOk := optA_ok hW (B y) (A i)
        have hg := hgap i hi y hy
        k_with "call ref!" => ((try dsimp only [List.nil_append, List.cons_append]); ((with_reducible show wpAny _ _ (call (Value.ref _) [Value.ref _]) _ _ _); k_dflt (refine' Ctr.use ?k1 ?k2 ?k3 ?k4 ?k5 ?kK (gapT vsa _ hvsa hOk.1 (fun x hx => (hOk.2 x hx).1) ?hz _ ka ((_, listOf vsa.toArray ka) :: (I2, it2) :: (_, listOf vs k) :: (I, it) :: (_, _) :: G) news TN2 ?hmo hT2 ?ho hn) ?kd ?ku ?_; (case k1 => k_asm); (case k2 => k_asm); (case k3 => k_asm); (case k4 => k_asm); (case k5 => k_asm); (case kK => first | exact rfl | assumption); (case hz => (have := hOk.len; omega)); (case hmo => exact .head _); (case ho => exact hoG (by assumption) hoff2 r5); (case kd => ktr_room); (case ku => ktr_units)); intro t9 TN3 h9 tk9 T9 O9 F9 N9; (try simp only [List.cons_append] at N9); have b1 := offRx (by assumption) O9; (try dsimp only); (try k_fold)))
        k_with "app!" => (k_dflt (refine' append_K ?k1 ?k2 ?k3 ?_ ?z; (case k1 => k_asm); (case k2 => k_asm); (case k3 => k_upd); (case z => exact fit5 hsz hy); k_whole); intro h9 F9 N9)
        k_steps
        exact LEnd.intro (by k_asm) (by assumption) ((_, listOf (vs.push _) _) :: (I, it) :: (_, _) :: (G ++ TN3)) (by kcj_all) (offI2 O9 r1 r2 r3 r4) ⟨by intro z hz; obtain ⟨y1, y2, y3, y4, y5⟩ := off_five hz; simp only [y1, y2, y3, y4, y5, ovl, off_3of5 hz, hz, Bool.false_eq_true, if_false], _, _, TN3, rfl, row_next hvs hg, T9, offJ O9⟩
    case zy7 =>
      intro U2 vs k TN2 h2 tk2 hvs hT2 hoff2 F2 N2
      (try k_fold)
      k_steps
      exact LEnd.intro (by k_asm) (by assumption) ((_, _) :: ((_, listOf vs.toList.toArray k) :: G ++ TN2)) (by exact subX) (offX hoff2 hwI (by assumption) hoI) ⟨by intro z hz; obtain ⟨y1, y2, y3, y4, y5, y6⟩ := off_six hz; simp only [y1, y2, y3, y4, y5, y6, ovl, off_5of6 hz, hz, Bool.false_eq_true, if_false], (wrows.toList ++ [Value.ref _]).toArray, _, _, TN2, rfl, hR.snoc hvs, fun p hp => .tail _ (hsub p hp), hT2, offWa hoff2 (by assumption) hwa, offG hoff2⟩
  case zx7 =>
    intro U wrows n G TN1 h tk hR hsub hT1 hwa hG F1 N1
    (try k_fold)
    k_steps
    exact hret _ wrows _ G TN1 _ _ hR hsub hT1 (by k_asm) (by k_asm)
end
end PartBoard
section PartCoinsL
set_option rowWalk.seconds 0
section
/-- a rule as a number: the coins that it turns are its bits -/
def ruleOf (x : Int) : Int := if (x % 15 + 1) % 2 = 1 then x % 15 + 1 else 2 * (x % 15 + 1)
def valStep (c : Nat → Int) (r : Int) (v : Int) (k : Nat) : Int := if r / 2 ^ k % 2 = 1 then Builtin.bitXor v (c k) else v
def valOf (c : Nat → Int) (r : Int) (p : Nat) : Int := (List.range p).foldl (valStep c r) 0
def atPlace (p : Nat) (r : Int) : Bool := decide (2 ^ p ≤ r ∧ r < 2 ^ (p + 1))
def optsOf (c : Nat → Int) (rs : List Int) (p : Nat) : List Int := (rs.filter (atPlace p)).map fun r => valOf c r p
/-- the least number that is missing -/
def IsMex (l : List Int) (v : Int) : Prop := 0 ≤ v ∧ v ∉ l ∧ ∀ u, 0 ≤ u → u < v → u ∈ l
section
variable {prog : Program} {w : World} {A : Around} {E : Value → Shared → Prop} {s : Shared} {env : Env} {h₀ : Heap} {x : Str} {body : List Stmt} {Q : Flow → Shared → Prop} {m₀ : Str → Option Value}
abbrev JL (o : Nat) (R : List (Addr × Obj)) (S : Nat → List Int) (i : Nat) (nx : List (Addr × Obj)) : Prop := ∃ (A : Array Value) (k : Nat), nx = (o, listOf A k) :: R ∧ IntsAre A.toList (S i)
theorem loopI {g o kk : Nat} {vs : List Value} {ns : List Int} {R : List (Addr × Obj)} (S : Nat → List Int) (ov : List Str)
    (hvs : IntsAre vs ns) (hh : A.handled = none) (F : Fr h₀ env.locals s.heap m₀) (hg : (g, listOf vs.toArray kk) ∈ R) (N : News h₀ env.locals s.heap ((o, listOf #[] 0) :: R)) (hI₀ : S 0 = [])
    (turn : ∀ (I : Nat) it (i : Nat) a t U (vs : Array Value) (k : Nat) h tk, ns[i]? = some a → i < ns.length → IntsAre vs.toList (S i) → vs.size = (S i).length → o < I → (∀ p ∈ R, p.1 < I) →
      Fr h₀ env.locals h (fun y => if y = x then some (.int a t) else ovl ov U m₀ y) → News h₀ env.locals h ((I, it) :: (o, listOf vs k) :: R) →
      wpAny (model prog w) A (execs body env) (LPost h₀ env.locals { s with heap := h, toks := tk } I it (NRest ov m₀ (JL o R S (i + 1))) Q) E { s with heap := h, toks := tk })
    (done : ∀ U (vs : Array Value) (k : Nat) h tk, IntsAre vs.toList (S ns.length) → Fr h₀ env.locals h (ovl ov U m₀) → News h₀ env.locals h ((o, listOf vs k) :: R) → Q .next { s with heap := h, toks := tk }) :
    wpAny (model prog w) A (pyIter (.ref g)) (fun it s₂ => LoopAtV prog w A h₀ env x body Q E it s₂) E s := by
  have hl : vs.length = ns.length := hvs.length
  refine iter_listN (vs := vs) (nn := kk) ov (JL o R S) hh (.tail _ hg) ?_ F N ⟨#[], 0, rfl, by rw [hI₀]; exact .nil⟩ ?_ ?_
  · rintro i nx ⟨A, k, rfl, _⟩
    exact .tail _ hg
  · rintro I hI it i v U nx h tk hv ⟨A, k, rfl, hs⟩ hoff F' N'
    obtain ⟨a, t, hn, rfl⟩ := ints_at hvs hv
    have hi : i < ns.length := by
      rcases Nat.lt_or_ge i ns.length with h | h
      · exact h
      · rw [List.getElem?_eq_none h] at hn; cases hn
    exact turn I it i a t U A k h tk hn hi hs (by have := hs.length; simpa using this) (hI _ (.head _)) (fun p hp => hI p (.tail _ hp)) F' N'
  · rintro U nx h tk ⟨A, k, rfl, hs⟩ F' N'
    rw [hl] at hs
    exact done U A k h tk hs F' N'
theorem loopR {r o n : Nat} {b₀ : Int} {t₀ u₀ v₀ : Tok} {R : List (Addr × Obj)} (S : Nat → List Int) (ov : List Str)
    (hh : A.handled = none) (hr : IsRange s.heap r 0 b₀ 1 t₀ u₀ v₀) (hsm : Builtin.Range.small 0 b₀ 1 = true) (hn : Builtin.Range.rangeSize 0 b₀ 1 = (n : Int)) (F : Fr h₀ env.locals s.heap m₀) (N : News h₀ env.locals s.heap ((o, listOf #[] 0) :: R)) (hI₀ : S 0 = [])
    (turn : ∀ (I : Nat) it (i : Nat) t U (vs : Array Value) (k : Nat) h tk, i < n → IntsAre vs.toList (S i) → vs.size = (S i).length → o < I → (∀ p ∈ R, p.1 < I) →
      Fr h₀ env.locals h (fun y => if y = x then some (.int (0 + (i : Int)) t) else ovl ov U m₀ y) → News h₀ env.locals h ((I, it) :: (o, listOf vs k) :: R) →
      wpAny (model prog w) A (execs body env) (LPost h₀ env.locals { s with heap := h, toks := tk } I it (NRest ov m₀ (JL o R S (i + 1))) Q) E { s with heap := h, toks := tk })
    (done : ∀ U (vs : Array Value) (k : Nat) h tk, IntsAre vs.toList (S n) → Fr h₀ env.locals h (ovl ov U m₀) → News h₀ env.locals h ((o, listOf vs k) :: R) → Q .next { s with heap := h, toks := tk }) :
    wpAny (model prog w) A (pyIter (.ref r)) (fun it s₂ => LoopAtV prog w A h₀ env x body Q E it s₂) E s := by
  refine iter_rangeN (n := n) ov (JL o R S) hh hr hsm hn F N ⟨#[], 0, rfl, by rw [hI₀]; exact .nil⟩ ?_ ?_
  · rintro I hI it i t U nx h tk hi ⟨A, k, rfl, hs⟩ hoff F' N'
    exact turn I it i t U A k h tk hi hs (by have := hs.length; simpa using this) (hI _ (.head _)) (fun p hp => hI p (.tail _ hp)) F' N'
  · rintro U nx h tk ⟨A, k, rfl, hs⟩ F' N'
    exact done U A k h tk hs F' N'
end
/-- a loop over a range that only changes one number -/
theorem loopV {prog : Program} {w : World} {A : Around} {E : Value → Shared → Prop} {s : Shared} {env : Env} {h₀ : Heap} {x : Str} {body : List Stmt} {Q : Flow → Shared → Prop} {m₀ : Str → Option Value} {r n : Nat} {b₀ : Int} {t₀ u₀ v₀ tz : Tok} {R : List (Addr × Obj)} (f : Nat → Int) (ov : List Str) (acc : Str) (hz : m₀ acc = some (.int (f 0) tz))
    (hh : A.handled = none) (hr : IsRange s.heap r 0 b₀ 1 t₀ u₀ v₀) (hsm : Builtin.Range.small 0 b₀ 1 = true) (hn : Builtin.Range.rangeSize 0 b₀ 1 = (n : Int)) (F : Fr h₀ env.locals s.heap m₀) (N : News h₀ env.locals s.heap R)
    (turn : ∀ (I : Nat) it (i : Nat) t tv U h tk, i < n → (∀ p ∈ R, p.1 ≠ I) → Fr h₀ env.locals h (fun y => if y = x then some (.int (0 + (i : Int)) t) else if y = acc then some (.int (f i) tv) else ovl ov U m₀ y) → News h₀ env.locals h ((I, it) :: R) →
      wpAny (model prog w) A (execs body env) (LPost h₀ env.locals { s with heap := h, toks := tk } I it (ARest ov m₀ acc (fun v nx => R = nx ∧ ∃ t, v = .int (f (i + 1)) t)) Q) E { s with heap := h, toks := tk })
    (done : ∀ tv U h tk, Fr h₀ env.locals h (fun y => if y = acc then some (.int (f n) tv) else ovl ov U m₀ y) → News h₀ env.locals h R → Q .next { s with heap := h, toks := tk }) :
    wpAny (model prog w) A (pyIter (.ref r)) (fun it s₂ => LoopAtV prog w A h₀ env x body Q E it s₂) E s := by
  refine iter_rangeA (n := n) ov acc (fun i v nx => R = nx ∧ ∃ t, v = .int (f i) t) hz hh hr hsm hn F N ⟨rfl, tz, rfl⟩ ?_ ?_
  · rintro I hI it i t v U nx h tk hi ⟨rfl, tv, rfl⟩ hoff F' N'
    exact turn I it i t tv U h tk hi hoff F' N'
  · rintro v U nx h tk ⟨rfl, tv, rfl⟩ F' N'
    exact done tv U h tk F' N'
/-- the invariant of the search for the least -/
abbrev MJ (m₀ : Str → Option Value) (news : List (Addr × Obj)) (p : Int) (n : Nat) (m : Str → Option Value) (nx : List (Addr × Obj)) : Prop :=
  ∃ v tl, m (Str.ofString "least") = some (.int v tl) ∧ (∀ y, [Str.ofString "least"].contains y = false → m y = m₀ y) ∧ 0 ≤ v ∧ v ≤ p ∧ n = (p - v).toNat ∧ news = nx
theorem while_mex {prog : Program} {w : World} {A : Around} {E : Value → Shared → Prop} {Q : Flow → Shared → Prop} {s : Shared} {env : Env} {h₀ : Heap} {L : Addr} {test : Expr} {body : List Stmt} {pos : Pos} {m₀ : Str → Option Value} {news : List (Addr × Obj)} {p : Int} {tl : Tok}
    (h1 : m₀ (Str.ofString "least") = some (.int 0 tl)) (hp0 : 0 ≤ p) (F : Fr h₀ L s.heap m₀) (N : News h₀ L s.heap news)
    (turn : ∀ v tl U h tk, 0 ≤ v → v ≤ p → Fr h₀ L h (fun y => if y = Str.ofString "least" then some (.int v tl) else ovl [Str.ofString "least"] U m₀ y) → News h₀ L h news →
      wpAny (model prog w) A (isTrue test env (eval test env)) (fun b s₂ => if b = true then wpAny (model prog w) A (execs body env) (WhileStep h₀ L s (MJ m₀ news p) (p - v).toNat) E s₂ else Q .next s₂) E { s with heap := h, toks := tk })
    (hE : PassesOwn (model prog w) A env E := by passes_own) : wpAny (model prog w) A (exec (.While test body [] pos) env) Q E s := by
  refine While_inv (MJ m₀ news p) (n₀ := (p - 0).toNat) F N ⟨0, tl, h1, fun _ _ => rfl, by omega, hp0, rfl, rfl⟩ ?_ hE
  rintro n m₁ nx h tk F₁ N₁ ⟨v, tl, e1, hm, a1, a2, rfl, rfl⟩
  rw [acc_of hm e1] at F₁
  exact turn v tl m₁ h tk a1 a2 F₁ N₁
section
variable {w : World} {A : Around} {E : Value → Shared → Prop} {s : Shared} {Q : Value → Shared → Prop} {t u : Tok}
theorem inT {h₀ : Heap} {L l : Addr} {vs : List Value} {ns : List Int} {k : Nat} {v : Int} {news : List (Addr × Obj)} (N : News h₀ L s.heap news) (hm : (l, listOf vs.toArray k) ∈ news) (hI : IntsAre vs ns) (hv : v ∈ ns) (h : Q (.bool true) s) : wpAny (model PG w) A (compareOp .In (.int v t) (.ref l)) Q E s :=
  in_list_ints (News.isList N hm) hI (by
    have : ns.any (· == v) = true := by rw [List.any_eq_true]; exact ⟨v, hv, by simp⟩
    rw [this]; exact h)
theorem inF {h₀ : Heap} {L l : Addr} {vs : List Value} {ns : List Int} {k : Nat} {v : Int} {news : List (Addr × Obj)} (N : News h₀ L s.heap news) (hm : (l, listOf vs.toArray k) ∈ news) (hI : IntsAre vs ns) (hv : v ∉ ns) (h : Q (.bool false) s) : wpAny (model PG w) A (compareOp .In (.int v t) (.ref l)) Q E s :=
  in_list_ints (News.isList N hm) hI (by
    have : ns.any (· == v) = false := by rw [List.any_eq_false]; intro x hx; simp; rintro rfl; exact hv hx
    rw [this]; exact h)
theorem pow2 {p : Nat} (hp : p ≤ 10) (h : Q (.int (2 ^ p) s.toks) { s with toks := s.toks + 1 }) : wpAny (model PG w) A (binaryOp .Pow (.int 2 t) (.int (0 + (p : Int)) u)) Q E s := by
  have e : (0 + (p : Int)).toNat = p := by omega
  exact pow_int_small (by omega) (by omega) (by decide) (by rw [e]; exact h)
theorem pow2s {p : Nat} (hp : p ≤ 10) (h : Q (.int (2 ^ (p + 1)) s.toks) { s with toks := s.toks + 1 }) : wpAny (model PG w) A (binaryOp .Pow (.int 2 t) (.int (0 + (p : Int) + 1) u)) Q E s := by
  have e : (0 + (p : Int) + 1).toNat = p + 1 := by omega
  exact pow_int_small (by omega) (by omega) (by decide) (by rw [e]; exact h)
theorem divPow {x : Int} {k : Nat} (hk : k ≤ 10) (h : Q (.int (x / 2 ^ k) s.toks) { s with toks := s.toks + 1 }) : wpAny (model PG w) A (binaryOp .FloorDiv (.int x t) (.int (2 ^ k) u)) Q E s := by
  have hp : (0 : Int) < 2 ^ k := Int.pow_pos (by decide)
  refine floordiv_int (Int.ne_of_gt hp) (by rw [Int.fdiv_eq_ediv_of_nonneg _ (Int.le_of_lt hp)]; exact h) (Or.inl (PyProof.noPylong_of_log2 ?_))
  have key : ∀ k : Fin 11, ((2 : Int) ^ k.val).natAbs.log2 < 9000 := by decide +kernel
  exact key ⟨k, by omega⟩
theorem leT {x y : Int} (e : x ≤ y) (h : Q (.bool true) s) : wpAny (model PG w) A (compareOp .LtE (.int x t) (.int y u)) Q E s := le_int (by simpa [e] using h)
theorem leF {x y : Int} (e : ¬ x ≤ y) (h : Q (.bool false) s) : wpAny (model PG w) A (compareOp .LtE (.int x t) (.int y u)) Q E s := le_int (by rw [decide_eq_false e]; exact h)
end
end
end PartCoinsL
section PartNim
section
abbrev bx (x y : Int) : Int := Builtin.bitXor x y
abbrev N16 (x : Int) : Prop := 0 ≤ x ∧ x < 16
/-- the product below 16, read off one number -/
def t4n (a b : Nat) : Nat := (105869934573458929506328375061315679171845852290158294152364606998566138674788542437607012108590681290039201854413661647678221215878256740644142704492826533379271178812567475734100749217218550151073389438700294400309340617321998747341553871339115878427482513263866732641709495414604747141407345988080972595200 >>> (4 * (16 * a + b))) % 16
theorem lift16 {x : Int} (h : N16 x) : ∃ a : Fin 16, x = ((a.val : Nat) : Int) := ⟨⟨x.toNat, by have := h.1; have := h.2; omega⟩, by have := h.1; simp; omega⟩
theorem bx_nat (a b : Fin 16) : bx ((a.val : Nat) : Int) ((b.val : Nat) : Int) = ((a.val ^^^ b.val : Nat) : Int) := by
  have key : ∀ a b : Fin 16, bx ((a.val : Nat) : Int) ((b.val : Nat) : Int) = ((a.val ^^^ b.val : Nat) : Int) := by decide +kernel
  exact key a b
theorem t4_nat (a b : Fin 16) : t4 ((a.val : Nat) : Int) ((b.val : Nat) : Int) = ((t4n a.val b.val : Nat) : Int) := by
  have key : ∀ a b : Fin 16, t4 ((a.val : Nat) : Int) ((b.val : Nat) : Int) = ((t4n a.val b.val : Nat) : Int) := by decide +kernel
  exact key a b
theorem xor_lt (a b : Fin 16) : a.val ^^^ b.val < 16 := Nat.xor_lt_two_pow (n := 4) a.isLt b.isLt
theorem t4n_lt (a b : Nat) : t4n a b < 16 := Nat.mod_lt _ (by decide)
theorem nim_assoc {x y z : Int} (hx : N16 x) (hy : N16 y) (hz : N16 z) : bx (bx x y) z = bx x (bx y z) := by
  obtain ⟨a, rfl⟩ := lift16 hx
  obtain ⟨b, rfl⟩ := lift16 hy
  obtain ⟨c, rfl⟩ := lift16 hz
  rw [bx_nat a b, bx_nat b c]
  have e1 := bx_nat ⟨_, xor_lt a b⟩ c
  have e2 := bx_nat a ⟨_, xor_lt b c⟩
  simp only at e1 e2
  rw [e1, e2, Nat.xor_assoc]
theorem nim_comm {x y : Int} (hx : N16 x) (hy : N16 y) : bx x y = bx y x := by
  obtain ⟨a, rfl⟩ := lift16 hx
  obtain ⟨b, rfl⟩ := lift16 hy
  rw [bx_nat, bx_nat, Nat.xor_comm]
theorem nim_zero {x : Int} (hx : N16 x) : bx x 0 = x ∧ bx 0 x = x ∧ bx x x = 0 := by
  obtain ⟨a, rfl⟩ := lift16 hx
  have e1 := bx_nat a 0
  have e2 := bx_nat 0 a
  have e3 := bx_nat a a
  simp only [Nat.xor_self] at e3
  refine ⟨?_, ?_, e3⟩
  · have : a.val ^^^ (0 : Fin 16).val = a.val := Nat.xor_zero _
    rw [this] at e1; exact e1
  · have : (0 : Fin 16).val ^^^ a.val = a.val := Nat.zero_xor _
    rw [this] at e2; exact e2
theorem nim_eq {x y : Int} (hx : N16 x) (hy : N16 y) (h : bx x y = 0) : x = y := by
  have h1 := nim_assoc hx hy hy
  rw [(nim_zero hy).2.2, (nim_zero hx).1, h, (nim_zero hy).2.1] at h1
  exact h1.symm
theorem t4_16 {x y : Int} (hx : N16 x) (hy : N16 y) : N16 (t4 x y) := by
  obtain ⟨a, rfl⟩ := lift16 hx
  obtain ⟨b, rfl⟩ := lift16 hy
  rw [t4_nat]
  have := t4n_lt a.val b.val
  constructor <;> omega
theorem t4_zero {x : Int} (hx : N16 x) : t4 x 0 = 0 ∧ t4 0 x = 0 := by
  obtain ⟨a, rfl⟩ := lift16 hx
  have key : ∀ a : Fin 16, t4n a.val 0 = 0 ∧ t4n 0 a.val = 0 := by decide +kernel
  have e1 := t4_nat a 0
  have e2 := t4_nat 0 a
  have k := key a
  exact ⟨e1.trans (by show ((t4n a.val 0 : Nat) : Int) = 0; rw [k.1]; rfl), e2.trans (by show ((t4n 0 a.val : Nat) : Int) = 0; rw [k.2]; rfl)⟩
theorem t4_ne {x y : Int} (hx : N16 x) (hy : N16 y) (h : t4 x y = 0) : x = 0 ∨ y = 0 := by
  obtain ⟨a, rfl⟩ := lift16 hx
  obtain ⟨b, rfl⟩ := lift16 hy
  have key : ∀ a b : Fin 16, t4n a.val b.val = 0 → a.val = 0 ∨ b.val = 0 := by decide +kernel
  rw [t4_nat] at h
  have := key a b (by omega)
  omega
theorem t4_right {x y z : Int} (hx : N16 x) (hy : N16 y) (hz : N16 z) : t4 x (bx y z) = bx (t4 x y) (t4 x z) := by
  obtain ⟨a, rfl⟩ := lift16 hx
  obtain ⟨b, rfl⟩ := lift16 hy
  obtain ⟨c, rfl⟩ := lift16 hz
  have key : ∀ a b c : Fin 16, (t4n a.val (b.val ^^^ c.val) == (t4n a.val b.val ^^^ t4n a.val c.val)) = true := by decide +kernel
  rw [bx_nat, t4_nat a b, t4_nat a c]
  have e1 := t4_nat a ⟨_, xor_lt b c⟩
  have e2 := bx_nat ⟨_, t4n_lt a.val b.val⟩ ⟨_, t4n_lt a.val c.val⟩
  simp only at e1 e2
  rw [e1, e2, beq_iff_eq.mp (key a b c)]
theorem t4_comm {x y : Int} (hx : N16 x) (hy : N16 y) : t4 x y = t4 y x := by
  obtain ⟨a, rfl⟩ := lift16 hx
  obtain ⟨b, rfl⟩ := lift16 hy
  have key : ∀ a b : Fin 16, (t4n a.val b.val == t4n b.val a.val) = true := by decide +kernel
  rw [t4_nat, t4_nat, beq_iff_eq.mp (key a b)]
/-- below the product every number is an option of it -/
theorem t4_opts {p q u : Int} (hp : 0 ≤ p ∧ p < 6) (hq : 0 ≤ q ∧ q < 6) (hu : 0 ≤ u ∧ u < t4 p q) : ∃ a b : Int, (0 ≤ a ∧ a < p) ∧ (0 ≤ b ∧ b < q) ∧ bx (t4 a (bx b q)) (t4 p b) = u := by
  have key : ∀ p q : Fin 6, ∀ u : Fin 16, u.val < t4n p.val q.val → ∃ a : Fin 6, ∃ b : Fin 6, a.val < p.val ∧ b.val < q.val ∧ (t4n a.val (b.val ^^^ q.val) ^^^ t4n p.val b.val) = u.val := by decide +kernel
  have hu16 : u < 16 := by
    have := (t4_16 (x := p) (y := q) ⟨hp.1, by omega⟩ ⟨hq.1, by omega⟩).2
    omega
  obtain ⟨p', rfl⟩ := Int.eq_ofNat_of_zero_le hp.1
  obtain ⟨q', rfl⟩ := Int.eq_ofNat_of_zero_le hq.1
  obtain ⟨u', rfl⟩ := Int.eq_ofNat_of_zero_le hu.1
  have et := t4_nat ⟨p', by omega⟩ ⟨q', by omega⟩
  simp only at et
  rw [et] at hu
  obtain ⟨a, b, h1, h2, h3⟩ := key ⟨p', by omega⟩ ⟨q', by omega⟩ ⟨u', by omega⟩ (by have := hu.2; simp only; omega)
  simp only at h1 h2 h3
  refine ⟨((a.val : Nat) : Int), ((b.val : Nat) : Int), ⟨by omega, by omega⟩, ⟨by omega, by omega⟩, ?_⟩
  have e0 := bx_nat ⟨b.val, by omega⟩ ⟨q', by omega⟩
  have e1 := t4_nat ⟨a.val, by omega⟩ ⟨_, xor_lt ⟨b.val, by omega⟩ ⟨q', by omega⟩⟩
  have e2 := t4_nat ⟨p', by omega⟩ ⟨b.val, by omega⟩
  have e3 := bx_nat ⟨_, t4n_lt a.val (b.val ^^^ q')⟩ ⟨_, t4n_lt p' b.val⟩
  simp only at e0 e1 e2 e3
  rw [e0, e1, e2, e3, h3]
end
end PartNim
section PartTartan
section
/-- the rows whose last coin stands at j -/
def rowsAt (ns : List Int) (j : Nat) : List (List Nat) := (ns.map out).filter fun b => b.length - 1 == j
theorem placeOf_eq (ns : List Int) (j : Nat) : placeOf ns j = (rowsAt ns j).map tx := by
  unfold placeOf fileOf rowsAt
  induction ns with
  | nil => rfl
  | cons a r ih =>
    simp only [List.map_cons, List.filter_cons]
    split <;> simp_all
theorem out_facts (x : Int) : (∀ p, p < 5 → (((out x).length - 1 == p) = atPlace p (ruleOf x))) ∧ (∀ i, i < 5 → i < (out x).length → ((out x)[i]? = some 45 ↔ ruleOf x / 2 ^ i % 2 = 1)) ∧ (out x)[(out x).length - 1]? = some 45 := by
  have key : ∀ k : Fin 15, (∀ p : Fin 5, (((Re.stuff (signs ((k.val + 1 : Nat) : Int))).length - 1 == p.val) = atPlace p.val (if (((k.val + 1 : Nat) : Int)) % 2 = 1 then ((k.val + 1 : Nat) : Int) else 2 * ((k.val + 1 : Nat) : Int)))) ∧
      (∀ i : Fin 5, i.val < (Re.stuff (signs ((k.val + 1 : Nat) : Int))).length → ((Re.stuff (signs ((k.val + 1 : Nat) : Int)))[i.val]? = some 45 ↔ (if (((k.val + 1 : Nat) : Int)) % 2 = 1 then ((k.val + 1 : Nat) : Int) else 2 * ((k.val + 1 : Nat) : Int)) / 2 ^ i.val % 2 = 1)) ∧
      (Re.stuff (signs ((k.val + 1 : Nat) : Int)))[(Re.stuff (signs ((k.val + 1 : Nat) : Int))).length - 1]? = some 45 := by decide +kernel
  have h := rule_ok (x := x)
  have e : ((((x % 15 + 1 - 1).toNat + 1 : Nat)) : Int) = x % 15 + 1 := by omega
  have k := key ⟨(x % 15 + 1 - 1).toNat, by omega⟩
  simp only at k
  rw [e] at k
  refine ⟨fun p hp => k.1 ⟨p, hp⟩, fun i hi hl => k.2.1 ⟨i, hi⟩ hl, k.2.2⟩
theorem foldl_congr {α : Type} {f g : α → Nat → α} {z : α} : ∀ {n : Nat}, (∀ k, k < n → ∀ v, f v k = g v k) → (List.range n).foldl f z = (List.range n).foldl g z
  | 0, _ => rfl
  | n + 1, h => by
    rw [fold_succ, fold_succ, foldl_congr (n := n) fun k hk => h k (by omega), h n (by omega)]
theorem fold_xor {r : Int} {d : Nat → Int} {c : Int} (hd : ∀ k, N16 (d k)) (hc : N16 c) {v : Int} (hv : N16 v) : ∀ n : Nat,
    (List.range n).foldl (fun v k => if r / 2 ^ k % 2 = 1 then bx v (t4 c (d k)) else v) v = bx v (t4 c ((List.range n).foldl (valStep d r) 0)) ∧ N16 ((List.range n).foldl (valStep d r) 0)
  | 0 => by
    refine ⟨?_, (show N16 0 by decide)⟩
    show v = bx v (t4 c 0)
    rw [(t4_zero hc).1, (nim_zero hv).1]
  | n + 1 => by
    obtain ⟨ih, ihN⟩ := fold_xor hd hc hv n
    rw [fold_succ, fold_succ, ih]
    by_cases hb : r / 2 ^ n % 2 = 1
    · have e : valStep d r ((List.range n).foldl (valStep d r) 0) n = bx ((List.range n).foldl (valStep d r) 0) (d n) := by unfold valStep; rw [if_pos hb]
      rw [if_pos hb, e]
      refine ⟨?_, xor16 ihN (hd n)⟩
      rw [t4_right hc ihN (hd n), nim_assoc hv (t4_16 hc ihN) (t4_16 hc (hd n))]
    · have e : valStep d r ((List.range n).foldl (valStep d r) 0) n = (List.range n).foldl (valStep d r) 0 := by unfold valStep; rw [if_neg hb]
      rw [if_neg hb, e]
      exact ⟨rfl, ihN⟩
theorem valOf_16 {c : Nat → Int} (hc : ∀ k, N16 (c k)) (r : Int) (n : Nat) : N16 (valOf c r n) := (fold_xor hc (c := 0) (by decide) (v := 0) (by decide) n).2
/-- what two rules give: the crossings but the last -/
theorem outc_eq {c1 c2 : Nat → Int} (h1 : ∀ k, N16 (c1 k)) (h2 : ∀ k, N16 (c2 k)) {n1 n2 : Int} {x y : Nat} (hx : x < 5) (hy : y < 5) (l1 : (out n1).length = x + 1) (l2 : (out n2).length = y + 1) :
    outc (fun i k => t4 (c1 i) (c2 k)) (out n1) (out n2) = bx (t4 (valOf c1 (ruleOf n1) x) (bx (valOf c2 (ruleOf n2) y) (c2 y))) (t4 (c1 x) (valOf c2 (ruleOf n2) y)) := by
  obtain ⟨-, b1, t1⟩ := out_facts n1
  obtain ⟨-, b2, t2⟩ := out_facts n2
  rw [l1] at t1
  rw [l2] at t2
  simp only [Nat.add_sub_cancel] at t1 t2
  have hβ := valOf_16 h2 (ruleOf n2) y
  have hs : N16 (bx (valOf c2 (ruleOf n2) y) (c2 y)) := xor16 hβ (h2 y)
  have hα := valOf_16 h1 (ruleOf n1) x
  have top2 : ruleOf n2 / 2 ^ y % 2 = 1 := (b2 y hy (by omega)).mp t2
  -- one row, not the last
  have rowLow : ∀ i, i < x → ∀ v, N16 v → outRow (fun i k => t4 (c1 i) (c2 k)) (out n1) (out n2) v i = if ruleOf n1 / 2 ^ i % 2 = 1 then bx v (t4 (c1 i) (bx (valOf c2 (ruleOf n2) y) (c2 y))) else v := by
    intro i hi v hv
    unfold outRow
    rw [l2]
    by_cases hb : ruleOf n1 / 2 ^ i % 2 = 1
    · rw [if_pos hb]
      have ha : (out n1)[i]? = some 45 := (b1 i (by omega) (by omega)).mpr hb
      have e : (List.range (y + 1)).foldl (outStep (fun i k => t4 (c1 i) (c2 k)) (out n1) (out n2) i) v = (List.range (y + 1)).foldl (fun v k => if ruleOf n2 / 2 ^ k % 2 = 1 then bx v (t4 (c1 i) (c2 k)) else v) v := by
        refine foldl_congr fun k hk v => ?_
        unfold outStep
        have hiff : ((out n1)[i]? = some 45 ∧ (out n2)[k]? = some 45 ∧ i + k < (out n1).length + (out n2).length - 2) ↔ ruleOf n2 / 2 ^ k % 2 = 1 := by
          rw [← b2 k (by omega) (by omega)]
          exact ⟨fun h => h.2.1, fun h => ⟨ha, h, by rw [l1, l2]; omega⟩⟩
        by_cases hc : ruleOf n2 / 2 ^ k % 2 = 1
        · rw [if_pos hc, if_pos (hiff.mpr hc)]
        · rw [if_neg hc, if_neg fun h => hc (hiff.mp h)]
      rw [e, (fold_xor h2 (h1 i) hv (y + 1)).1, fold_succ]
      have e2 : valStep c2 (ruleOf n2) ((List.range y).foldl (valStep c2 (ruleOf n2)) 0) y = bx (valOf c2 (ruleOf n2) y) (c2 y) := by unfold valStep; rw [if_pos top2]; rfl
      rw [e2]
    · rw [if_neg hb]
      have e : (List.range (y + 1)).foldl (outStep (fun i k => t4 (c1 i) (c2 k)) (out n1) (out n2) i) v = (List.range (y + 1)).foldl (fun v _ => v) v := by
        refine foldl_congr fun k hk v => ?_
        unfold outStep
        rw [if_neg fun h => hb ((b1 i (by omega) (by omega)).mp h.1)]
      rw [e]
      generalize List.range (y + 1) = l
      induction l with
      | nil => rfl
      | cons _ _ ih => exact ih
  have rowTop : ∀ v, N16 v → outRow (fun i k => t4 (c1 i) (c2 k)) (out n1) (out n2) v x = bx v (t4 (c1 x) (valOf c2 (ruleOf n2) y)) := by
    intro v hv
    unfold outRow
    rw [l2, fold_succ]
    have e0 : ∀ z, outStep (fun i k => t4 (c1 i) (c2 k)) (out n1) (out n2) x z y = z := by
      intro z
      unfold outStep
      rw [if_neg fun h => by have := h.2.2; rw [l1, l2] at this; omega]
    rw [e0]
    have e : (List.range y).foldl (outStep (fun i k => t4 (c1 i) (c2 k)) (out n1) (out n2) x) v = (List.range y).foldl (fun v k => if ruleOf n2 / 2 ^ k % 2 = 1 then bx v (t4 (c1 x) (c2 k)) else v) v := by
      refine foldl_congr fun k hk v => ?_
      unfold outStep
      have hiff : ((out n1)[x]? = some 45 ∧ (out n2)[k]? = some 45 ∧ x + k < (out n1).length + (out n2).length - 2) ↔ ruleOf n2 / 2 ^ k % 2 = 1 := by
        rw [← b2 k (by omega) (by omega)]
        exact ⟨fun h => h.2.1, fun h => ⟨t1, h, by rw [l1, l2]; omega⟩⟩
      by_cases hc : ruleOf n2 / 2 ^ k % 2 = 1
      · rw [if_pos hc, if_pos (hiff.mpr hc)]
      · rw [if_neg hc, if_neg fun h => hc (hiff.mp h)]
    rw [e, (fold_xor h2 (h1 x) hv y).1]
    rfl
  unfold outc
  rw [l1, fold_succ]
  -- the rows below the last
  have low : ∀ n, n ≤ x → (List.range n).foldl (outRow (fun i k => t4 (c1 i) (c2 k)) (out n1) (out n2)) 0 = t4 (bx (valOf c2 (ruleOf n2) y) (c2 y)) (valOf c1 (ruleOf n1) n) := by
    intro n
    induction n with
    | zero => intro _; exact ((t4_zero hs).1).symm
    | succ n ih =>
      intro hn
      have hv := valOf_16 h1 (ruleOf n1) n
      rw [fold_succ, ih (by omega), rowLow n (by omega) _ (t4_16 hs hv)]
      have es : valOf c1 (ruleOf n1) (n + 1) = valStep c1 (ruleOf n1) (valOf c1 (ruleOf n1) n) n := fold_succ _ _ _
      rw [es]
      unfold valStep
      by_cases hb : ruleOf n1 / 2 ^ n % 2 = 1
      · rw [if_pos hb, if_pos hb]
        have := t4_right hs hv (h1 n)
        rw [t4_comm (h1 n) hs]
        exact this.symm
      · rw [if_neg hb, if_neg hb]
  rw [low x (Nat.le_refl _), rowTop _ (t4_16 hs hα), t4_comm hs hα]
theorem pigeon : ∀ (n : Nat) (l : List Int), (∀ u : Int, 0 ≤ u → u < n → u ∈ l) → n ≤ l.length
  | 0, _, _ => Nat.zero_le _
  | n + 1, l, h => by
    have hn : (n : Int) ∈ l := h n (by omega) (by omega)
    have ih := pigeon n (l.erase n) fun u h0 h1 => (List.mem_erase_of_ne (by omega)).mpr (h u h0 (by omega))
    have := List.length_erase_of_mem hn
    have hp : 0 < l.length := List.length_pos_of_mem hn
    omega
theorem mex_ex (l : List Int) : ∃ v, IsMex l v := by
  have key : ∀ n : Nat, (∃ v, IsMex l v) ∨ ∀ u : Int, 0 ≤ u → u < n → u ∈ l := by
    intro n
    induction n with
    | zero => exact .inr fun u h0 h1 => by omega
    | succ n ih =>
      rcases ih with h | h
      · exact .inl h
      · by_cases hn : (n : Int) ∈ l
        · refine .inr fun u h0 h1 => ?_
          by_cases e : u = n
          · exact e ▸ hn
          · exact h u h0 (by omega)
        · exact .inl ⟨n, by omega, hn, h⟩
  rcases key (l.length + 1) with h | h
  · exact h
  · have := pigeon _ _ h
    omega
theorem mex_le {l : List Int} {v : Int} (h : IsMex l v) : v ≤ l.length := by
  have := pigeon v.toNat l fun u h0 h1 => h.2.2 u h0 (by omega)
  have := h.1
  omega
theorem valOf_congr {c c' : Nat → Int} {r : Int} {p : Nat} (h : ∀ k, k < p → c k = c' k) : valOf c r p = valOf c' r p := by
  unfold valOf
  exact foldl_congr fun k hk v => by unfold valStep; rw [h k hk]
theorem optsOf_congr {c c' : Nat → Int} {rs : List Int} {p : Nat} (h : ∀ k, k < p → c k = c' k) : optsOf c rs p = optsOf c' rs p := by
  unfold optsOf
  congr 1
  funext r
  exact valOf_congr h
/-- the coins' worths -/
theorem coins_ex (rs : List Int) (h5 : rs.length ≤ 5) : ∃ c : Nat → Int, (∀ p, p < 5 → IsMex (optsOf c rs p) (c p)) ∧ ∀ k, 0 ≤ c k ∧ c k < 6 := by
  have key : ∀ n : Nat, ∃ c : Nat → Int, (∀ p, p < n → IsMex (optsOf c rs p) (c p)) ∧ ∀ k, 0 ≤ c k ∧ c k < 6 := by
    intro n
    induction n with
    | zero => exact ⟨fun _ => 0, fun p hp => by omega, fun _ => (by decide : (0 : Int) ≤ 0 ∧ (0 : Int) < 6)⟩
    | succ n ih =>
      obtain ⟨c, h1, h2⟩ := ih
      obtain ⟨v, hv⟩ := mex_ex (optsOf c rs n)
      have hle := mex_le hv
      have hl : (optsOf c rs n).length ≤ 5 := by
        unfold optsOf
        rw [List.length_map]
        exact Nat.le_trans (List.length_filter_le ..) h5
      have agree : ∀ p, p ≤ n → optsOf (fun k => if k = n then v else c k) rs p = optsOf c rs p := fun p hp => optsOf_congr fun k hk => by rw [if_neg (by omega)]
      refine ⟨fun k => if k = n then v else c k, fun p hp => ?_, fun k => ?_⟩
      · rw [agree p (by omega)]
        by_cases e : p = n
        · subst e; simp only [if_true]; exact hv
        · simp only [if_neg e]; exact h1 p (by omega)
      · by_cases e : k = n
        · simp only [if_pos e]; have := hv.1; omega
        · simp only [if_neg e]; exact h2 k
  exact key 5
theorem rowsAt_mem {ns : List Int} {j : Nat} {a : List Nat} (h : a ∈ rowsAt ns j) : ∃ n ∈ ns, a = out n ∧ a.length = j + 1 := by
  unfold rowsAt at h
  obtain ⟨h1, h2⟩ := List.mem_filter.mp h
  obtain ⟨n, hn, rfl⟩ := List.mem_map.mp h1
  have := out_len n
  have : (out n).length - 1 = j := by simpa using h2
  exact ⟨n, hn, rfl, by omega⟩
/-- the Tartan theorem at one crossing -/
theorem tartan {c1 c2 : Nat → Int} {ns1 ns2 : List Int} (m1 : ∀ p, p < 5 → IsMex (optsOf c1 (ns1.map ruleOf) p) (c1 p)) (m2 : ∀ p, p < 5 → IsMex (optsOf c2 (ns2.map ruleOf) p) (c2 p)) (b1 : ∀ k, 0 ≤ c1 k ∧ c1 k < 6) (b2 : ∀ k, 0 ≤ c2 k ∧ c2 k < 6) (x : Nat) (hx : x < 5) (y : Nat) (hy : y < 5) :
    (gapOf (optA (fun i k => t4 (c1 i) (c2 k)) (rowsAt ns2 y) (rowsAt ns1 x)) : Int) = t4 (c1 x) (c2 y) := by
  have h1 : ∀ k, N16 (c1 k) := fun k => ⟨(b1 k).1, by have := (b1 k).2; omega⟩
  have h2 : ∀ k, N16 (c2 k) := fun k => ⟨(b2 k).1, by have := (b2 k).2; omega⟩
  have hW : ∀ i k, 0 ≤ t4 (c1 i) (c2 k) ∧ t4 (c1 i) (c2 k) < 16 := fun i k => t4_16 (h1 i) (h2 k)
  refine gap_is (optA_ok hW _ _) (hW x y).1 (fun hm => ?_) (fun u h0 hu => ?_)
  · obtain ⟨a, ha, b, hb, e⟩ := mem_optA.mp hm
    obtain ⟨n1, hn1, rfl, l1⟩ := rowsAt_mem ha
    obtain ⟨n2, hn2, rfl, l2⟩ := rowsAt_mem hb
    rw [outc_eq h1 h2 hx hy l1 l2] at e
    have hα := valOf_16 h1 (ruleOf n1) x
    have hβ := valOf_16 h2 (ruleOf n2) y
    have hs : N16 (bx (valOf c2 (ruleOf n2) y) (c2 y)) := xor16 hβ (h2 y)
    have hz : t4 (bx (valOf c1 (ruleOf n1) x) (c1 x)) (bx (valOf c2 (ruleOf n2) y) (c2 y)) = 0 := by
      rw [t4_comm (xor16 hα (h1 x)) hs, t4_right hs hα (h1 x), t4_comm hs hα, t4_comm hs (h1 x), t4_right (h1 x) hβ (h2 y), ← nim_assoc (t4_16 hα hs) (t4_16 (h1 x) hβ) (t4_16 (h1 x) (h2 y)), ← e]
      exact (nim_zero (t4_16 (h1 x) (h2 y))).2.2
    have inOpt : ∀ {c : Nat → Int} {ns : List Int} {n : Int} {j : Nat}, j < 5 → n ∈ ns → (out n).length = j + 1 → valOf c (ruleOf n) j ∈ optsOf c (ns.map ruleOf) j := by
      intro c ns n j hj hn hl
      unfold optsOf
      refine List.mem_map.mpr ⟨ruleOf n, List.mem_filter.mpr ⟨List.mem_map.mpr ⟨n, hn, rfl⟩, ?_⟩, rfl⟩
      rw [← (out_facts n).1 j hj, hl]
      simp
    rcases t4_ne (xor16 hα (h1 x)) hs hz with h | h
    · exact (m1 x hx).2.1 (nim_eq hα (h1 x) h ▸ inOpt hx hn1 l1)
    · exact (m2 y hy).2.1 (nim_eq hβ (h2 y) h ▸ inOpt hy hn2 l2)
  · obtain ⟨α, β, hα, hβ, e⟩ := t4_opts (b1 x) (b2 y) ⟨h0, hu⟩
    have fromOpt : ∀ {c : Nat → Int} {ns : List Int} {v : Int} {j : Nat}, j < 5 → v ∈ optsOf c (ns.map ruleOf) j → ∃ n, out n ∈ rowsAt ns j ∧ (out n).length = j + 1 ∧ valOf c (ruleOf n) j = v := by
      intro c ns v j hj hv
      unfold optsOf at hv
      obtain ⟨r, hr, rfl⟩ := List.mem_map.mp hv
      obtain ⟨hr1, hr2⟩ := List.mem_filter.mp hr
      obtain ⟨n, hn, rfl⟩ := List.mem_map.mp hr1
      rw [← (out_facts n).1 j hj] at hr2
      have := out_len n
      have h3 : (out n).length - 1 = j := by simpa using hr2
      refine ⟨n, ?_, by omega, rfl⟩
      unfold rowsAt
      exact List.mem_filter.mpr ⟨List.mem_map.mpr ⟨n, hn, rfl⟩, hr2⟩
    obtain ⟨n1, r1, l1, v1⟩ := fromOpt hx ((m1 x hx).2.2 α hα.1 hα.2)
    obtain ⟨n2, r2, l2, v2⟩ := fromOpt hy ((m2 y hy).2.2 β hβ.1 hβ.2)
    refine mem_optA.mpr ⟨out n1, r1, out n2, r2, ?_⟩
    rw [outc_eq h1 h2 hx hy l1 l2, v1, v2]
    exact e.symm
end
end PartTartan
section PartCoins
set_option rowWalk.seconds 0
section

theorem next_map {A : Array Value} {ns : List Int} {f : Int → Int} {i : Nat} {x v : Int} {t : Tok} (h : IntsAre A.toList ((ns.take i).map f)) (hx : ns[i]? = some x) (e : v = f x) : IntsAre (A.push (.int v t)).toList ((ns.take (i + 1)).map f) := by
  rw [Array.toList_push, List.take_add_one, hx, e]
  simp only [Option.toList_some, List.map_append, List.map_cons, List.map_nil]
  exact ints_snoc h _ t
theorem modTwo {w : World} {A : Around} {E : Value → Shared → Prop} {s : Shared} {t u : Tok} {Q : Value → Shared → Prop} {x : Int} (h : Q (.int (x % 2) s.toks) { s with toks := s.toks + 1 }) : wpAny (model PG w) A (binaryOp .Mod (.int x t) (.int 2 u)) Q E s := mod_int' (by decide) (by rw [Int.fmod_eq_emod_of_nonneg _ (by decide)]; exact h)
theorem coin_at {c : Nat → Int} {p k : Nat} (h : k < p) : ((List.range p).map c)[k]? = some (c k) := by
  rw [List.getElem?_map, List.getElem?_range h]; rfl
theorem rangeZ {p : Nat} (h : p < 5) : Builtin.Range.small 0 (0 + (p : Int)) 1 = true ∧ Builtin.Range.rangeSize 0 (0 + (p : Int)) 1 = (p : Int) := by
  rw [Int.zero_add]; exact range5 (by omega)
theorem valT {c : Nat → Int} {r z : Int} {k : Nat} (h : r / 2 ^ k % 2 = 1) : (List.range (k + 1)).foldl (valStep c r) z = Builtin.bitXor ((List.range k).foldl (valStep c r) z) (c k) := by
  rw [fold_succ]; unfold valStep; rw [if_pos h]
theorem valF {c : Nat → Int} {r z : Int} {k : Nat} (h : ¬ r / 2 ^ k % 2 = 1) : (List.range (k + 1)).foldl (valStep c r) z = (List.range k).foldl (valStep c r) z := by
  rw [fold_succ]
  show valStep c r _ k = _
  unfold valStep; rw [if_neg h]
theorem optsOf_len {c : Nat → Int} {rs : List Int} {p j : Nat} (h : j ≤ 100) : (optsOf c (rs.take j) p).length ≤ 100 := by
  unfold optsOf
  rw [List.length_map]
  refine Nat.le_trans (List.length_filter_le ..) ?_
  rw [List.length_take]; omega
theorem opts_T {A : Array Value} {c : Nat → Int} {rs : List Int} {p j : Nat} {r : Int} {t : Tok} (h : IntsAre A.toList (optsOf c (rs.take j) p)) (hr : rs[j]? = some r) (h1 : 2 ^ p ≤ r) (h2 : r < 2 ^ (p + 1)) : IntsAre (A.push (.int ((List.range p).foldl (valStep c r) 0) t)).toList (optsOf c (rs.take (j + 1)) p) := by
  have e : optsOf c (rs.take (j + 1)) p = optsOf c (rs.take j) p ++ [valOf c r p] := by
    unfold optsOf
    rw [List.take_add_one, hr]
    have : atPlace p r = true := decide_eq_true ⟨h1, h2⟩
    simp [List.filter_append, this]
  rw [e, Array.toList_push]
  exact ints_snoc h _ t
theorem opts_F {A : Array Value} {c : Nat → Int} {rs : List Int} {p j : Nat} {r : Int} (h : IntsAre A.toList (optsOf c (rs.take j) p)) (hr : rs[j]? = some r) (hn : ¬ (2 ^ p ≤ r ∧ r < 2 ^ (p + 1))) : IntsAre A.toList (optsOf c (rs.take (j + 1)) p) := by
  have e : optsOf c (rs.take (j + 1)) p = optsOf c (rs.take j) p := by
    unfold optsOf
    rw [List.take_add_one, hr]
    have : atPlace p r = false := decide_eq_false hn
    simp [List.filter_append, this]
  rw [e]; exact h
theorem off_mk {a b y : Str} (h1 : y ≠ a) (h2 : y ≠ b) : [a, b].contains y = false := by simp [h1, h2]
theorem off_mk1 {a y : Str} (h1 : y ≠ a) : [a].contains y = false := by simp [h1]
theorem off_mk3 {a b c y : Str} (h1 : y ≠ a) (h2 : y ≠ b) (h3 : y ≠ c) : [a, b, c].contains y = false := by simp [h1, h2, h3]
theorem coins_next {A : Array Value} {c : Nat → Int} {p : Nat} {v : Int} {t : Tok} (h : IntsAre A.toList ((List.range p).map c)) (hv : v = c p) : IntsAre (A.push (.int v t)).toList ((List.range (p + 1)).map c) := by
  rw [Array.toList_push, List.range_succ, List.map_append, hv]
  exact ints_snoc h _ t
theorem fitL {A : Array Value} {n : Nat} (h : A.size = n) (hn : n ≤ 100) : A.size ≤ sizeLine := Nat.le_trans (by omega) (by decide : 100 ≤ sizeLine)
abbrev retCoins (NW : List (Addr × Obj)) (c : Nat → Int) (_w : World) (h₀ : Heap) (L : Addr) (m : Str → Option Value) (s : Shared) (Q : Value → Shared → Prop) : Prop :=
  ∀ (D : Nat) (A : Array Value) (n : Nat) (h' : Heap) (tk' : Nat), IntsAre A.toList ((List.range 5).map c) → Fr h₀ L h' m → News h₀ L h' ((D, listOf A n) :: NW) → (∀ p ∈ NW, p.1 < D) → Q (.ref D) { s with heap := h', toks := tk' }
local macro_rules | `(tactic| walk_at "binaryOp Mod int int") => `(tactic| first | refine mod15 ?_ | refine modTwo ?_)
theorem coins (c : Nat → Int) (ns : List Int) (h5 : ns.length = 5) (hmex : ∀ p, p < 5 → IsMex (optsOf c (ns.map ruleOf) p) (c p)) (vs : List Value) (l kk : Nat) (hvs : IntsAre vs ns) (NW : List (Addr × Obj)) (hm : (l, listOf vs.toArray kk) ∈ NW) :
    Ctr 261 6 64 [.ref l] NW (retCoins NW c) := by
  intro w p loose mean mg mb dp un gd cnF cs aF ccd clF outer A₀ base h₀ L m s Q E B F X N T hk hdp hun hret
  k_with_none
  k_with "for!" => ((rename Fr _ _ _ _ => lF'); (with_unfolding_all refine' For_invVF lF' ?k1 ?k2 ?_; (case k1 => exact rfl); (case k2 => exact rfl); k_whole))
  refine wpAny_call ?_
  k_dflt (refine' code_def ?k1 ?k2 ?k3 ?k4 ?k5 ?kA ?kF ?kK ?k6 ?k7 ?k8 ?k9 ?kB ?_ ?c2 ?c3 ?c4 ?c5; (case kA => exact rfl); (case kF => exact rfl); (case kK => first | exact rfl | assumption); (case k1 => k_asm); (case k2 => k_asm); (case k3 => k_asm); (case k4 => k_asm); (case k5 => k_asm); (case k6 => k_is); (case k7 => k_is); (case k8 => ktr_room); (case k9 => first | exact BindsTo.of_eq rfl | exact binds_K (by k_in) rfl (by k_is) rfl rfl rfl); (case c5 => decide); (case kB => exact locs rfl); (case c2 => exact rfl); (case c3 => exact rfl); (case c4 => exact rfl); k_whole; intro g' L' h' FG' F' N' B' X' T'; (try dsimp only); (try k_lift B'); (try k_fold))
  iterate 9 (first | (k_unfold; (try dsimp only)) | walk1 | (dsimp only; walk1))
  k_dflt (refine' loopI (R := NW) (fun i => (ns.take i).map ruleOf) [Str.ofString "x", Str.ofString "rule"] hvs ?zr1 ?zr2 hm ?zr4 rfl ?zr6 ?zr7; (case zr2 => k_asm); (case zr4 => k_asm); (case zr1 => rfl))
  case zr6 =>
    intro I it i x t U A k h tk hx hi hA hAs oI RI F1 N1
    (try k_fold)
    k_with "app!" => (k_dflt (refine' append_K ?k1 ?k2 ?k3 ?_ ?z; (case k1 => k_asm); (case k2 => k_asm); (case k3 => k_upd); (case z => exact fitL hAs (by simp; omega)); k_whole); intro h9 F9 N9)
    by_cases hr : (x % 15 + 1) % 2 = 1
    · k_with "eq!" => (k_dflt (first | refine eqT (by omega) ?_ | refine eqF (by omega) ?_))
      k_steps
      exact LEnd.intro (by k_asm) (by assumption) ((_, listOf (A.push _) _) :: NW) (by kcj_all) (off_cons oI RI) ⟨by intro z hz; obtain ⟨y1, y2⟩ := off_two hz; simp only [y1, y2, ovl, hz, Bool.false_eq_true, if_false], _, _, rfl, next_map hA hx (by unfold ruleOf; rw [if_pos hr])⟩
    · k_with "eq!" => (k_dflt (first | refine eqT (by omega) ?_ | refine eqF (by omega) ?_))
      k_steps
      exact LEnd.intro (by k_asm) (by assumption) ((_, listOf (A.push _) _) :: NW) (by kcj_all) (off_cons oI RI) ⟨by intro z hz; obtain ⟨y1, y2⟩ := off_two hz; simp only [y1, y2, ovl, hz, Bool.false_eq_true, if_false], _, _, rfl, next_map hA hx (by unfold ruleOf; rw [if_neg hr])⟩
  case zr7 =>
    intro U A k9 h tk hA F1 N1
    (try k_fold)
    (try dsimp only at hA)
    rw [List.take_length] at hA
    have hrl : (ns.map ruleOf).length = 5 := by rw [List.length_map]; exact h5
    obtain ⟨rs, hrs⟩ : ∃ rs, rs = ns.map ruleOf := ⟨_, rfl⟩
    rw [← hrs] at hA hmex hrl
    iterate 15 (first | (k_unfold; (try dsimp only)) | walk1 | (dsimp only; walk1))
    k_dflt (refine' loopR (n := 5) (b₀ := 5) (R := (_, listOf A k9) :: NW) (fun i => (List.range i).map c) [Str.ofString "place", Str.ofString "options", Str.ofString "rule", Str.ofString "value", Str.ofString "k", Str.ofString "least"] ?zp1 ?zp2 (by decide) (by decide) ?zp3 ?zp4 rfl ?zp6 ?zp7; (case zp3 => k_asm); (case zp4 => k_asm); (case zp1 => rfl); (case zp2 => assumption))
    case zp6 =>
      intro I it p t2 U2 C n h2 tk2 hp hC hCs cI RI F2 N2
      (try k_fold)
      (try dsimp only at hC)
      iterate 9 (first | (k_unfold; (try dsimp only)) | walk1 | (dsimp only; walk1))
      k_dflt (refine' loopI (ns := rs) (vs := A.toList) (kk := k9) (R := (I, it) :: (_, listOf C n) :: (_, listOf A k9) :: NW) (fun i => optsOf c (rs.take i) p) [Str.ofString "rule", Str.ofString "value", Str.ofString "k"] ?zq0 ?zq1 ?zq2 ?zq3 ?zq4 ?zq5 ?zq6 ?zq7; (case zq2 => k_asm); (case zq4 => k_asm); (case zq1 => rfl); (case zq3 => k_mem); (case zq5 => rfl); (case zq0 => assumption))
      case zq6 =>
        intro I3 it3 j r t3 U3 O n3 h3 tk3 hr hj hO hOs oI3 RI3 F3 N3
        (try k_fold)
        (try dsimp only at hO)
        k_with "pow!" => (k_dflt (first | with_reducible refine pow2 (p := p) (by omega) ?_ | with_reducible refine pow2s (p := p) (by omega) ?_))
        k_with "le!" => (k_dflt (first | refine leT h1 ?_ | refine leF h1 ?_))
        k_with "lt!" => (k_dflt (first | refine ltT h2 ?_ | refine ltF h2 ?_))
        by_cases h1 : 2 ^ p ≤ r
        · by_cases h2 : r < 2 ^ (p + 1)
          · iterate 37 (first | (k_unfold; (try dsimp only)) | walk1 | (dsimp only; walk1))
            k_dflt (refine' loopV (n := p) (fun k => (List.range k).foldl (valStep c r) 0) [Str.ofString "k", Str.ofString "value"] (Str.ofString "value") ?zs1 ?zs7 ?zs2 (rangeZ hp).1 (rangeZ hp).2 ?zs3 ?zs4 ?zs5 ?zs6; (case zs3 => k_asm); (case zs4 => k_asm); (case zs2 => assumption); (case zs7 => rfl); (case zs1 => rfl))
            · intro I4 it4 k t4 tv4 U4 h4 tk4 hk4 hoff4 F4 N4
              (try k_fold)
              k_with "pow!" => (k_dflt (with_reducible refine pow2 (p := k) (by omega) ?_))
              k_with "div!" => (k_dflt (refine divPow (by omega) ?_))
              k_with "eq!" => (k_dflt (first | refine eqT hb ?_ | refine eqF hb ?_))
              k_with "row!" => (k_dflt (refine' intItem ?N ?hm ?hi ?hI (coin_at hk4) ?_ ?hs; (case N => k_asm); (case hI => assumption); (case hm => k_mem); (case hi => omega); (case hs => with_unfolding_all rfl)); intro t9)
              by_cases hb : r / 2 ^ k % 2 = 1
              · k_steps
                exact LEnd.intro (by k_asm) (by assumption) _ (by kcj_all) hoff4 ⟨by intro z hz; obtain ⟨y1, y2⟩ := off_two hz; simp only [y1, y2, ovl, hz, Bool.false_eq_true, if_false], _, rfl, rfl, _, congrArg (fun z => Value.int z _) (valT hb).symm⟩
              · k_steps
                exact LEnd.intro (by k_asm) (by assumption) _ (by kcj_all) hoff4 ⟨by intro z hz; obtain ⟨y1, y2⟩ := off_two hz; simp only [y1, y2, ovl, hz, Bool.false_eq_true, if_false], _, rfl, rfl, _, congrArg (fun z => Value.int z _) (valF hb).symm⟩
            · intro tv4 U4 h4 tk4 F4 N4
              (try k_fold)
              k_with "app!" => (k_dflt (refine' append_K ?k1 ?k2 ?k3 ?_ ?z; (case k1 => k_asm); (case k2 => k_asm); (case k3 => k_upd); (case z => exact fitL hOs (optsOf_len (by omega))); k_whole); intro h9 F9 N9)
              k_steps
              exact LEnd.intro (by k_asm) (by assumption) ((_, listOf (O.push _) _) :: (I, it) :: (_, listOf C n) :: (_, listOf A k9) :: NW) (by kcj_all) (off_cons oI3 RI3) ⟨by intro z hz; obtain ⟨y1, y2, y3⟩ := off_three hz; have y4 := off_mk y3 y2; simp only [y1, y2, y3, y4, ovl, hz, Bool.false_eq_true, if_false], _, _, rfl, opts_T hO hr h1 h2⟩
          · k_steps
            exact LEnd.intro (by k_asm) (by assumption) ((_, listOf O n3) :: (I, it) :: (_, listOf C n) :: (_, listOf A k9) :: NW) (by kcj_all) (off_cons oI3 RI3) ⟨by intro z hz; obtain ⟨y1, y2, y3⟩ := off_three hz; simp only [y1, y2, y3, ovl, hz, Bool.false_eq_true, if_false], _, _, rfl, opts_F hO hr fun h => h2 h.2⟩
        · k_steps
          exact LEnd.intro (by k_asm) (by assumption) ((_, listOf O n3) :: (I, it) :: (_, listOf C n) :: (_, listOf A k9) :: NW) (by kcj_all) (off_cons oI3 RI3) ⟨by intro z hz; obtain ⟨y1, y2, y3⟩ := off_three hz; simp only [y1, y2, y3, ovl, hz, Bool.false_eq_true, if_false], _, _, rfl, opts_F hO hr fun h => h1 h.1⟩
      case zq7 =>
        intro U3 O n3 h3 tk3 hO F3 N3
        (try k_fold)
        (try dsimp only at hO)
        rw [List.take_length] at hO
        obtain ⟨q1, q2, q3⟩ := hmex p hp
        iterate 5 (first | (k_unfold; (try dsimp only)) | walk1 | (dsimp only; walk1))
        k_dflt (refine' while_mex (p := c p) ?zw1 q1 ?zw2 ?zw3 ?zw4 ?zw5; (case zw2 => k_asm); (case zw3 => k_asm); (case zw1 => rfl))
        case zw4 =>
          intro v tl U4 h4 tk4 b1 b2 F4 N4
          (try k_fold)
          by_cases hv : v = c p
          · k_with "in!" => (k_dflt (refine' inF (vs := O.toList) ?N ?hm ?hI (hv ▸ q2) ?_; (case N => k_asm); (case hI => assumption); (case hm => k_mem)))
            k_with "app!" => (k_dflt (refine' append_K ?k1 ?k2 ?k3 ?_ ?z; (case k1 => k_asm); (case k2 => k_asm); (case k3 => k_upd); (case z => exact fitL hCs (by simp; omega)); k_whole); intro h9 F9 N9)
            k_steps
            exact LEnd.intro (by k_asm) (by assumption) ((_, listOf (C.push _) _) :: (_, listOf A k9) :: NW) (by kcj_all) (off_cons cI RI) ⟨by intro z hz; obtain ⟨y1, y2, y3, y4, y5, y6⟩ := off_six hz; have y7 := off_mk1 y6; have y8 := off_mk3 y3 y4 y5; simp only [y1, y2, y3, y4, y5, y6, y7, y8, ovl, hz, Bool.false_eq_true, if_false], _, _, rfl, coins_next hC hv⟩
          · k_with "in!" => (k_dflt (refine' inT (vs := O.toList) ?N ?hm ?hI (q3 v b1 (by omega)) ?_; (case N => k_asm); (case hI => assumption); (case hm => k_mem)))
            k_steps
            exact WhileStep.intro (n' := (c p - (v + 1)).toNat) (by k_asm) (by k_asm) (by omega) ⟨v + 1, _, rfl, by intro z hz; have y1 := off_one hz; simp only [y1, ovl, hz, Bool.false_eq_true, if_false], by omega, by omega, rfl, rfl⟩
        case zw5 => passes_own
    case zp7 =>
      intro U2 C n h2 tk2 hC F2 N2
      (try k_fold)
      k_steps
      exact hret _ C n _ _ hC (by k_asm) (cb_drop (by assumption) (by kcj_all)) (by exact lt2 (by assumption))
end
end PartCoins
section PartCompCell
section
open PyProof.Rows.LCg
theorem newEnv_cell {M : Model} {A : Around} {E : Value → Shared → Prop} {s : Shared} {scope : Scope} {globals : Addr} {cl : List (Str × Addr)} {qual : Str} {env : Env} {x : Str} {a0 a2 : Str × NameKind} {Q : Env → Shared → Prop}
    (hnm : scope.names = [a0, (x, .cell), a2]) (h0 : a0.2 ≠ .cell) (h2 : a2.2 ≠ .cell)
    (h : Q { scope := scope, locals := s.heap.objs.size, globals := globals, cells := (x, s.heap.objs.size + 1) :: cl, qual := qual, func := none, code := env.code, frame := env.frame, builtins := env.builtins } { s with heap := (s.heap.push { cls := .type "dict", data := .dict #[] }).push { cls := .type "cell", data := .cell none } }) :
    wpAny M A (newFunctionEnv scope globals cl [] qual none .none (some env)) Q E s := by
  obtain ⟨n0, k0⟩ := a0
  obtain ⟨n2, k2⟩ := a2
  have b0 : (k0 == NameKind.cell) = false := by simpa using h0
  have b2 : (k2 == NameKind.cell) = false := by simpa using h2
  unfold newFunctionEnv
  simp only [Option.isSome_some, if_true]
  refine wpAny_bind (wpAny_alloc ?_)
  rw [hnm]
  simp only [List.forIn_cons, List.forIn_nil, b0, b2, Bool.false_eq_true, if_false, beq_self_eq_true, if_true, pure_bind, bind_assoc]
  refine wpAny_bind (wpAny_alloc (wpAny_pure ?_))
  rw [show ({ s with heap := s.heap.push { cls := .type "dict", data := .dict #[] } } : Shared).heap.objs.size = s.heap.objs.size + 1 from Heap.size_push ..]
  exact h
/-- apart from the comprehension's own four objects -/
def Off4 (I C K D : Nat) (nx : List (Addr × Obj)) : Prop := ∀ p ∈ nx, @Ne Nat p.1 I ∧ @Ne Nat p.1 C ∧ @Ne Nat p.1 K ∧ @Ne Nat p.1 D
def CellEnd (h₀ : Heap) (L : Addr) (m : Str → Option Value) (s₁ : Shared) (I : Addr) (oI : Obj) (C : Addr) (oC : Obj) (K : Addr) (oK : Obj) (D : Addr) (oD : Obj) (rest : Value → List (Addr × Obj) → Prop) (y : Value) (s₂ : Shared) : Prop :=
  ∃ h' tk nx, s₂ = { s₁ with heap := h', toks := tk } ∧ Fr h₀ L h' m ∧ News h₀ L h' ((I, oI) :: (C, oC) :: (K, oK) :: (D, oD) :: nx) ∧ Off4 I C K D nx ∧ rest y nx
theorem CellEnd.intro {h₀ : Heap} {L I C K D : Addr} {m : Str → Option Value} {s₁ : Shared} {oI oC oK oD : Obj} {rest : Value → List (Addr × Obj) → Prop} {y : Value} {h' : Heap} {tk : Nat} {all : List (Addr × Obj)} (F : Fr h₀ L h' m) (N : News h₀ L h' all) (nx : List (Addr × Obj))
    (sub : ∀ p ∈ (I, oI) :: (C, oC) :: (K, oK) :: (D, oD) :: nx, p ∈ all) (off : Off4 I C K D nx) (r : rest y nx) : CellEnd h₀ L m s₁ I oI C oC K oK D oD rest y { s₁ with heap := h', toks := tk } := ⟨h', tk, nx, rfl, F, fun p hp => N p (sub p hp), off, r⟩
theorem cell_loop {prog : Program} {w : World} {A : Around} {h₀ : Heap} {L : Addr} {m : Str → Option Value} {env : Env} {elt iter : Expr} {x : Str} {px : Pos} {scope : Scope} {cl : List (Str × Addr)} {pos : Pos} {s₂ : Shared} {I C K D ax : Addr} {vs : List Value} {kk : Nat} {oI oC oK : Obj} {m₁ : Str → Option Value} {v₁ : Option Value} {news : List (Addr × Obj)} {R : Result → Shared → Prop}
    (J : Nat → List Value → List (Addr × Obj) → Prop) (hh : A.handled = none) (hkind : scope.kind = .function) (hxr : (relabel scope env).names.lookup x = some .cell) (hsz : vs.length ≤ sizeLine)
    (hJ : ∀ i ys nx, J i ys nx → (ax, listOf vs.toArray kk) ∈ nx) (hj : J 0 [] news) (st : s₂.heap.IsListIter I ax 0) (hIax : @Ne Nat I ax)
    (F : Fr h₀ L s₂.heap m) (N : News h₀ L s₂.heap ((I, oI) :: (C, oC) :: (K, oK) :: (D, lst []) :: news)) (hC : NsObj oC m₁) (hK : oK.data = .cell v₁) (off : Off4 I C K D news)
    (d1 : @Ne Nat I C) (d2 : @Ne Nat I K) (d3 : @Ne Nat I D) (d4 : @Ne Nat C K) (d5 : @Ne Nat C D) (d6 : @Ne Nat K D)
    (turn : ∀ i v ys nx oI oC oK m₂ h tk (E' : Value → Shared → Prop), vs[i]? = some v → J i ys nx → NsObj oC m₂ → oK.data = .cell (some v) → Fr h₀ L h m → News h₀ L h ((I, oI) :: (C, oC) :: (K, oK) :: (D, lst ys) :: nx) → Off4 I C K D nx →
      wpAny (model prog w) A (eval elt (compEnvC scope ((x, K) :: cl) C env)) (CellEnd h₀ L m { s₂ with heap := h, toks := tk } I oI C oC K oK D (lst ys) (fun y nx' => J (i + 1) (ys ++ [y]) nx')) E' { s₂ with heap := h, toks := tk })
    (fin : ∀ ys nx oC m₂ h tk, J vs.length ys nx → NsObj oC m₂ → Fr h₀ L h m → News h₀ L h ((C, oC) :: (D, lst ys) :: nx) → Off4 I C K D nx → R (.ok .next) { s₂ with heap := h, toks := tk }) :
    codeAny (model prog w) A (.compLoop (.ListComp elt [⟨.Name x px, iter, [], 0⟩] scope pos) 0 (.ref I) (.ref D) (compEnvC scope ((x, K) :: cl) C env)) R s₂ := by
  have W := Walks.list (prog := prog) (w := w) hh I ax (Ne.symm hIax) vs.toArray
  have hn : vs.toArray.size = vs.length := by simp
  rw [hn] at W
  have src : ∀ {h : Heap} {i : Nat} {ys : List Value} {nx rest : List (Addr × Obj)}, J i ys nx → News h₀ L h (rest ++ nx) → h.IsList ax vs.toArray := fun hJ' N' => ⟨_, (N' _ (List.mem_append_right _ (hJ _ _ _ hJ'))).1, rfl, kk, rfl⟩
  refine codeAny_compLoop_tests
    (fun k s' => ∃ h' tk i ys nx oI oC oK m' v', s' = { s₂ with heap := h', toks := tk } ∧ i ≤ vs.length ∧ k = vs.length + 1 - i ∧ ys.length = i ∧ h'.IsListIter I ax i ∧ Fr h₀ L h' m ∧ News h₀ L h' ((I, oI) :: (C, oC) :: (K, oK) :: (D, lst ys) :: nx) ∧ NsObj oC m' ∧ oK.data = .cell v' ∧ Off4 I C K D nx ∧ J i ys nx) ?_ (vs.length + 1)
    ⟨s₂.heap, s₂.toks, 0, [], news, oI, oC, oK, m₁, v₁, rfl, Nat.zero_le _, rfl, rfl, st, F, N, hC, hK, off, hj⟩
  rintro k s' ⟨h', tk, i, ys, nx, oI, oC, oK, m', v', rfl, hi, rfl, hyl, st', F', N', hC', hK', off', hJ'⟩
  have hl' : h'.IsList ax vs.toArray := src (rest := [(I, oI), (C, oC), (K, oK), (D, lst ys)]) hJ' N'
  have nI := N' (I, oI) (by simp)
  have nC := N' (C, oC) (by simp)
  have nK := N' (K, oK) (by simp)
  have nD := N' (D, lst ys) (by simp)
  by_cases hlt : i < vs.length
  · refine W.item i _ _ _ hlt ⟨st', hl'⟩ fun v h₂ tk₂ hPv hst₂ hk₂ => ?_
    have hPv' : vs[i]? = some v := by simpa using hPv
    have keep2 : ∀ b o, b ≠ I → h'.get? b = some o → h₂.get? b = some o := fun b o hb e => hk₂ b o (by simpa using hb) e
    have e2C : h₂.get? C = some oC := keep2 _ _ (Ne.symm d1) nC.1
    have e2K : h₂.get? K = some oK := keep2 _ _ (Ne.symm d2) nK.1
    have e2D : h₂.get? D = some (lst ys) := keep2 _ _ (Ne.symm d3) nD.1
    have e2n : ∀ p ∈ nx, h₂.get? p.1 = some p.2 := fun p hp => keep2 _ _ (off' p hp).1 (N' p (by simp [hp])).1
    have F2 : Fr h₀ L h₂ m := ⟨F'.ns.at' fun o e => keep2 _ _ (Ne.symm nI.2.1) e, fun b o e => keep2 _ _ (fun q => by rw [q, nI.2.2] at e; cases e) (F'.keep b o e), F'.above⟩
    refine wpAny_assign_Name (wpAny_storeName_cell (c := K) (by simp [compEnvC, relabel, hkind]) hxr (by simp [compEnvC]) ⟨oK, e2K, hK'⟩ fun h₃ hc₃ hs₃ => ?_)
    obtain ⟨oK₃, e3K, hK₃⟩ := hc₃
    have keep3 : ∀ b o, b ≠ K → h₂.get? b = some o → h₃.get? b = some o := fun b o hb e => hs₃.extBut b o hb e
    have e3I : ∃ oI₃, h₃.get? I = some oI₃ := by
      obtain ⟨o, e, _⟩ := hst₂.1
      exact ⟨o, keep3 _ _ d2 e⟩
    obtain ⟨oI₃, e3I⟩ := e3I
    have st3 : h₃.IsListIter I ax (i + 1) := by
      obtain ⟨o, e, r⟩ := hst₂.1
      exact ⟨o, keep3 _ _ d2 e, r⟩
    have F3 : Fr h₀ L h₃ m := F2.change hs₃ nK.2.1 nK.2.2
    have N3 : News h₀ L h₃ ((I, oI₃) :: (C, oC) :: (K, oK₃) :: (D, lst ys) :: nx) := fun p hp => by
      rcases List.mem_cons.mp hp with rfl | hp
      · exact ⟨e3I, nI.2⟩
      · rcases List.mem_cons.mp hp with rfl | hp
        · exact ⟨keep3 _ _ d4 e2C, nC.2⟩
        · rcases List.mem_cons.mp hp with rfl | hp
          · exact ⟨e3K, nK.2⟩
          · rcases List.mem_cons.mp hp with rfl | hp
            · exact ⟨keep3 _ _ (Ne.symm d6) e2D, nD.2⟩
            · exact ⟨keep3 _ _ (off' p hp).2.2.1 (e2n p hp), (N' p (by simp [hp])).2⟩
    refine wpAny_tests_nil ?_
    simp only [if_true]
    refine wpAny_mono (turn i v ys nx oI₃ oC oK₃ m' h₃ _ _ hPv' hJ' hC' hK₃ F3 N3 off') (fun y s₄ h₄ => ?_) fun _ _ e => e
    obtain ⟨h₄, tk₄, nx₄, rfl, F₄, N₄, off₄, J₄⟩ := h₄
    have z1 := N₄ (I, oI₃) (by simp)
    have z2 := N₄ (C, oC) (by simp)
    have z3 := N₄ (K, oK₃) (by simp)
    have z4 := N₄ (D, lst ys) (by simp)
    have st4 : h₄.IsListIter I ax (i + 1) := by
      obtain ⟨o, e, r⟩ := st3
      rw [e3I] at e; cases e
      exact ⟨_, z1.1, r⟩
    refine append_at (hsz := by show ys.toArray.size ≤ sizeLine; rw [List.size_toArray, hyl]; exact Nat.le_trans hi hsz) z4.1 fun h₅ hs₅ hD₅ => ?_
    have keep5 : ∀ b o, b ≠ D → h₄.get? b = some o → h₅.get? b = some o := fun b o hb e => hs₅.extBut b o hb e
    refine ⟨vs.length + 1 - (i + 1), by omega, h₅, tk₄, i + 1, ys ++ [y], nx₄, oI₃, oC, oK₃, m', _, rfl, hlt, rfl, by rw [List.length_append, List.length_singleton, hyl], ?_, F₄.change hs₅ z4.2.1 z4.2.2, fun p hp => ?_, hC', hK₃, off₄, J₄⟩
    · obtain ⟨o, e, r⟩ := st4
      exact ⟨o, keep5 _ _ d3 e, r⟩
    · rcases List.mem_cons.mp hp with rfl | hp
      · exact ⟨keep5 _ _ d3 z1.1, z1.2⟩
      · rcases List.mem_cons.mp hp with rfl | hp
        · exact ⟨keep5 _ _ d5 z2.1, z2.2⟩
        · rcases List.mem_cons.mp hp with rfl | hp
          · exact ⟨keep5 _ _ d6 z3.1, z3.2⟩
          · rcases List.mem_cons.mp hp with rfl | hp
            · exact ⟨hD₅.trans (congrArg some (lst_snoc ys y)), z4.2⟩
            · exact ⟨keep5 _ _ (off₄ p hp).2.2.2 (N₄ p (by simp [hp])).1, (N₄ p (by simp [hp])).2⟩
  · obtain rfl : i = vs.length := Nat.le_antisymm hi (Nat.not_lt.mp hlt)
    refine W.done _ _ _ ⟨st', hl'⟩ fun h₂ tk₂ hk₂ => ?_
    have keep2 : ∀ b o, b ≠ I → h'.get? b = some o → h₂.get? b = some o := fun b o hb e => hk₂ b o (by simpa using hb) e
    refine fin ys nx oC m' h₂ tk₂ hJ' hC' ⟨F'.ns.at' fun o e => keep2 _ _ (Ne.symm nI.2.1) e, fun b o e => keep2 _ _ (fun q => by rw [q, nI.2.2] at e; cases e) (F'.keep b o e), F'.above⟩ (fun p hp => ?_) off'
    rcases List.mem_cons.mp hp with rfl | hp
    · exact ⟨keep2 _ _ (Ne.symm d1) nC.1, nC.2⟩
    · rcases List.mem_cons.mp hp with rfl | hp
      · exact ⟨keep2 _ _ (Ne.symm d3) nD.1, nD.2⟩
      · exact ⟨keep2 _ _ (off' p hp).1 (N' p (by simp [hp])).1, (N' p (by simp [hp])).2⟩
/-- a comprehension over a list whose variable is a cell -/
theorem ListComp_cell {prog : Program} {w : World} {A : Around} {E : Value → Shared → Prop} {s : Shared} {h₀ : Heap} {L : Addr} {m : Str → Option Value} {env : Env} {elt iter : Expr} {x : Str} {px : Pos} {scope : Scope} {cl : List (Str × Addr)} {pos : Pos} {a0 a2 : Str × NameKind} {Q : Value → Shared → Prop}
    (F₀ : Fr h₀ L s.heap m) (hnm : scope.names = [a0, (x, .cell), a2]) (h0 : a0.2 ≠ .cell) (h2 : a2.2 ≠ .cell) (hclos : closureFor scope env = pure cl) (hkind : scope.kind = .function)
    (hnames : ∀ y ∈ scope.names, y.2 = .local → scope.names.lookup y.1 = some .local) (hxr : (relabel scope env).names.lookup x = some .cell)
    (h : wpAny (model prog w) A (eval iter env) (fun xv s₁ => ∃ (ax : Addr) (vs : List Value) (kk : Nat) (news : List (Addr × Obj)), xv = .ref ax ∧ A.handled = none ∧ Fr h₀ L s₁.heap m ∧ News h₀ L s₁.heap news ∧ (ax, listOf vs.toArray kk) ∈ news ∧ vs.length ≤ sizeLine ∧
      ∃ J : Nat → List Value → List (Addr × Obj) → Prop, (∀ i ys nx, J i ys nx → (ax, listOf vs.toArray kk) ∈ nx) ∧ J 0 [] news ∧
        (∀ (I C K D : Nat) i v ys nx oI oC oK m₂ h tk (E' : Value → Shared → Prop), vs[i]? = some v → J i ys nx → NsObj oC m₂ → oK.data = .cell (some v) → Fr h₀ L h m → News h₀ L h ((I, oI) :: (C, oC) :: (K, oK) :: (D, lst ys) :: nx) → Off4 I C K D nx →
          wpAny (model prog w) A (eval elt (compEnvC scope ((x, K) :: cl) C env)) (CellEnd h₀ L m { s₁ with heap := h, toks := tk } I oI C oC K oK D (lst ys) (fun y nx' => J (i + 1) (ys ++ [y]) nx')) E' { s₁ with heap := h, toks := tk }) ∧
        (∀ D ys nx h tk, J vs.length ys nx → Fr h₀ L h m → News h₀ L h ((D, lst ys) :: nx) → (∀ p ∈ nx, @Ne Nat p.1 D) → Q (.ref D) { s₁ with heap := h, toks := tk })) E s)
    (hs : ∀ x, foldedSetIterable iter env x = pure x := by intro _; rfl) :
    wpAny (model prog w) A (eval (.ListComp elt [⟨.Name x px, iter, [], 0⟩] scope pos) env) Q E s := by
  rw [eval_ListComp]
  refine wpAny_comprehension_free (use := none) rfl hs hclos hkind hnames (wpAny_mono h (fun xv s₁ h₁ => ?_) fun _ _ e => e)
  obtain ⟨ax, vs, kk, news, rfl, hh, F, N, hm, hsz, J, hJ, hj, turn, fin⟩ := h₁
  have hol : s₁.heap.get? ax = some (listOf vs.toArray kk) := (N _ hm).1
  have hls : s₁.heap.IsList ax vs.toArray := ⟨_, hol, rfl, kk, rfl⟩
  have hlt : @LT.lt Nat _ ax s₁.heap.objs.size := Heap.lt_size hol
  refine wpAny_pyIter_list hls ?_
  refine wpAny_newObj_type (newEnv_cell hnm h0 h2 ?_)
  -- the four objects of the comprehension
  have fresh₀ : ∀ a, s₁.heap.objs.size ≤ a → h₀.get? a = none := fun a ha => by
    cases e : h₀.get? a with
    | none => rfl
    | some o' => exact absurd (Heap.lt_size (F.keep a o' e)) (Nat.not_lt.mpr ha)
  have hL : @LT.lt Nat _ L s₁.heap.objs.size := F.ns.lt
  generalize h1 : s₁.heap.push { cls := .type "list_iterator", data := .fields #[.ref ax, .int 0 0] } = H1
  have s1 : H1.objs.size = s₁.heap.objs.size + 1 := by rw [← h1, Heap.size_push]
  have e1 : H1.get? s₁.heap.objs.size = some { cls := .type "list_iterator", data := .fields #[.ref ax, .int 0 0] } := by rw [← h1]; exact Heap.get?_push_size _ rfl
  have k1 : ∀ b o, s₁.heap.get? b = some o → H1.get? b = some o := fun b o e => by rw [← h1]; exact Heap.get?_push_of_some _ e
  dsimp only
  generalize h2 : H1.push { cls := .type "list", data := .seq ([] : List Value).toArray } = H2
  have s2 : H2.objs.size = s₁.heap.objs.size + 2 := by rw [← h2, Heap.size_push, s1]
  have e2 : H2.get? H1.objs.size = some (lst []) := by rw [← h2]; exact Heap.get?_push_size _ rfl
  have k2 : ∀ b o, H1.get? b = some o → H2.get? b = some o := fun b o e => by rw [← h2]; exact Heap.get?_push_of_some _ e
  generalize h3 : H2.push { cls := .type "dict", data := .dict #[] } = H3
  have s3 : H3.objs.size = H2.objs.size + 1 := by rw [← h3, Heap.size_push]
  have e3 : H3.get? H2.objs.size = some { cls := .type "dict", data := .dict #[] } := by rw [← h3]; exact Heap.get?_push_size _ rfl
  have k3 : ∀ b o, H2.get? b = some o → H3.get? b = some o := fun b o e => by rw [← h3]; exact Heap.get?_push_of_some _ e
  generalize h4 : H3.push { cls := .type "cell", data := .cell none } = H4
  have e4 : H4.get? (H2.objs.size + 1) = some { cls := .type "cell", data := .cell none } := by rw [← h4, ← s3]; exact Heap.get?_push_size _ rfl
  have k4 : ∀ b o, H3.get? b = some o → H4.get? b = some o := fun b o e => by rw [← h4]; exact Heap.get?_push_of_some _ e
  have up : ∀ b o, s₁.heap.get? b = some o → H4.get? b = some o := fun b o e => k4 _ _ (k3 _ _ (k2 _ _ (k1 _ _ e)))
  have F4 : Fr h₀ L H4 m := F.keeps up
  have old : ∀ p ∈ news, @LT.lt Nat _ p.1 s₁.heap.objs.size := fun p hp => Heap.lt_size (N p hp).1
  have N4 : News h₀ L H4 ((s₁.heap.objs.size, { cls := .type "list_iterator", data := .fields #[.ref ax, .int 0 0] }) :: (H2.objs.size, { cls := .type "dict", data := .dict #[] }) :: (H2.objs.size + 1, { cls := .type "cell", data := .cell none }) :: (H1.objs.size, lst []) :: news) := fun p hp => by
    rcases List.mem_cons.mp hp with rfl | hp
    · exact ⟨k4 _ _ (k3 _ _ (k2 _ _ e1)), Nat.ne_of_gt hL, fresh₀ _ (Nat.le_refl _)⟩
    · rcases List.mem_cons.mp hp with rfl | hp
      · exact ⟨k4 _ _ e3, Nat.ne_of_gt (by show @LT.lt Nat _ L H2.objs.size; omega), fresh₀ _ (by show @LE.le Nat _ _ H2.objs.size; omega)⟩
      · rcases List.mem_cons.mp hp with rfl | hp
        · exact ⟨e4, Nat.ne_of_gt (by show @LT.lt Nat _ L (H2.objs.size + 1); omega), fresh₀ _ (by show @LE.le Nat _ _ (H2.objs.size + 1); omega)⟩
        · rcases List.mem_cons.mp hp with rfl | hp
          · exact ⟨k4 _ _ (k3 _ _ e2), Nat.ne_of_gt (by show @LT.lt Nat _ L H1.objs.size; omega), fresh₀ _ (by show @LE.le Nat _ _ H1.objs.size; omega)⟩
          · exact ⟨up _ _ (N p hp).1, (N p hp).2⟩
  have ob : Off4 s₁.heap.objs.size H2.objs.size (H2.objs.size + 1) H1.objs.size news := fun p hp => by
    have := old p hp
    refine ⟨?_, ?_, ?_, ?_⟩ <;> omega
  have loop : codeAny (model prog w) A (.compLoop (.ListComp elt [⟨.Name x px, iter, [], 0⟩] scope pos) 0 (.ref s₁.heap.objs.size) (.ref H1.objs.size) (compEnvC scope ((x, H2.objs.size + 1) :: cl) H2.objs.size env))
      (compPost (model prog w) A E none Q (.ref H1.objs.size) H2.objs.size) { s₁ with heap := H4 } := by
    refine cell_loop (vs := vs) (kk := kk) (m₁ := fun _ => none) (v₁ := none) J hh hkind hxr hsz hJ hj ⟨_, k4 _ _ (k3 _ _ (k2 _ _ e1)), rfl, rfl⟩ (by show @Ne Nat s₁.heap.objs.size ax; omega) F4 N4 ⟨#[], 0, rfl, fun e he => by simp at he, fun _ => rfl⟩ rfl ob (by omega) (by omega) (by omega) (by omega) (by omega) (by omega)
      (fun i v ys nx oI oC oK m₂ h tk E' => turn s₁.heap.objs.size H2.objs.size (H2.objs.size + 1) H1.objs.size i v ys nx oI oC oK m₂ h tk E') ?_
    intro ys nx oC m₂ h tk hJ' hC' F' N' off'
    have zC := N' (H2.objs.size, oC) (by simp)
    refine ⟨m₂, hC'.ns zC.1, fun h'' hs'' => fin H1.objs.size ys nx h'' tk hJ' (F'.change hs'' zC.2.1 zC.2.2) (fun p hp => ?_) (fun p hp => (off' p hp).2.2.2)⟩
    have z := N' p (by
      rcases List.mem_cons.mp hp with rfl | hp
      · simp
      · simp [hp])
    refine ⟨hs''.extBut _ _ ?_ z.1, z.2⟩
    rcases List.mem_cons.mp hp with rfl | hp
    · show (@Ne Nat H1.objs.size H2.objs.size); omega
    · exact (off' p hp).2.1
  have hls4 : H4.IsList ax vs.toArray := ⟨_, up _ _ hol, rfl, kk, rfl⟩
  exact codeAny_compStart_list loop ((Walks.list (prog := prog) (w := w) hh s₁.heap.objs.size ax (by show @Ne Nat ax s₁.heap.objs.size; omega) vs.toArray).self 0 _ _ _ ⟨⟨_, k4 _ _ (k3 _ _ (k2 _ _ e1)), rfl, rfl⟩, hls4⟩ loop)
end
end PartCompCell
section PartFiled
set_option rowWalk.seconds 0
section
local macro_rules | `(tactic| walk_at "subscriptTail List cons BinOp ref int") => `(tactic| (k_dflt (refine kba_turn (value' := PySem.Expr.Name (PySem.Str.ofString "_") ⟨0, 0, 0, 0⟩) (fun _ => rfl) ?_)))
local macro_rules | `(tactic| walk_at "subscriptTail Call Attribute cons nil Slice ref ref") => `(tactic| (k_dflt (refine kba_turn (value' := PySem.Expr.Name (PySem.Str.ofString "_") ⟨0, 0, 0, 0⟩) (fun _ => rfl) ?_)))
local macro_rules | `(tactic| walk_at "binaryOp Mod int int") => `(tactic| first | refine mod15 ?_ | refine mod3 ?_)
local macro_rules | `(tactic| walk_at "binaryOp FloorDiv int int") => `(tactic| refine div15 ?_)

theorem filed (vs : List Value) (ns : List Int) (kk : Nat) (hvs : IntsAre vs ns) (h5 : ns.length = 5) (l : Nat) (own news TN : List (Addr × Obj)) (hT : TabOn TN news) (ho : ∀ q ∈ (l, listOf vs.toArray kk) :: own, ∀ p ∈ TN, p.1 ≠ q.1) (hn : ∀ p ∈ news, p.1 ≠ 40) :
    Ctr 233 20 400 [.ref l] ((l, listOf vs.toArray kk) :: (own ++ TN)) (retFiled vs ns kk l own news) := by
  intro w p loose mean mg mb dp un gd cnF cs aF ccd clF outer A₀ base h₀ L m s Q E B F X N T hk hdp hun hret
  k_with_none
  refine wpAny_call ?_
  k_dflt (refine' code_defC ?k1 ?k2 ?k3 ?k4 ?k5 ?kA ?kF ?kK ?k6 ?k7 ?k8 ?k9 ?kB ?kD ?_ ?c2 ?c3 ?c4; (case kA => exact rfl); (case kF => exact rfl); (case kK => first | exact rfl | assumption); (case k1 => k_asm); (case k2 => k_asm); (case k3 => k_asm); (case k4 => k_asm); (case k5 => k_asm); (case k6 => k_is); (case k7 => k_is); (case k8 => ktr_room); (case k9 => first | exact BindsTo.of_eq rfl | exact binds_K (by k_in) rfl (by k_is) rfl rfl rfl); (case kB => exact rfl); (case kD => decide +kernel); (case c2 => exact rfl); (case c3 => exact rfl); (case c4 => exact rfl); k_whole; intro g' L' h' tk' cells' FG' F' N' Y' B' X' T' l1; (try k_lt l1); k_cells Y'; (try simp only [List.cons_append, List.nil_append] at N'); (try dsimp only); (try k_lift B'); (try k_fold))
  k_with "for!" => ((rename Fr _ _ _ _ => lF'); (with_unfolding_all refine' For_invVF lF' ?k1 ?k2 ?_; (case k1 => exact rfl); (case k2 => exact rfl); k_whole))
  iterate 9 (first | (k_unfold; (try dsimp only)) | walk1 | (dsimp only; walk1))
  k_dflt (refine' loop1 [Str.ofString "x", Str.ofString "signs"] (ns := ns) (by assumption) ?hh ?F ?N hT ?hoo ?hr ?turn ?done; (case hr => assumption); (case hh => rfl); (case F => k_asm); (case N => k_asm))
  case hoo => exact hoo_of (by assumption) (by assumption) ho
  case turn =>
    intro I it i x t U its k TN1 h tk hx hi hs hsz hT1 hoo rI cI lI oI clr ro F1 N1
    (try k_fold)
    k_with_none
    k_with "call ref!" => ((with_reducible show wpAny _ _ (call (Value.ref _) [Value.int _ _, Value.int 1 _]) _ _ _); k_dflt (refine' Ctr.use ?k1 ?k2 ?k3 ?k4 ?k5 ?kK (dig (x % 15 + 1) rule_ok ((I, it) :: (_, listOf its k) :: (_, _) :: (l, listOf vs.toArray kk) :: own) news TN1 hT1 ?ho hn _ _) ?kd ?ku ?_; (case k1 => k_asm); (case k2 => k_asm); (case k3 => k_asm); (case k4 => k_asm); (case k5 => k_asm); (case kK => first | exact rfl | assumption); (case ho => exact hoo); (case kd => ktr_room); (case ku => ktr_units)); intro D9 vs9 TN2 h9 tk9 I9 T9 O9 l9 n9 F9 N9; (try simp only [List.cons_append] at N9); (try dsimp only); (try k_fold))
    k_with "lc!" => (k_dflt (refine' LCg.ListComp_U (F₀ := by k_asm) ?l1 ?l2 ?l3 ?l4 ?l5 ?l6; (case l1 => with_unfolding_all rfl); (case l2 => decide); (case l3 => rfl); (case l4 => decide); (case l5 => rfl)))
    iterate 23 (first | (k_unfold; (try dsimp only)) | walk1 | (dsimp only; walk1))
    ((with_reducible show wpAny _ _ (call (Value.ref _) [Value.int _ _, Value.int 1 _]) _ _ _); k_dflt (refine' Ctr.use ?k1 ?k2 ?k3 ?k4 ?k5 ?kK (dig (x % 15 + 1) rule_ok ((I, it) :: (_, listOf its k) :: (_, _) :: (l, listOf vs.toArray kk) :: own) news TN1 hT1 ?ho hn _ _) ?kd ?ku ?_; (case k1 => k_asm); (case k2 => k_asm); (case k3 => k_asm); (case k4 => k_asm); (case k5 => k_asm); (case kK => first | exact rfl | assumption); (case ho => exact hoo); (case kd => ktr_room); (case ku => ktr_units)); intro D9 vs9 TN2 h9 tk9 I9 T9 O9 l9 n9 F9 N9; (try simp only [List.cons_append] at N9); (try dsimp only); (try k_fold))
    have a1 := four_lt l9
    have a2 := off_own O9 ro
    k_with_none
    k_with "bit!" => (k_dflt (refine' bit_item ?hb ?_ ?hs ?ht; (case hb => assumption); (case hs => with_unfolding_all rfl); (case ht => (intro _; with_unfolding_all rfl))); intro t9)
    k_with "end!" => (k_dflt (refine' end_item (x := x) rfl ?N ?hm ?_ ?hs ?ht; (case N => k_asm); (case hm => k_mem); (case hs => with_unfolding_all rfl); (case ht => (intro _; with_unfolding_all rfl))); intro t9)
    k_with "join!" => (k_dflt (refine' join_tx ?e ?N ?hm ?hy ?hz ?_; (case N => k_asm); (case hm => k_mem); (case hy => assumption); (case hz => exact signs_sum rule_ok); (case e => exact flat_ones _)); intro t9 k9; (try k_fold))
    k_with "adds!" => (k_dflt (refine' add_tx ?hz ?_; (case hz => exact row_small x)); intro t9 k9; (try k_fold))
    k_dflt (refine' LCg.CompSrc.ledger rfl ?k1 ?k2 ?k3 ?hsz ?_; (case k1 => k_asm); (case k2 => k_asm); (case k3 => k_mem); (case hsz => exact bits_fit I9 rule_ok))
    intro g9
    refine comp_signs I9 (fun b => bit_is) ?_ ?_
    · intro b t ys I2 oI2 C2 oC2 D2 m₂ h tk E' hb hC hx F2 N2 off ne
      k_steps
      exact LCg.CompEnd.intro (by k_asm) (by assumption) _ (by intro p hp; exact hp) off (.inr ⟨_, .head _, rfl, 0, rfl⟩) ⟨rfl, _, rfl⟩
    · intro ys hy
      (try dsimp only)
      intro D3 h3 tk3 F3 N3 O3
      (try dsimp only)
      simp only [LCg.Off1] at O3
      k_steps
      exact LEnd.intro (by k_asm) (by assumption) ((_, listOf (its.push _) _) :: (_, _) :: (l, listOf vs.toArray kk) :: (own ++ TN2)) (by kcj_all) (off_I O9 rI cI lI oI) ⟨by intro y hy; obtain ⟨y1, y2⟩ := off_two hy; simp only [y1, y2, ovl, hy, Bool.false_eq_true, if_false], _, _, TN2, rfl, rows_next hs hx, T9, fun q hq => O9' O9 q hq⟩
  case done =>
    intro U its k TN1 h tk hS hT1 ho1 F1 N1
    (try k_fold)
    have hS' := rows_map hS
    have b1 := own_c l1 ho1
    k_with_none
    k_with "call ref!" => ((try dsimp only [List.nil_append]); first | ((with_reducible show wpAny _ _ (call (Value.ref _) []) _ _ _); k_dflt (refine' Ctr.use ?k1 ?k2 ?k3 ?k4 ?k5 ?kK (hdr_new _) ?kd ?ku ?_; (case k1 => k_asm); (case k2 => k_asm); (case k3 => k_asm); (case k4 => k_asm); (case k5 => k_asm); (case kK => first | exact rfl | assumption); (case kd => ktr_room); (case ku => ktr_units)); intro xh dh lh tkh h9 tk9 F9 N9 l9 l8 l7; (try k_lt l9); (try dsimp only); (try k_fold)) | ((with_reducible show wpAny _ _ (call (Value.ref _) [Value.str _ _]) _ _ _); k_dflt (refine' Ctr.use ?k1 ?k2 ?k3 ?k4 ?k5 ?kK (quote5 ns h5 _ _) ?kd ?ku ?_; (case k1 => k_asm); (case k2 => k_asm); (case k3 => k_asm); (case k4 => k_asm); (case k5 => k_asm); (case kK => first | exact rfl | assumption); (case kd => ktr_room); (case ku => ktr_units)); intro t9 h9 tk9 F9 N9; (try dsimp only); (try k_fold)))
    k_with "join!" => (k_dflt (refine' join_tx ?e ?N ?hm ?hy ?hz ?_; (case N => k_asm); (case hm => k_mem); (case hy => assumption); (case hz => exact rows_sum h5); (case e => rfl)); intro t9 k9; (try k_fold))
    k_with "for!" => ((rename Fr _ _ _ _ => lF'); (with_unfolding_all refine' For_invVF lF' ?k1 ?k2 ?_; (case k1 => exact rfl); (case k2 => exact rfl); k_whole))
    k_with "split!" => ((try dsimp only [List.cons_append, List.nil_append]); k_dflt (refine' split_tx ?F ?N ?hb ?h1 ?hz ?_; (case F => k_asm); (case N => k_asm); (case hb => exact outs_ok ns); (case h1 => exact outs_ne h5); (case hz => exact outs_len h5)); intro Ds yss h9 k9 hys F9 N9 l9; (try k_lt l9))
    k_with "slice!" => (k_dflt (refine' slice_last ?F ?N ?hm hys ?hz ?_ ?hs ?ht; (case F => k_asm); (case N => k_asm); (case hm => k_mem); (case hz => (simp; omega)); (case hs => with_unfolding_all rfl); (case ht => (intro _; with_unfolding_all rfl))); intro Dz zs h9 F9 N9 l9 hzs; (try k_lt l9))
    iterate 44 (first | (k_unfold; (try dsimp only)) | walk1 | (dsimp only; walk1))
    k_dflt (refine' loop2 (ns := ns) (z := Dz) [Str.ofString "row"] hzs ?hh ?F ?hzb (perm2 ?N) ?hbl ?hdx ?hxl ?turn ?done; (case hh => rfl); (case F => k_asm); (case N => k_asm); (case hzb => exact .head _); (case hdx => assumption); (case hxl => assumption))
    case hbl =>
      repeat' (first | (refine List.forall_mem_cons.mpr ⟨?_, ?_⟩; (show @Ne Nat _ _; dsimp only; omega)))
      exact fun p hp => Nat.ne_of_lt (Nat.lt_trans (lt4 (by assumption) p hp) (by omega))
    case turn =>
      intro I it i x t U2 its2 k2 nw h tk hx hi hT2 hsz2 hol hlI hoI F1 N1
      simp only [List.cons_append] at N1
      (try k_fold)
      obtain ⟨K, hK, hK5, hKl⟩ := out_k x
      k_with_none
      k_with "call ref!" => ((try dsimp only [List.nil_append, List.cons_append]); ((with_reducible show wpAny _ _ (call (Value.ref _) [Value.ref _, Value.str _ _, Value.str _ _]) _ _ _); k_dflt (refine' Ctr.use ?k1 ?k2 ?k3 ?k4 ?k5 ?kK (hdr_add w _ xh dh lh tkh its2 k2 K (tx (out x)) _ _ ?hdx ?hxl ?hn ?hz hK5 ?hv1 ?hv2) ?kd ?ku ?_; (case k1 => k_asm); (case k2 => k_asm); (case k3 => k_asm); (case k4 => exact perm3 (by k_asm)); (case k5 => k_asm); (case kK => first | exact rfl | assumption); (case hdx => assumption); (case hxl => assumption); (case hn => exact hn_of hlI hol); (case hz => (rw [hsz2]; omega)); (case hv1 => (rw [tx_len]; omega)); (case hv2 => exact tx_chars x); (case kd => ktr_room); (case ku => ktr_units)); intro tp t1 t2 h9 tk9 F9 N9 l9 l8; (try dsimp only); (try k_fold)))
      k_with "len!" => (k_dflt (refine' len_tx hKl hK5 ?_); intro t9 k9; (try k_fold))
      k_with "str!" => (k_dflt (refine' str_dig hK5 ?_); intro t9 k9; (try k_fold))
      k_steps
      refine end2 ?znm (by k_asm) (by assumption) hT2 hx hK hK5 hsz2 hol hoI hlI (by assumption) (by assumption) (by assumption) (by assumption)
      intro y hy
      have y1 := off_one hy
      simp only [y1, ovl, hy, Bool.false_eq_true, if_false]
    case done =>
      intro U3 its3 k3 nw h tk hT3 hsz3 F1 N1
      simp only [List.cons_append] at N1
      (try k_fold)
      k_with_none
      k_with "lc!" => (k_dflt (refine' LCg.ListComp_U (F₀ := by k_asm) ?l1 ?l2 ?l3 ?l4 ?l5 ?l6; (case l1 => with_unfolding_all rfl); (case l2 => decide); (case l3 => rfl); (case l4 => decide); (case l5 => rfl)))
      iterate 2 (first | (k_unfold; (try dsimp only)) | walk1 | (dsimp only; walk1))
      k_dflt (refine' LCg.ListComp_U (F₀ := by k_asm) ?zl1 ?zl2 ?zl3 ?zl4 ?zl5 ?zl6; (case zl1 => with_unfolding_all rfl); (case zl2 => decide); (case zl3 => rfl); (case zl4 => decide); (case zl5 => rfl))
      iterate 7 (first | (k_unfold; (try dsimp only)) | walk1 | (dsimp only; walk1))
      k_dflt (refine' LCg.CompSrc.range (n := 5) rfl ?yF ?yN ?yr ?ys ?yn ?yz ?_; (case yF => k_asm); (case yN => k_asm); (case yr => assumption); (case ys => decide); (case yn => decide); (case yz => decide))
      intro g9
      refine compJ (CJ ns _) ⟨[], (List.append_nil _).symm, ⟨rfl, fun j hj => by omega⟩, fun q hq => by cases hq⟩ ?_ ?_
      · rintro i v ys nx I oI C oC D m₂ h tk E' hi ⟨tv, rfl⟩ ⟨gs, rfl, hfo, hgo⟩ hC hx F2 N2 off ne
        simp only [List.cons_append] at N2 off
        (try k_fold)
        k_with_none
        k_with "str!" => (k_dflt (refine' str_dig0 hi ?_); intro t9 k9; (try k_fold))
        k_with "call ref!" => ((try dsimp only [List.nil_append, List.cons_append]); ((with_reducible show wpAny _ _ (call (Value.ref _) [Value.ref _, Value.str _ _]) _ _ _); k_dflt (refine' Ctr.use ?k1 ?k2 ?k3 ?k4 ?k5 ?kK (hdr_get w _ xh dh lh tkh its3.toList k3 i _ hi (fileOf ns) ?ht ?hz) ?kd ?ku ?_; (case k1 => k_asm); (case k2 => k_asm); (case k3 => k_asm); (case k4 => exact perm4 (by k_asm)); (case k5 => k_asm); (case kK => first | exact rfl | assumption); (case ht => exact TupRows.grow hT3 (by intro p hp; simp [hp])); (case hz => (rw [Array.length_toList, hsz3]; omega)); (case kd => ktr_room); (case ku => ktr_units)); intro G zs h9 tk9 hzs F9 N9 O9; (try dsimp only); (try k_fold)))
        k_steps
        exact end3 (by k_asm) (by assumption) (by assumption) off hfo hgo (by assumption) (fun _ => trivial)
      · rintro ys nx ⟨gs, rfl, hfo, hgo⟩
        (try dsimp only)
        intro D9 h9 tk9 F9 N9 O9
        (try dsimp only)
        simp only [List.cons_append] at N9 O9
        k_with_none
        k_steps
        exact hret _ _ _ _ _ _ hfo hT1 (off4 O9 hgo ho1) (by k_asm) (end4 (by assumption))
end
end PartFiled
section PartLawL
section
abbrev dfl : List Int := [0, 16, 34, 3, 23, 30, 2, 16, 4, 37]
section
variable {w : World} {A : Around} {E : Value → Shared → Prop} {s : Shared} {t u : Tok} {Q : Value → Shared → Prop} {h₀ : Heap} {L l : Addr} {m : Str → Option Value} {news : List (Addr × Obj)} {value slice : PySem.Expr} {vs : List Value} {ns : List Int} {kk k : Nat} {x : Int}
theorem sl_from (hx : x = (k : Int)) (F : Fr h₀ L s.heap m) (N : News h₀ L s.heap news) (hm : (l, listOf vs.toArray kk) ∈ news) (hI : IntsAre vs ns) (hz : ns.length ≤ 100)
    (h : ∀ (D : Nat) ws h', Fr h₀ L h' m → News h₀ L h' ((D, listOf (List.toArray ws) 0) :: news) → (∀ p ∈ news, p.1 < D) → IntsAre ws (ns.drop k) → Q (.ref D) { s with heap := h' })
    (hs : subscripted slice false (.ref l) (.ref s.heap.objs.size) = operate [.ref s.heap.objs.size, .ref l] (getItem (.ref l) (.ref s.heap.objs.size))) (ht : ∀ r, letTemporaryGo value (.ref l) r = pure ()) :
    wpAny (model PG w) A (subscriptTail value slice (.ref l) (.ref s.heap.objs.size)) Q E { s with heap := s.heap.push { cls := .type "slice", data := .fields #[.int x t, .none, .none] } } := by
  subst hx
  refine kmk_slice_ints F N (News.isList N hm) (.int _ _) .none hI (kmk_from hI (by omega)) rfl (fun D ws h' F' N' l1 hI' _ _ => h D ws h' F' N' l1 (by simpa using hI')) hs ht (by
    have : vs.toArray.size ≤ 100 := by simp; rw [hI.length]; exact hz
    exact Nat.le_trans this (by decide))
theorem sl_to (hx : x = (k : Int)) (F : Fr h₀ L s.heap m) (N : News h₀ L s.heap news) (hm : (l, listOf vs.toArray kk) ∈ news) (hI : IntsAre vs ns) (hz : ns.length ≤ 100)
    (h : ∀ (D : Nat) ws h', Fr h₀ L h' m → News h₀ L h' ((D, listOf (List.toArray ws) 0) :: news) → (∀ p ∈ news, p.1 < D) → IntsAre ws (ns.take k) → Q (.ref D) { s with heap := h' })
    (hs : subscripted slice false (.ref l) (.ref s.heap.objs.size) = operate [.ref s.heap.objs.size, .ref l] (getItem (.ref l) (.ref s.heap.objs.size))) (ht : ∀ r, letTemporaryGo value (.ref l) r = pure ()) :
    wpAny (model PG w) A (subscriptTail value slice (.ref l) (.ref s.heap.objs.size)) Q E { s with heap := s.heap.push { cls := .type "slice", data := .fields #[.none, .int x t, .none] } } := by
  subst hx
  refine kmk_slice_ints F N (News.isList N hm) .none (.int _ _) hI (kmk_upto hI (by omega)) rfl (fun D ws h' F' N' l1 hI' _ _ => h D ws h' F' N' l1 (by simpa using hI')) hs ht (by
    have : vs.toArray.size ≤ 100 := by simp; rw [hI.length]; exact hz
    exact Nat.le_trans this (by decide))
end
theorem dfl_ints (t0 t1 t2 t3 t4 t5 t6 t7 t8 t9 : Tok) : IntsAre [.int 0 t0, .int 16 t1, .int 34 t2, .int 3 t3, .int 23 t4, .int 30 t5, .int 2 t6, .int 16 t7, .int 4 t8, .int 37 t9] dfl :=
  .cons _ _ (.cons _ _ (.cons _ _ (.cons _ _ (.cons _ _ (.cons _ _ (.cons _ _ (.cons _ _ (.cons _ _ (.cons _ _ .nil)))))))))
theorem cat_fit {gs : List Int} (h : gs.length ≤ 10) : gs.length + (dfl.drop gs.length).length ≤ sizeLine := Nat.le_trans (by simp; omega) (by decide : 20 ≤ sizeLine)
theorem fl_len {gs : List Int} (h : gs.length ≤ 10) : (gs ++ dfl.drop gs.length).length = 10 := by simp; omega
theorem gs_len {ys : List Value} {f : Int → Int} {w : List Int} (_ : IntsAre ys ((w.take 10).map f)) : ((w.take 10).map f).length ≤ 10 := by simp; omega
theorem gameIn {own gs : List (Addr × Obj)} {d : Nat} {ys : List Value} {ns : List Int} (h : FiledOk ns gs ys 5) (hd : (d, LCg.lst ys) ∈ own) (hg : ∀ p ∈ gs, p ∈ own) : GameIn own d (rowsAt ns) :=
  ⟨ys, hd, fun x hx => by
    obtain ⟨a, zs, e, hm, hs⟩ := h.2 x hx
    exact ⟨a, zs, e, hg _ hm, placeOf_eq ns x ▸ hs⟩⟩
theorem rows_ok (ns : List Int) : ∀ x, x < 5 → ∀ a ∈ rowsAt ns x, a.length = x + 1 ∧ ∀ c ∈ a, c = 45 ∨ c = 46 := fun x _ a ha => by
  obtain ⟨n, _, rfl, hl⟩ := rowsAt_mem ha
  exact ⟨hl, out_ok n⟩
/-- the board as data -/
def boardDat (W : Nat → Nat → Int) : List Dat := (List.range 5).map fun i => Dat.list ((rowW W i 5).map Dat.int)
theorem ints_dat {news : List (Addr × Obj)} {vs : List Value} {ns : List Int} (h : IntsAre vs ns) : DatAll news vs (ns.map Dat.int) := by
  induction h with
  | nil => exact .nil
  | cons n t _ ih => exact .cons (.int n t) ih
theorem rows_dat {G : List (Addr × Obj)} {W : Nat → Nat → Int} : ∀ {x : Nat} {wrows : List Value}, RowsIn G wrows W x → DatAll G wrows ((List.range x).map fun i => Dat.list ((rowW W i 5).map Dat.int))
  | 0, wrows, h => by
    have : wrows = [] := List.eq_nil_of_length_eq_zero h.1
    subst this
    exact .nil
  | x + 1, wrows, h => by
    have hl := h.1
    obtain ⟨r, v, rfl⟩ : ∃ r v, wrows = r ++ [v] := by
      rcases List.eq_nil_or_concat wrows with e | ⟨r, v, e⟩
      · subst e; simp at hl
      · exact ⟨r, v, by rw [e, List.concat_eq_append]⟩
    have hr : r.length = x := by simp at hl; exact hl
    have ih := rows_dat (x := x) (wrows := r) ⟨hr, fun i hi => by
      obtain ⟨ra, vs, kk, e, hm, hI⟩ := h.2 i (by omega)
      rw [List.getElem?_append_left (by omega)] at e
      exact ⟨ra, vs, kk, e, hm, hI⟩⟩
    obtain ⟨ra, vs, kk, e, hm, hI⟩ := h.2 x (by omega)
    rw [List.getElem?_append_right (by omega), hr, Nat.sub_self] at e
    simp at e
    subst e
    rw [List.range_succ, List.map_append]
    have app : ∀ {a b : List Value} {ds es : List Dat}, DatAll G a ds → DatAll G b es → DatAll G (a ++ b) (ds ++ es) := by
      intro a
      induction a with
      | nil => intro b ds es h1 h2; cases h1; exact h2
      | cons y a iha => intro b ds es h1 h2; cases h1 with | cons p q => exact .cons p (iha q h2)
    exact app ih (.cons (.list hm (ints_dat hI)) .nil)
theorem dat_ok (W : Nat → Nat → Int) : ∀ d ∈ boardDat W, kqdOk 8 d = true := fun d hd => by
  unfold boardDat at hd
  obtain ⟨i, _, rfl⟩ := List.mem_map.mp hd
  simp only [kqdOk, List.all_map]
  rw [List.all_eq_true]
  intro n _
  rfl
theorem pick0 {β : Type} {a b c1 c2 c3 c4 y t s : β} : ∀ p ∈ a :: ([b, y] ++ [s, t]), p ∈ [a, b, c1, c2, c3, c4, y, t, s] := by
  intro p hp
  simp only [List.mem_cons, List.mem_append, List.not_mem_nil, or_false] at hp ⊢
  rcases hp with h | (h | h) | (h | h) <;> simp [h]
theorem hst_of {a b c : Nat} {x y z : Obj} (h1 : 235 < a) (h2 : 235 < b) (h3 : 235 < c) : ∀ q ∈ [((a : Addr), x), (b, y), (c, z)], 235 < q.1 := fun q hq => by
  simp only [List.mem_cons, List.not_mem_nil, or_false] at hq
  rcases hq with rfl | rfl | rfl
  · exact h1
  · exact h2
  · exact h3
theorem hn40 : ∀ p ∈ [((235 : Addr), tabObj #[])], p.1 ≠ 40 := fun p hp => by
  obtain rfl := List.mem_singleton.mp hp
  show @Ne Nat 235 40
  decide
theorem tab_get {TN : List (Addr × Obj)} (h : TabOn TN [(235, tabObj #[])]) : (∃ ps, (40, tabObj ps) ∈ TN) ∧ (235, tabObj #[]) ∈ TN := by
  rcases h with rfl | ⟨c, oc, _, _, _, rfl⟩
  · exact ⟨⟨_, .head _⟩, .tail _ (.head _)⟩
  · exact ⟨⟨_, .tail _ (.head _)⟩, .tail _ (.tail _ (.head _))⟩
theorem tabL_get {TN : List (Addr × Obj)} (h : TabL TN []) : ∃ ps, (235, tabObj ps) ∈ TN := by
  rcases h with rfl | ⟨c, oc, _, _, _, rfl⟩
  · exact ⟨_, .head _⟩
  · exact ⟨_, .tail _ (.head _)⟩
theorem relay1 {β : Type} {a l x y : β} {gs TN : List β} : ∀ p ∈ x :: y :: a :: (gs ++ TN), p ∈ a :: (gs ++ l :: ([x, y] ++ TN)) := by
  intro p hp
  simp only [List.mem_cons, List.mem_append, List.not_mem_nil, or_false] at hp ⊢
  rcases hp with h | h | h | h | h <;> simp [h]
theorem ho_start {l : List (Addr × Obj)} {s t : Obj} (h : ∀ q ∈ l, 235 < q.1) : ∀ q ∈ l, ∀ p ∈ [((40 : Addr), s), (235, t)], p.1 ≠ q.1 := fun q hq p hp => by
  have h' : @LT.lt Nat _ 235 q.1 := h q hq
  simp only [List.mem_cons, List.not_mem_nil, or_false] at hp
  rcases hp with rfl | rfl
  · show @Ne Nat 40 q.1; omega
  · show @Ne Nat 235 q.1; omega
theorem ho_second {a l x y b : Addr × Obj} {gs TN : List (Addr × Obj)} (h : ∀ q ∈ a :: (gs ++ l :: [x, y]), ∀ p ∈ TN, p.1 ≠ q.1) (hb : ∀ p ∈ x :: y :: a :: (gs ++ TN), p.1 < b.1) : ∀ q ∈ b :: (x :: y :: a :: gs), ∀ p ∈ TN, p.1 ≠ q.1 := fun q hq p hp => by
  rcases List.mem_cons.mp hq with rfl | hq
  · have : @LT.lt Nat _ p.1 q.1 := hb p (by simp [hp])
    exact Nat.ne_of_lt this
  · refine h q ?_ p hp
    simp only [List.mem_cons, List.mem_append, List.not_mem_nil, or_false] at hq ⊢
    rcases hq with h | h | h | h <;> simp [h]
theorem relay2 {a l x y e s t : Addr × Obj} {gs gs2 TN : List (Addr × Obj)} (hs : s ∈ TN) (ht : t ∈ TN) : ∀ p ∈ (s :: x :: y :: a :: e :: (gs ++ gs2)) ++ [t], p ∈ e :: (gs2 ++ l :: ((x :: y :: a :: gs) ++ TN)) := by
  intro p hp
  simp only [List.mem_cons, List.mem_append, List.not_mem_nil, or_false] at hp ⊢
  rcases hp with ((h | h | h | h | h | h | h) | h) <;> simp [h, hs, ht]
theorem ho_board {a l x y e : Addr × Obj} {ps : Array Value} {gs gs2 TN : List (Addr × Obj)} (h : ∀ q ∈ e :: (gs2 ++ l :: (x :: y :: a :: gs)), ∀ p ∈ TN, p.1 ≠ q.1) (ht : ((235 : Addr), tabObj #[]) ∈ TN) :
    ∀ q ∈ ((40 : Addr), tabObj ps) :: x :: y :: a :: e :: (gs ++ gs2), ∀ p ∈ [((235 : Addr), tabObj #[])], p.1 ≠ q.1 := fun q hq p hp => by
  obtain rfl := List.mem_singleton.mp hp
  rcases List.mem_cons.mp hq with rfl | hq
  · show @Ne Nat 235 40; decide
  · refine h q ?_ _ ht
    simp only [List.mem_cons, List.mem_append, List.not_mem_nil, or_false] at hq ⊢
    rcases hq with h | h | h | h | h | h <;> simp [h]
theorem relay3 {a x y e s t b : Addr × Obj} {gs G TN : List (Addr × Obj)} (hG : ∀ p ∈ s :: x :: y :: a :: e :: gs, p ∈ G) (ht : t ∈ TN) : ∀ p ∈ x :: y :: b :: t :: s :: G, p ∈ b :: (G ++ TN) := by
  intro p hp
  have g : ∀ p ∈ s :: x :: y :: a :: e :: gs, p = b ∨ p ∈ G ∨ p ∈ TN := fun p hp => .inr (.inl (hG p hp))
  simp only [List.mem_cons, List.mem_append] at hp ⊢
  rcases hp with rfl | rfl | rfl | rfl | rfl | h
  · exact g _ (by simp)
  · exact g _ (by simp)
  · exact .inl rfl
  · exact .inr (.inr ht)
  · exact g _ (by simp)
  · exact .inr (.inl h)
/-- the rows of the board stand in objects that are lists -/
theorem rows_apart {G : List (Addr × Obj)} {wrows : List Value} {W : Nat → Nat → Int} {x : Nat} (hR : RowsIn G wrows W x) : ∃ Gl : List (Addr × Obj), RowsIn Gl wrows W x ∧ (∀ p ∈ Gl, p ∈ G) ∧ ∀ p ∈ Gl, ∀ v, p.2.data ≠ .cell v := by
  classical
  refine ⟨G.filter fun p => decide (∃ xs n, p.2 = listOf xs n), ⟨hR.1, fun i hi => ?_⟩, fun p hp => (List.mem_filter.mp hp).1, fun p hp v e => ?_⟩
  · obtain ⟨ra, vs, kk, e, hm, hI⟩ := hR.2 i hi
    exact ⟨ra, vs, kk, e, List.mem_filter.mpr ⟨hm, decide_eq_true ⟨_, _, rfl⟩⟩, hI⟩
  · obtain ⟨xs, n, e2⟩ := of_decide_eq_true (List.mem_filter.mp hp).2
    rw [e2] at e
    cases e
theorem relay4 {a x y e s t b : Addr × Obj} {gs G Gl TN : List (Addr × Obj)} (hG : ∀ p ∈ s :: x :: y :: a :: e :: gs, p ∈ G) (ht : t ∈ TN) (hl : ∀ p ∈ Gl, p ∈ G) : ∀ p ∈ x :: y :: b :: t :: s :: Gl, p ∈ b :: (G ++ TN) := fun p hp => relay3 hG ht p (by
  simp only [List.mem_cons] at hp ⊢
  rcases hp with h | h | h | h | h | h
  · exact .inl h
  · exact .inr (.inl h)
  · exact .inr (.inr (.inl h))
  · exact .inr (.inr (.inr (.inl h)))
  · exact .inr (.inr (.inr (.inr (.inl h))))
  · exact .inr (.inr (.inr (.inr (.inr (hl p h))))))
theorem pick1 {β : Type} {e1 e2 d1 d2 f c w s t : β} {Gl : List β} : ∀ p ∈ c :: d1 :: e1 :: w :: s :: t :: Gl, p ∈ e1 :: e2 :: d1 :: d2 :: f :: c :: w :: s :: t :: Gl := by
  intro p hp
  simp only [List.mem_cons] at hp ⊢
  rcases hp with h | h | h | h | h | h | h <;> simp [h]
theorem no_cell {a b c d e : Nat} {xs ys zs us vs : Array Value} {i j k : Nat} {Gl : List (Addr × Obj)} (h : ∀ p ∈ Gl, ∀ v, p.2.data ≠ .cell v) : ∀ p ∈ ((a : Addr), listOf xs i) :: ((b : Addr), listOf ys j) :: ((c : Addr), listOf zs k) :: ((d : Addr), tabObj us) :: ((e : Addr), tabObj vs) :: Gl, ∀ v, p.2.data ≠ .cell v := by
  intro p hp v q
  simp only [List.mem_cons] at hp
  rcases hp with rfl | rfl | rfl | rfl | rfl | hp
  · cases q
  · cases q
  · cases q
  · cases q
  · cases q
  · exact h p hp v q
theorem store_cell {M : Model} {A : Around} {E : Value → Shared → Prop} {s : Shared} {h₀ : Heap} {m : Str → Option Value} {name : Str} {scope : Scope} {L a : Addr} {cd : Value} {x : Str} {c : Addr} {o : Obj} {v₀ : Option Value} {v : Value} {rest : List (Addr × Obj)} {Q : Unit → Shared → Prop}
    (F : Fr h₀ L s.heap m) (N : News h₀ L s.heap ((c, o) :: rest)) (hc : (cellsFrom (L + 1) scope.names []).lookup x = some c) (hd : o.data = .cell v₀) (hn : ∀ p ∈ rest, ∀ v, p.2.data ≠ .cell v)
    (h : ∀ h' o', Fr h₀ L h' m → News h₀ L h' ((c, o') :: rest) → o'.data = .cell (some v) → Q () { s with heap := h' })
    (hk : scope.kind = .function) (hl : (envOfC name scope L a cd).kindOf x = some .cell) : wpAny M A (storeName (envOfC name scope L a cd) x v) Q E s := by
  refine stCN (own := []) F N hc hd (fun p hp => nomatch hp) (fun p hp e => ?_) h hk hl
  have h1 := (N (c, o) (.head _)).1
  have h2 := (N p (.tail _ hp)).1
  rw [e, h1] at h2
  cases h2
  exact hn p hp _ hd
/-- the rows of the product that the outer comprehension has made -/
def JR (W : Nat → Nat → Int) (base : List (Addr × Obj)) (i : Nat) (ys : List Value) (nx : List (Addr × Obj)) : Prop := ∃ gs, nx = base ++ gs ∧ RowsIn gs ys W i
theorem JR.zero {W : Nat → Nat → Int} {base : List (Addr × Obj)} : JR W base 0 [] base := ⟨[], (List.append_nil _).symm, rfl, fun i hi => absurd hi (Nat.not_lt_zero _)⟩
theorem JR.mem {W : Nat → Nat → Int} {base : List (Addr × Obj)} {p : Addr × Obj} (hp : p ∈ base) : ∀ i ys nx, JR W base i ys nx → p ∈ nx := fun i ys nx ⟨gs, e, _⟩ => e ▸ List.mem_append_left _ hp
theorem at_range {c : Nat → Int} {i : Nat} {a : Int} (h : ((List.range 5).map c)[i]? = some a) : i < 5 ∧ c i = a := by
  rw [List.getElem?_map] at h
  by_cases hi : i < 5
  · rw [List.getElem?_range hi] at h
    exact ⟨hi, by simpa using h⟩
  · rw [List.getElem?_eq_none (by simp; omega)] at h
    cases h
theorem in_range {c : Nat → Int} {a : Int} (h : a ∈ (List.range 5).map c) : ∃ k, k < 5 ∧ c k = a := by
  obtain ⟨k, hk, e⟩ := List.mem_map.mp h
  exact ⟨k, List.mem_range.mp hk, e⟩
theorem row_map {W : Nat → Nat → Int} {c : Nat → Int} {f : Int → Int} {i : Nat} (h : ∀ k, f (c k) = W i k) : ((List.range 5).map c).map f = rowW W i 5 := by
  unfold rowW
  rw [List.map_map]
  exact List.map_congr_left fun k _ => h k
theorem cell_end {h₀ h' : Heap} {L I C K D G : Nat} {m : Str → Option Value} {s₁ : Shared} {tk i : Nat} {oI oC oK oD : Obj} {W : Nat → Nat → Int} {ys zs : List Value} {base gs : List (Addr × Obj)} (F : Fr h₀ L h' m)
    (N : News h₀ L h' ((G, LCg.lst zs) :: (I, oI) :: (C, oC) :: (K, oK) :: (D, oD) :: (base ++ gs))) (O : LCg.Off1 G ((I, oI) :: (C, oC) :: (K, oK) :: (D, oD) :: (base ++ gs))) (off : Off4 I C K D (base ++ gs)) (hR : RowsIn gs ys W i) (hz : IntsAre zs (rowW W i 5)) :
    CellEnd h₀ L m s₁ I oI C oC K oK D oD (fun y nx' => JR W base (i + 1) (ys ++ [y]) nx') (.ref G) { s₁ with heap := h', toks := tk } := by
  have o := off1_of.mp O
  refine CellEnd.intro F N (base ++ (G, LCg.lst zs) :: gs) (fun p hp => ?_) (fun p hp => ?_) ⟨_, rfl, hR.snoc hz⟩
  · simp only [List.mem_cons, List.mem_append] at hp ⊢
    rcases hp with h | h | h | h | h | h | h <;> simp [h]
  · rcases List.mem_append.mp hp with hp | hp
    · exact off p (List.mem_append_left _ hp)
    · rcases List.mem_cons.mp hp with rfl | hp
      · have o1 : @Ne Nat I G := o (I, oI) (.head _)
        have o2 : @Ne Nat C G := o (C, oC) (.tail _ (.head _))
        have o3 : @Ne Nat K G := o (K, oK) (.tail _ (.tail _ (.head _)))
        have o4 : @Ne Nat D G := o (D, oD) (.tail _ (.tail _ (.tail _ (.head _))))
        exact ⟨Ne.symm o1, Ne.symm o2, Ne.symm o3, Ne.symm o4⟩
      · exact off p (List.mem_append_right _ hp)
theorem fit5r {c : Nat → Int} : ((List.range 5).map c).length ≤ sizeLine := by
  rw [List.length_map, List.length_range]; decide
theorem arr_fit {A : Array Value} {c : Nat → Int} (h : IntsAre A.toList ((List.range 5).map c)) : A.size ≤ sizeLine := by
  have := h.length
  rw [Array.length_toList] at this
  rw [this]; exact fit5r
theorem gap_zero : ∀ p ∈ ([] : List (Addr × Obj)), p.1 ≠ 235 := fun p hp => by cases hp
section
open PyProof.Rows.LCg
variable {prog : Program} {w : World} {A : Around} {s : Shared} {h₀ : Heap} {L : Addr} {m : Str → Option Value} {env : Env} {elt : Expr} {x : Str} {scope : Scope} {cl : List (Str × Addr)} {S : List (Addr × Obj) → Prop} {Fin : List Value → List (Addr × Obj) → Prop}
/-- a comprehension of numbers out of numbers -/
theorem comp_ints {vs : List Value} {ns : List Int} (f : Int → Int) (hvs : IntsAre vs ns) {news : List (Addr × Obj)}
    (turn : ∀ b t ys I oI C oC D m₂ h tk (E' : Value → Shared → Prop), b ∈ ns → NsObj oC m₂ → m₂ x = some (.int b t) → Fr h₀ L h m → News h₀ L h ((I, oI) :: (C, oC) :: (D, lst ys) :: news) → Off3 I C D news → ((@Ne Nat I C) ∧ (@Ne Nat I D) ∧ (@Ne Nat C D)) →
      wpAny (model prog w) A (eval elt (compEnvC scope cl C env)) (CompEnd h₀ L m { s with heap := h, toks := tk } I oI C oC D (lst ys) S (fun y nx' => nx' = news ∧ ∃ t, y = .int (f b) t)) E' { s with heap := h, toks := tk })
    (fin : ∀ ys, IntsAre ys (ns.map f) → Fin ys news) : CompRest prog w A h₀ L m env elt x scope cl s S (fun i v => vs.toArray[i]? = some v) Fin vs.toArray.size 0 [] news := by
  have hl : vs.toArray.size = ns.length := by simpa using hvs.length
  rw [hl]
  refine compJ (fun i ys nx => nx = news ∧ IntsAre ys ((ns.take i).map f)) ⟨rfl, .nil⟩ ?_ ?_
  · rintro i v ys nx I oI C oC D m₂ h tk E' hi hv ⟨rfl, hy⟩ hC hx F N off ne
    obtain ⟨b, t, hn, rfl⟩ := ints_at hvs (by simpa using hv)
    refine wpAny_mono (turn b t ys I oI C oC D m₂ h tk E' (List.mem_of_getElem? hn) hC hx F N off ne) (fun y s₃ hq => ?_) fun _ _ e => e
    obtain ⟨h', tk', nw, e, F', N', off', hS, hn', t', hy'⟩ := hq
    refine ⟨h', tk', nw, e, F', N', off', hS, hn', ?_⟩
    rw [hy', List.take_add_one, hn]
    simp only [Option.toList_some, List.map_append, List.map_cons, List.map_nil]
    exact ints_snoc hy _ t'
  · rintro ys nx ⟨rfl, hy⟩
    rw [List.take_length] at hy
    exact fin ys hy
end
theorem src_mem {β : Type} {a b c d e f g : β} {r gs : List β} : g ∈ a :: b :: c :: d :: ((e :: f :: g :: r) ++ gs) := by simp
theorem dec_same {α : Type} {a : α} {d : Decidable (a = a)} {P : Bool → Prop} (h : P true) : P (@decide (a = a) d) := by
  rw [decide_eq_true (rfl : a = a)]; exact h
theorem board_eq {w : World} {A : Around} {E : Value → Shared → Prop} {s : Shared} {Q : Value → Shared → Prop} {h₀ : Heap} {L : Addr} {news G gs : List (Addr × Obj)} {wa D : Addr} {nb : Nat} {W : Nat → Nat → Int} {wrows : Array Value} {ys : List Value}
    (N : News h₀ L s.heap news) (ma : (wa, listOf wrows nb) ∈ news) (mb : (D, LCg.lst ys) ∈ news) (hR : RowsIn G wrows.toList W 5) (hG : ∀ p ∈ G, p ∈ news) (hR2 : RowsIn gs ys W 5) (hG2 : ∀ p ∈ gs, p ∈ news) (hu : A.units + 64 < cLine) (h : Q (.bool true) s) :
    wpAny (model PG w) A (compareOp .Eq (.ref wa) (.ref D)) Q E s :=
  kqd_eq N ma rfl rfl (rows_dat hR) hG mb rfl rfl (rows_dat hR2) hG2 (dat_ok W) (dat_ok W) hu (dec_same (P := fun b => Q (.bool b) s) h)
theorem end_ma {β : Type} {a b c d e : β} {r gs : List β} : e ∈ a :: ((b :: c :: d :: e :: r) ++ gs) := by simp
theorem end_sub {β : Type} {a b c d e f g : β} {r gs : List β} : ∀ p ∈ r, p ∈ a :: ((b :: c :: d :: e :: f :: g :: r) ++ gs) := fun p hp => by simp [hp]
theorem end_sub2 {β : Type} {a : β} {r gs : List β} : ∀ p ∈ gs, p ∈ a :: (r ++ gs) := fun p hp => by simp [hp]
end
end PartLawL
section PartLaw
set_option rowWalk.seconds 0
section
local macro_rules | `(tactic| walk_at "subscriptTail List cons Slice ref ref") => `(tactic| (k_dflt (refine kba_turn (value' := PySem.Expr.Name (PySem.Str.ofString "_") ⟨0, 0, 0, 0⟩) (fun _ => rfl) ?_)))

theorem lawHolds : PySem.Challenge.rw_sn0053_01.Holds := by
  exact Mine.top (by
    k_go0
    (all_goals try k_fold)
    k_with_none
    iterate 13 (first | (k_unfold; (try dsimp only)) | walk1 | (dsimp only; walk1))
    rename IntsAre _ (List.map _ (List.take _ _)) => hG
    have hGl := gs_len hG
    have hGc := hG.length
    generalize (List.map _ (List.take _ _)) = gs at hG hGl hGc
    have h235 : @LT.lt Nat _ 235 _ := Heap.lt_size (hT8 235 (.head _))
    k_with "len!" => (k_dflt (refine' lenI ?N ?hm hG ?hz ?_; (case N => k_asm); (case hm => k_mem); (case hz => omega)); intro t9 k9; (try k_fold))
    k_with "slice!" => (k_dflt (refine' sl_from (k := gs.length) rfl ?F ?N ?hm (dfl_ints _ _ _ _ _ _ _ _ _ _) ?hz ?_ ?hs ?ht; (case F => k_asm); (case N => k_asm); (case hm => k_mem); (case hz => decide); (case hs => with_unfolding_all rfl); (case ht => (intro _; with_unfolding_all rfl))); intro D1 ws1 h9 F9 N9 l9 hI1; (try dsimp only)); (try k_lt l9)
    iterate 44 (first | (k_unfold; (try dsimp only)) | walk1 | (dsimp only; walk1))
    rename IntsAre _ (_ ++ _) => hI2
    have hfl := fl_len hGl
    generalize (gs ++ List.drop gs.length dfl) = fl at hI2 hfl

    k_with "slice!" => (k_dflt (refine' sl_to (k := 5) rfl ?F ?N ?hm hI2 ?hz ?_ ?hs ?ht; (case F => k_asm); (case N => k_asm); (case hm => k_mem); (case hz => rw [hfl]; decide); (case hs => with_unfolding_all rfl); (case ht => (intro _; with_unfolding_all rfl))); intro D3 ws3 h9 F9 N9 l9 hI3; (try dsimp only))
    iterate 20 (first | (k_unfold; (try dsimp only)) | walk1 | (dsimp only; walk1))

    have hD3 : @LT.lt Nat _ 235 D3 := l9 (235, tabObj #[]) (by simp)
    obtain ⟨c1, m1, b1⟩ := coins_ex ((fl.take 5).map ruleOf) (by simp; omega)
    obtain ⟨c2, m2, b2⟩ := coins_ex ((fl.drop 5).map ruleOf) (by simp; omega)
    have hW : ∀ i k, 0 ≤ t4 (c1 i) (c2 k) ∧ t4 (c1 i) (c2 k) < 16 := fun i k => t4_16 ⟨(b1 i).1, by have := (b1 i).2; omega⟩ ⟨(b2 k).1, by have := (b2 k).2; omega⟩
    replace N9 := cb_drop N9 pick0
    k_with "call ref!" => ((with_reducible show wpAny _ _ (call (Value.ref _) [Value.ref _]) _ _ _); k_dflt (refine' Ctr.use ?k1 ?k2 ?k3 ?k4 ?k5 ?kK (filed ws3 (fl.take 5) 0 hI3 (by simp [hfl]) D3 [(_, listOf _ 0), (_, _)] [(235, tabObj #[])] [(40, tabObj #[]), (235, tabObj #[])] (.inl rfl) ?ho hn40) ?kd ?ku ?_; (case k1 => k_asm); (case k2 => k_asm); (case k3 => k_asm); (case k4 => k_asm); (case k5 => k_asm); (case kK => first | exact rfl | assumption); (case ho => (refine ho_start (hst_of ?_ ?_ ?_)) <;> omega); (case kd => ktr_room); (case ku => ktr_units)); intro D4 ys4 gs4 TN4 h9 tk9 hf4 hT4 ho4 F9 N9; (try dsimp only); (replace N9 := cb_drop N9 relay1); (try k_fold))
    k_with "slice!" => (k_dflt (refine' sl_from (k := 5) rfl ?F ?N ?hm hI2 ?hz ?_ ?hs ?ht; (case F => k_asm); (case N => k_asm); (case hm => k_mem); (case hz => rw [hfl]; decide); (case hs => with_unfolding_all rfl); (case ht => (intro _; with_unfolding_all rfl))); intro D5 ws5 h9 F9 N9 l9 hI5; (try dsimp only)); (have l5 := l9); (replace N9 : News _ _ _ ((D5, listOf ws5.toArray 0) :: (((_, listOf _ 0) :: (_, _) :: (D4, LCg.lst ys4) :: gs4) ++ TN4)) := N9)
    iterate 16 (first | (k_unfold; (try dsimp only)) | walk1 | (dsimp only; walk1))

    k_with "call ref!" => ((with_reducible show wpAny _ _ (call (Value.ref _) [Value.ref _]) _ _ _); k_dflt (refine' Ctr.use ?k1 ?k2 ?k3 ?k4 ?k5 ?kK (filed ws5 (fl.drop 5) 0 hI5 (by simp [hfl]) D5 ((_, listOf _ 0) :: (_, _) :: (D4, LCg.lst ys4) :: gs4) [(235, tabObj #[])] TN4 hT4 ?ho hn40) ?kd ?ku ?_; (case k1 => k_asm); (case k2 => k_asm); (case k3 => k_asm); (case k4 => k_asm); (case k5 => k_asm); (case kK => first | exact rfl | assumption); (case ho => exact ho_second ho4 l5); (case kd => ktr_room); (case ku => ktr_units)); intro D6 ys6 gs6 TN6 h9 tk9 hf6 hT6 ho6 F9 N9; (try dsimp only); (obtain ⟨⟨ps6, m40⟩, m235⟩ := tab_get hT6); (replace N9 := cb_drop N9 (relay2 m40 m235)); (try k_fold))
    iterate 3 (first | (k_unfold; (try dsimp only)) | walk1 | (dsimp only; walk1))

    k_with "call ref!" => ((with_reducible show wpAny _ _ (call (Value.ref _) [Value.ref _, Value.ref _]) _ _ _); k_dflt (refine' Ctr.use ?k1 ?k2 ?k3 ?k4 ?k5 ?kK (board (fun i k => t4 (c1 i) (c2 k)) hW (rowsAt (fl.take 5)) (rowsAt (fl.drop 5)) (rows_ok _) (rows_ok _) (tartan m1 m2 b1 b2) D4 D6 ((40, tabObj ps6) :: (_, listOf _ 0) :: (_, _) :: (D4, LCg.lst ys4) :: (D6, LCg.lst ys6) :: (gs4 ++ gs6)) [] [(235, tabObj #[])] (gameIn hf4 ?g1 ?g2) (gameIn hf6 ?g3 ?g4) (.inl rfl) ?ho gap_zero) ?kd ?ku ?_; (case k1 => k_asm); (case k2 => k_asm); (case k3 => k_asm); (case k4 => k_asm); (case k5 => k_asm); (case kK => first | exact rfl | assumption); (case g1 => exact .tail _ (.tail _ (.tail _ (.head _)))); (case g2 => exact fun p hp => .tail _ (.tail _ (.tail _ (.tail _ (.tail _ (List.mem_append_left _ hp)))))); (case g3 => exact .tail _ (.tail _ (.tail _ (.tail _ (.head _))))); (case g4 => exact fun p hp => .tail _ (.tail _ (.tail _ (.tail _ (.tail _ (List.mem_append_right _ hp)))))); (case ho => exact ho_board ho6 m235); (case kd => ktr_room); (case ku => ktr_units)); intro wa wrows nb G TN9 h9 tk9 hR hsub hTL F9 N9; (try dsimp only); (obtain ⟨ps9, m9⟩ := tabL_get hTL); (obtain ⟨Gl, hRl, hGl2, hnc⟩ := rows_apart hR); (replace N9 := cb_drop N9 (relay4 hsub m9 hGl2)); (try k_fold))
    iterate 3 (first | (k_unfold; (try dsimp only)) | walk1 | (dsimp only; walk1))

    k_with "slice!" => (k_dflt (refine' sl_to (k := 5) rfl ?F ?N ?hm hI2 ?hz ?_ ?hs ?ht; (case F => k_asm); (case N => k_asm); (case hm => k_mem); (case hz => rw [hfl]; decide); (case hs => with_unfolding_all rfl); (case ht => (intro _; with_unfolding_all rfl))); intro D7 ws7 h9 F9 N9 l9 hI7; (try dsimp only))
    k_with "call ref!" => ((with_reducible show wpAny _ _ (call (Value.ref _) [Value.ref _]) _ _ _); k_dflt (refine' Ctr.use ?k1 ?k2 ?k3 ?k4 ?k5 ?kK (coins c1 (fl.take 5) (by simp [hfl]) m1 ws7 D7 0 hI7 ?NWD7 ?hm) ?kd ?ku ?_; (case k1 => k_asm); (case k2 => k_asm); (case k3 => k_asm); (case k4 => k_asm); (case k5 => k_asm); (case kK => first | exact rfl | assumption); (case hm => k_mem); (case kd => ktr_room); (case ku => ktr_units)); intro D8 A8 n8 h9 tk9 hA8 F9 N9 l8; (try dsimp only); (try k_fold))
    iterate 20 (first | (k_unfold; (try dsimp only)) | walk1 | (dsimp only; walk1))

    k_with "slice!" => (k_dflt (refine' sl_from (k := 5) rfl ?F ?N ?hm hI2 ?hz ?_ ?hs ?ht; (case F => k_asm); (case N => k_asm); (case hm => k_mem); (case hz => rw [hfl]; decide); (case hs => with_unfolding_all rfl); (case ht => (intro _; with_unfolding_all rfl))); intro E7 vs7 h9 F9 N9 l9 hJ7; (try dsimp only))
    k_with "call ref!" => ((with_reducible show wpAny _ _ (call (Value.ref _) [Value.ref _]) _ _ _); k_dflt (refine' Ctr.use ?k1 ?k2 ?k3 ?k4 ?k5 ?kK (coins c2 (fl.drop 5) (by simp [hfl]) m2 vs7 E7 0 hJ7 ?NWE7 ?hm) ?kd ?ku ?_; (case k1 => k_asm); (case k2 => k_asm); (case k3 => k_asm); (case k4 => k_asm); (case k5 => k_asm); (case kK => first | exact rfl | assumption); (case hm => k_mem); (case kd => ktr_room); (case ku => ktr_units)); intro E8 B8 k8 h9 tk9 hB8 F9 N9 l9; (try dsimp only); (try k_fold))
    iterate 19 (first | (k_unfold; (try dsimp only)) | walk1 | (dsimp only; walk1))
    replace N9 := cb_drop N9 pick1
    with_unfolding_all refine store_cell F9 N9 rfl (by assumption) (no_cell hnc) ?_ rfl rfl
    intro h9 oc F9 N9 hoc

    k_with "lc!" => (k_dflt (refine' ListComp_cell (F₀ := by k_asm) ?l1 ?l2 ?l3 ?l4 ?l5 ?l6 ?l7 ?l8; (case l1 => rfl); (case l2 => decide); (case l3 => decide); (case l4 => with_unfolding_all rfl); (case l5 => rfl); (case l6 => decide); (case l7 => rfl)))
    iterate 7 (first | (k_unfold; (try dsimp only)) | walk1 | (dsimp only; walk1))
    k_dflt (refine ⟨D8, A8.toList, n8, _, rfl, rfl, F9, N9, .tail _ (.head _), ?sz, JR (fun i k => t4 (c1 i) (c2 k)) _, JR.mem (.tail _ (.head _)), JR.zero, ?turn, ?fin⟩)
    case sz => (rw [hA8.length]; exact fit5r)
    case fin =>
      rintro D9 ys9 nx9 h9 tk9 ⟨gs9, rfl, hR9⟩ F9 N9 hD9
      rw [hA8.length] at hR9
      (try dsimp only)
      refine board_eq N9 end_ma (.head _) hRl end_sub hR9 end_sub2 (by ke_room) ?_
      refine ⟨?_, ?_⟩
      · (k_end; wrow_close)
      · walk1
    rintro I C K D i v ys nx oI oC oK m₂ h tk E' hv ⟨gs9, rfl, hRg⟩ hC hK F2 N2 off2
    obtain ⟨a, ta, ha, rfl⟩ := ints_at hA8 hv
    obtain ⟨hi5, rfl⟩ := at_range ha
    (try k_fold)
    k_with "lc!" => (k_dflt (refine' LCg.ListComp_U (F₀ := by k_asm) ?zl1 ?zl2 ?zl3 ?zl4 ?zl5 ?zl6; (case zl1 => with_unfolding_all rfl); (case zl2 => decide); (case zl3 => rfl); (case zl4 => decide); (case zl5 => rfl)))
    iterate 2 (first | (k_unfold; (try dsimp only)) | walk1 | (dsimp only; walk1))
    k_dflt (refine' LCg.CompSrc.ledger rfl ?y1 ?y2 ?y3 ?ysz ?_; (case y1 => k_asm); (case y2 => k_asm); (case y3 => k_mem); (case ysz => exact arr_fit hB8))
    intro g9
    have n16 : ∀ (c : Nat → Int), (∀ k, 0 ≤ c k ∧ c k < 6) → ∀ k, 0 ≤ c k ∧ c k < 16 := fun c h k => ⟨(h k).1, by have := (h k).2; omega⟩
    refine comp_ints (fun b => t4 (c1 i) b) hB8 ?_ ?_
    rotate_left
    · intro ys2 hy2
      (try dsimp only)
      intro D3 h3 tk3 F3 N3 O3
      exact cell_end F3 N3 O3 off2 hRg (row_map (W := fun i k => t4 (c1 i) (c2 k)) (fun k => rfl) ▸ hy2)
    · intro b tb ys2 I2 oI2 C2 oC2 D2 m3 h2 tk2 E2 hb hC2 hx2 F3 N3 off3 ne3
      obtain ⟨k, hk5, rfl⟩ := in_range hb
      k_with "call ref!" => ((with_reducible show wpAny _ _ (call (Value.ref _) [Value.int _ _, Value.int _ _, Value.int _ _]) _ _ _); k_dflt (refine' Ctr.use ?k1 ?k2 ?k3 ?k4 ?k5 ?kK (times4 (c1 i) (c2 k) _ _ _ ?NWt (n16 c1 b1 i) (n16 c2 b2 k)) ?kd ?ku ?_; (case k1 => k_asm); (case k2 => k_asm); (case k3 => k_asm); (case k4 => k_asm); (case k5 => k_asm); (case kK => first | exact rfl | assumption); (case kd => ktr_room); (case ku => ktr_units)); intro t9 h9 tk9 F9 N9; (try dsimp only); (try k_fold))
      iterate 13 (first | (k_unfold; (try dsimp only)) | walk1 | (dsimp only; walk1))
      k_unfold
      (try dsimp only)
      exact LCg.CompEnd.intro (by k_asm) (by assumption) _ (by intro p hp; exact hp) off3 (.inr ⟨_, src_mem, rfl, k8, rfl⟩) ⟨rfl, _, rfl⟩)
end
end PartLaw
end Walks
end Mine
theorem PySem.Challenge.cw_sn0053_01_holds : PySem.Challenge.rw_sn0053_01.Holds :=
  Mine.lawHolds
