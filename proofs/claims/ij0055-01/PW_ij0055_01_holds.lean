import PyProof.Rows.All
import Wide.All
import OpenK.AllK
import Wide.FinOn
import Lean
import PySem.Challenge.RW_ij0055_01
set_option Elab.async false
set_option compiler.extract_closed false
section
open PySem PySem.W PyProof.Rows
set_option maxRecDepth 100000
namespace Mine
/-- the run of a top over a tree of objects -/
def runT (tb : String → Option Builtin) (p : Program) (w : World) (m₀ : Nat) (ann : Option Value) : Nat → SharedT → Thread → Option SharedT
  | 0, _, _ => none
  | n + 1, s, t => match through t with
    | true => some s
    | false => match stepOk m₀ ann t with
      | false => none
      | true => match stepT (denote tb) p w s t with
        | some (s', t') => runT tb p w m₀ ann n s' t'
        | none => none
theorem runT_of {tb : String → Option Builtin} {p : Program} {w : World} {m₀ : Nat} {ann : Option Value} : ∀ {n : Nat} {s s' : SharedT} {t : Thread}, runT tb p w m₀ ann n s t = some s' → topRun tb p w m₀ ann n s.abs t = some s'.abs
  | 0, _, _, _, h => by cases h
  | n + 1, s, s', t, h => by
    unfold runT at h
    unfold topRun
    cases he : through t with
    | true => rw [he] at h; cases h; rfl
    | false =>
      rw [he] at h
      cases hk : stepOk m₀ ann t with
      | false => rw [hk] at h; cases h
      | true =>
        rw [hk] at h
        cases hs : stepT (denote tb) p w s t with
        | none => rw [hs] at h; cases h
        | some r => obtain ⟨s₂, t₂⟩ := r; rw [hs] at h; rw [stepT_spec hs]; exact runT_of h
/-- the same by the library's quick words -/
noncomputable def runQ (p : Program) (w : World) (m₀ : Nat) (ann : Option Value) (n : Nat) : SharedT → Thread → Option SharedT :=
  @Nat.rec (fun _ => SharedT → Thread → Option SharedT) (fun _ _ => none)
    (fun _ ih s t => @Bool.rec (fun _ => Option SharedT)
      (@Bool.rec (fun _ => Option SharedT) none (@Option.rec (SharedT × Thread) (fun _ => Option SharedT) none (fun r => ih r.1 r.2) (PySem.W.Fast.tw10156331382660048174 (PySem.W.Fast.tw11892475500146522536 PySem.W.Fast.tw14364793385576792824) p w s t)) (stepOk m₀ ann t))
      (some s) (through t)) n
theorem runQ_eq (p : Program) (w : World) (m₀ : Nat) (ann : Option Value) : ∀ (n : Nat) (s : SharedT) (t : Thread), runQ p w m₀ ann n s t = runT treeTable p w m₀ ann n s t
  | 0, s, t => rfl
  | n + 1, s, t => by
    show @Bool.rec (fun _ => Option SharedT)
      (@Bool.rec (fun _ => Option SharedT) none (@Option.rec (SharedT × Thread) (fun _ => Option SharedT) none (fun r => runQ p w m₀ ann n r.1 r.2) (PySem.W.Fast.tw10156331382660048174 (PySem.W.Fast.tw11892475500146522536 PySem.W.Fast.tw14364793385576792824) p w s t)) (stepOk m₀ ann t))
      (some s) (through t) = _
    rw [← PySem.W.Fast.te10156331382660048174, ← PySem.W.Fast.te11892475500146522536, ← PySem.W.Fast.te14364793385576792824]
    unfold runT
    cases through t with
    | true => rfl
    | false =>
      cases stepOk m₀ ann t with
      | false => rfl
      | true =>
        cases stepT (denote treeTable) p w s t with
        | none => rfl
        | some r => exact runQ_eq p w m₀ ann n r.1 r.2
/-- the opening, over a tree -/
def impT (tb : String → Option Builtin) (p : Program) (w : World) : Nat → SharedT → Thread → Option SharedT
  | 0, _, _ => none
  | n + 1, s, t => match t.atExitBegin with
    | some [] => some s
    | some (_ :: _) => none
    | none => match stepT (denote tb) p w s t with
      | some (s', t') => impT tb p w n s' t'
      | none => none
theorem impT_of {tb : String → Option Builtin} {p : Program} {w : World} : ∀ {n : Nat} {s s' : SharedT} {t : Thread}, impT tb p w n s t = some s' → importEnds tb p w n s.abs t = some s'.abs
  | 0, _, _, _, h => by cases h
  | n + 1, s, s', t, h => by
    unfold impT at h
    unfold importEnds
    cases he : t.atExitBegin with
    | some l =>
      rw [he] at h
      cases l with
      | nil => cases h; rfl
      | cons a l => cases h
    | none =>
      rw [he] at h
      cases hs : stepT (denote tb) p w s t with
      | none => rw [hs] at h; cases h
      | some r => obtain ⟨s₂, t₂⟩ := r; rw [hs] at h; rw [stepT_spec hs]; exact impT_of h
noncomputable def impQ (p : Program) (w : World) (n : Nat) : SharedT → Thread → Option SharedT :=
  @Nat.rec (fun _ => SharedT → Thread → Option SharedT) (fun _ _ => none)
    (fun _ ih s t => @Option.rec (List Value) (fun _ => Option SharedT)
      (@Option.rec (SharedT × Thread) (fun _ => Option SharedT) none (fun r => ih r.1 r.2) (PySem.W.Fast.tw10156331382660048174 (PySem.W.Fast.tw11892475500146522536 PySem.W.Fast.tw14364793385576792824) p w s t))
      (fun l => @List.rec Value (fun _ => Option SharedT) (some s) (fun _ _ _ => none) l) t.atExitBegin) n
theorem impQ_eq (p : Program) (w : World) : ∀ (n : Nat) (s : SharedT) (t : Thread), impQ p w n s t = impT treeTable p w n s t
  | 0, s, t => rfl
  | n + 1, s, t => by
    show @Option.rec (List Value) (fun _ => Option SharedT)
      (@Option.rec (SharedT × Thread) (fun _ => Option SharedT) none (fun r => impQ p w n r.1 r.2) (PySem.W.Fast.tw10156331382660048174 (PySem.W.Fast.tw11892475500146522536 PySem.W.Fast.tw14364793385576792824) p w s t))
      (fun l => @List.rec Value (fun _ => Option SharedT) (some s) (fun _ _ _ => none) l) t.atExitBegin = _
    rw [← PySem.W.Fast.te10156331382660048174, ← PySem.W.Fast.te11892475500146522536, ← PySem.W.Fast.te14364793385576792824]
    unfold impT
    cases t.atExitBegin with
    | some l => cases l <;> rfl
    | none =>
      cases stepT (denote treeTable) p w s t with
      | none => rfl
      | some r => exact impQ_eq p w n r.1 r.2
abbrev pw : Program := PySem.Challenge.pw_ij0055_01
abbrev st0 : SharedT := ⟨.nil, 0, (start (opening pw)).1.heap.life, (start (opening pw)).1.gens, (start (opening pw)).1.drawn, (start (opening pw)).1.toks, (start (opening pw)).1.os⟩
/-- a tree of a list of objects -/
noncomputable def ofL (l : List Obj) : Nat → BT → Option (Nat × BT) :=
  @List.rec Obj (fun _ => Nat → BT → Option (Nat × BT)) (fun n t => some (n, t)) (fun o _ ih n t => @Bool.rec (fun _ => Option (Nat × BT)) none (ih (n + 1) (t.ins n o)) ((t.ins n o).get n).isSome) l
theorem ofL_abs {life : Life} : ∀ (l : List Obj) (n : Nat) (t : BT) (n' : Nat) (t' : BT), ofL l n t = some (n', t') → absHeap t' n' life = ⟨(absHeap t n life).objs ++ l.toArray, life⟩
  | [], n, t, n', t', h => by
    cases h
    simp [absHeap]
  | o :: l, n, t, n', t', h => by
    have h' : @Bool.rec (fun _ => Option (Nat × BT)) none (ofL l (n + 1) (t.ins n o)) ((t.ins n o).get n).isSome = some (n', t') := h
    cases g : ((t.ins n o).get n).isSome with
    | false => rw [g] at h'; cases h'
    | true =>
      rw [g] at h'
      have e := ofL_abs (life := life) l (n + 1) (t.ins n o) n' t' h'
      rw [e, absHeap_ins g]
      simp [Heap.push, absHeap]
end Mine
end
section
open PySem PySem.W PyProof.Rows
set_option maxRecDepth 100000
namespace Mine
set_option maxHeartbeats 0
/-- the top's run as one value: the state ahead of it, the state behind it -/
noncomputable def coreQ (m₀ : Nat) (ann : Option Value) (N : Nat) (w : World) : Option (Shared × SharedT) :=
  (impQ (opening pw) w N st0 (start (opening pw)).2).bind fun sE => (fenceModules? pw sE.abs).bind fun s₀ => (ofL s₀.heap.objs.toList 0 .nil).bind fun t =>
    (runQ pw w m₀ ann N ⟨t.2, t.1, s₀.heap.life, s₀.gens, s₀.drawn, s₀.toks, s₀.os⟩ (topStub pw)).bind fun s₁ => some (s₀, s₁)
noncomputable def seeQ (q : Program) (loose : List Str) (Xt : Shared → Bool) (r : Shared × SharedT) :=
      (r.1.heap.objs.size, r.1.heap.nsMap mainGlobals "__annotations__", (r.1.heap.isNs mainGlobals && r.1.gens.size == 0),
        (staticsOk (importedModules pw.main.body) r.1.heap r.2.abs.heap && namesBound pw r.2.abs.heap && gensDone r.2.abs && laidKept r.1.heap r.2.abs.heap),
        openSeen q loose (importedModules pw.main.body) Xt true r.2.abs)
theorem s0 : st0.abs = (start (opening pw)).1 := by kernel_rfl
theorem left_of {m₀ : Nat} {ann : Option Value} {N : Nat} {q : Program} {loose : List Str} {Xt : Shared → Bool} {α : Type} {Yf : Shared → α} {Ya : World → α}
    (h : ∀ w, (coreQ m₀ ann N w).map (seeQ q loose Xt) = some (m₀, ann, true, true, openGood q loose)) (hY : ∀ w, (coreQ m₀ ann N w).map (fun r => Yf r.2.abs) = some (Ya w)) : LeftO pw q loose Xt Yf Ya N := fun w => by
  obtain ⟨⟨r₀, r₁⟩, hc, h⟩ := Option.map_eq_some_iff.mp (h w)
  have hY := hY w
  rw [hc] at hY
  have a6 : Yf r₁.abs = Ya w := Option.some.inj hY
  unfold coreQ at hc
  obtain ⟨sE, e1, hc⟩ := Option.bind_eq_some_iff.mp hc
  obtain ⟨s₀, e2, hc⟩ := Option.bind_eq_some_iff.mp hc
  obtain ⟨⟨n, t⟩, e3, hc⟩ := Option.bind_eq_some_iff.mp hc
  obtain ⟨s₁, e4, hc⟩ := Option.bind_eq_some_iff.mp hc
  obtain ⟨rfl, rfl⟩ : s₀ = r₀ ∧ s₁ = r₁ := by simpa using hc
  rw [impQ_eq] at e1
  rw [runQ_eq] at e4
  have i := impT_of e1
  rw [s0] at i
  have hE := ofL_abs (life := s₀.heap.life) _ _ _ _ _ e3
  have r := runT_of e4
  have hs : (SharedT.mk t n s₀.heap.life s₀.gens s₀.drawn s₀.toks s₀.os).abs = s₀ := by
    unfold SharedT.abs
    dsimp only
    rw [hE]
    obtain ⟨⟨objs, life⟩, g, d, tk, os⟩ := s₀
    simp [absHeap, BT.list]
  rw [hs] at r
  unfold seeQ at h
  simp only [Prod.mk.injEq] at h
  obtain ⟨a1, a2, a3, a4, a5⟩ := h
  unfold openEnds fencedOpening
  rw [i]
  show Option.map _ ((fenceModules? pw sE.abs).bind (topFrom treeTable pw w N)) = _
  rw [e2]
  show Option.map _ (topFrom treeTable pw w N s₀) = _
  unfold topFrom
  rw [a3, a1, a2, r]
  show Option.map _ (match staticsOk (importedModules pw.main.body) s₀.heap s₁.abs.heap && namesBound pw s₁.abs.heap && gensDone s₁.abs && laidKept s₀.heap s₁.abs.heap with | true => some s₁.abs | false => none) = _
  rw [a4]
  exact congrArg some (Prod.ext a5 a6)
def getT (s : SharedT) (a : Addr) : Option Obj := match Nat.blt a s.n with
  | true => (s.tree.get a).bind alive
  | false => none
theorem getT_of {s : SharedT} {a : Addr} {o : Obj} (h : getT s a = some o) : s.abs.heap.get? a = some o := by
  unfold getT at h
  cases hb : Nat.blt a s.n with
  | false => rw [hb] at h; cases h
  | true =>
    rw [hb] at h
    obtain ⟨o', g, ha⟩ := Option.bind_eq_some_iff.mp h
    exact (abs_get (Nat.le_of_ble_eq_true hb) g).trans ha
theorem getTs_of {s : SharedT} : ∀ (as : List Addr) (l : List (Nat × Obj)), as.map (getT s) = l.map (fun p => some p.2) → as.map s.abs.heap.get? = l.map (fun p => some p.2)
  | [], [], _ => rfl
  | [], _ :: _, h => by cases h
  | _ :: _, [], h => by cases h
  | a :: as, p :: l, h => by
    simp only [List.map_cons, List.cons.injEq] at h
    simp only [List.map_cons, List.cons.injEq]
    exact ⟨getT_of h.1, getTs_of as l h.2⟩
theorem hook_of {m₀ : Nat} {ann : Option Value} {N : Nat} {K : Params → Frag} {as : List Addr} {e : ∀ P, as = (K P).map (·.1)} (h : ∀ w, (coreQ m₀ ann N w).map (fun r => as.map (getT r.2)) = some ((K w.params).map fun p => some p.2)) :
    ∀ w, (coreQ m₀ ann N w).map (fun r => (kHook K as e).obs r.2.abs) = some ((kHook K as e).val w) := fun w => by
  obtain ⟨r, hr, hm⟩ := Option.map_eq_some_iff.mp (h w)
  rw [hr]
  exact congrArg some (getTs_of as _ hm)
/-- both looks at the top's run at once: one run in the kernel -/
theorem both_of {m₀ : Nat} {ann : Option Value} {N : Nat} {q : Program} {loose : List Str} {Xt : Shared → Bool} {K : Params → Frag} {as : List Addr} {e : ∀ P, as = (K P).map (·.1)}
    (h : ∀ w, (coreQ m₀ ann N w).map (fun r => (seeQ q loose Xt r, as.map (getT r.2))) = some ((m₀, ann, true, true, openGood q loose), (K w.params).map fun p => some p.2)) :
    LeftO pw q loose Xt (kHook K as e).obs (kHook K as e).val N :=
  left_of (fun w => by
    obtain ⟨r, hr, hm⟩ := Option.map_eq_some_iff.mp (h w)
    rw [hr]
    exact congrArg some (Prod.mk.inj hm).1) (hook_of fun w => by
    obtain ⟨r, hr, hm⟩ := Option.map_eq_some_iff.mp (h w)
    rw [hr]
    exact congrArg some (Prod.mk.inj hm).2)
noncomputable abbrev vw : Program := view pw [0, 1, 3, 6, 7, 8, 9, 10, 11, 12, 13, 15, 16, 17, 18, 19, 20, 22, 25, 26, 27, 28, 29]
abbrev lo : List Str := ["unescape", "UnsupportedOperation", "IOBase", "BufferedIOBase", "TextIOBase", "BytesIO", "StringIO", "shlex", "split"]
end Mine
namespace Mine
open PySem PySem.W PyProof.Rows
set_option maxHeartbeats 0
theorem law_said : (PySem.Challenge.rw_ij0055_01).wellSaid = true := by
  rw [PySem.W.Fast.te9446332074065402090]
  kernel_rfl
theorem whole : PySem.Challenge.rw_ij0055_01.row.prog.tablesWhole = true := by kernel_rfl
theorem looks_ok : (chainsOk vw && opensWell PySem.Challenge.rw_ij0055_01.row.prog && (frees PySem.Challenge.rw_ij0055_01.row.toRowW && PySem.Challenge.rw_ij0055_01.row.toRowW.within.isEmpty)) = true := by kernel_rfl
noncomputable abbrev xt : Shared → Bool := fun s => xlAt vw [] s && recOk (RowW.records PySem.Challenge.rw_ij0055_01.row.toRowW) s
/-- what the walk's head asks of the names -/
theorem names_ok : namesOk vw (looseW vw lo) (namesW vw lo) = true := by kernel_rfl
theorem imports_none : importsNone vw = true := by kernel_rfl
end Mine
end
section
open PySem PySem.W PyProof.Rows
namespace Mine
local macro_rules | `(tactic| o_law) => `(tactic| refine holds_law law_said fun said => ?_)
local macro_rules | `(tactic| o_head $H) => `(tactic| (
  refine holds_open (q := vw) (loose := lo) (Xt := xt) (XP := XL vw []) (Yf := Hook.obs $H) (Ya := Hook.val $H) (YP := Hook.says $H) (N := 6000) ?hl (Hook.of $H) (Hook.keeps $H) (fun s e => xl_of s (Bool.and_eq_true_iff.mp e).1) XL.keeps (by rfl) (by rfl) (by rfl) (fun s e => recFacts_of (Bool.and_eq_true_iff.mp e).2) (by rfl) (by assumption) looks_ok ⟨rfl, rfl, rfl, rfl, rfl, whole⟩ ?hw ?hc
  (case hl => exact both_of (m₀ := 29) (ann := some (.ref 6)) (fun w => by kernel_rfl))))
set_option maxRecDepth 100000 in
set_option maxHeartbeats 0 in
open_top hd for PySem.Challenge.rw_ij0055_01
end Mine
end
section
open PySem PySem.W PyProof.Rows
namespace Mine
theorem ite_ff {P Q : Prop} (h : Q) : if false = true then P else Q := h
theorem ite_tt {P Q : Prop} (h : P) : if true = true then P else Q := h
abbrev PR : Program := PySem.Challenge.rw_ij0055_01.row.prog
abbrev News' := List (Addr × Obj)
/-- what a call of the def at f gives: from a ledger to a ledger -/
abbrev Ctr (w : World) (p : Program) (loose : List Str) (mean : ExcName → Option Value) (mg mb : Str → Option Value) (f : Value) (vs : List Value) (kw : List (Str × Value)) (news : News') (dN uN : Nat) (post : Value → News' → Prop) : Prop :=
  ∀ (dp un : Nat) (gd : Option (List Code)) (cn : Str) (cs : Scope) (a : Addr) (ccd : Value) (cl : List (Str × Addr)) (outer : List Env) (A₀ : Around) (base h₀ : Heap) (L : Addr) (m : Str → Option Value) (s : Shared) (Q E : Value → Shared → Prop),
    Below A₀ base outer h₀ → Fr h₀ L s.heap m → (hd.heap_1 w.params).In h₀ → News h₀ L s.heap news → Top p loose mean mg mb h₀ → cs.kind = .function →
    dp + dN < recursionLimit → un + uN < cLine →
    (∀ (r : Value) (news' : News') (h' : Heap) (tk' : Nat), Fr h₀ L h' m → News h₀ L h' news' → post r news' → Q r { s with heap := h', toks := tk' }) →
    wpAny (model PR w) (ktrTop dp un gd cn cs L a ccd cl outer) (call f vs kw) Q E s
end Mine
namespace Mine
theorem ctr_use {w : World} {p : Program} {loose : List Str} {mean : ExcName → Option Value} {mg mb : Str → Option Value} {f : Value} {vs : List Value} {kw : List (Str × Value)} {news : News'} {dN uN : Nat} {post : Value → News' → Prop}
    (C : Ctr w p loose mean mg mb f vs kw news dN uN post)
    {dp un : Nat} {gd : Option (List Code)} {cn : Str} {cs : Scope} {a : Addr} {ccd : Value} {cl : List (Str × Addr)} {outer : List Env} {A₀ : Around} {base h₀ : Heap} {L : Addr} {m : Str → Option Value} {s : Shared} {Q E : Value → Shared → Prop}
    (B : Below A₀ base outer h₀) (F : Fr h₀ L s.heap m) (X : (hd.heap_1 w.params).In h₀) (N : News h₀ L s.heap news) (T : Top p loose mean mg mb h₀) (hk : cs.kind = .function)
    (hd : dp + dN < recursionLimit) (hu : un + uN < cLine)
    (ret : ∀ (r : Value) (news' : News') (h' : Heap) (tk' : Nat), Fr h₀ L h' m → News h₀ L h' news' → post r news' → Q r { s with heap := h', toks := tk' }) :
    wpAny (model PR w) (ktrTop dp un gd cn cs L a ccd cl outer) (call f vs kw) Q E s :=
  C _ _ _ _ _ _ _ _ _ _ _ _ _ _ _ _ _ B F X N T hk hd hu ret
/-- a list of one statement: nothing is laid about what comes behind -/
theorem execs_one {M : Model} {A : Around} {st : Stmt} {env : Env} {Q : Flow → Shared → Prop} {E : Value → Shared → Prop} {s : Shared} (h : wpAny M A (exec st env) Q E s) : wpAny M A (execs [st] env) Q E s :=
  wpAny_execs_cons (wpAny_mono h (fun f s' hq => by cases f <;> first | exact hq | exact wpAny_execs_nil hq) fun _ _ e => e)
abbrev sioD (h1 h2 h3 : Int) (t1 t2 t3 u1 u2 u3 : Tok) (b : Str) (p : Int) : Obj :=
  dictOf [⟨h1, .str (Str.ofString "_StringIO__newline") t1, .str (Str.ofString "\n") u1⟩, ⟨h2, .str (Str.ofString "_StringIO__buf") t2, .str b u2⟩, ⟨h3, .str (Str.ofString "_StringIO__pos") t3, .int p u3⟩] 3
end Mine
end
section
open PySem PySem.W PyProof.Rows PySem.Calls
set_option maxRecDepth 100000
namespace Mine
abbrev dqObj (n : Int) (items : List Value) : Obj := { cls := .type "collections.deque", data := .fields ((.none :: rawInt n :: items).toArray) }
theorem dq_attrs : PlainAttrs "collections.deque" where
  ga := ⟨"collections.deque.__getattribute__", by rw [typeLookup_type, builtinLookup_eq_fast]; kernel_rfl, by decide +kernel⟩
  noGetattr := by rw [typeLookup_type, builtinLookup_eq_fast]; kernel_rfl
theorem dq_slot_pop : Slot "collections.deque" "popleft" "collections.deque.popleft" :=
  Slot.of (owner := "collections.deque") (n := "popleft") (by rw [typeLookup_type, builtinLookup_eq_fast]; kernel_rfl) (by decide +kernel) (by decide +kernel) (by decide +kernel) (.inr (by decide +kernel)) (by rw [isSubtype_type]; kernel_rfl)
theorem dq_slot_app : Slot "collections.deque" "appendleft" "collections.deque.appendleft" :=
  Slot.of (owner := "collections.deque") (n := "appendleft") (by rw [typeLookup_type, builtinLookup_eq_fast]; kernel_rfl) (by decide +kernel) (by decide +kernel) (by decide +kernel) (.inr (by decide +kernel)) (by rw [isSubtype_type]; kernel_rfl)
theorem dq_slot_len : Slot "collections.deque" "__len__" "collections.deque.__len__" :=
  Slot.of (owner := "collections.deque") (n := "__len__") (by rw [typeLookup_type, builtinLookup_eq_fast]; kernel_rfl) (by decide +kernel) (by decide +kernel) (by decide +kernel) (.inl (by decide +kernel)) (by rw [isSubtype_type]; kernel_rfl)
theorem dq_slot_init : Slot "collections.deque" "__init__" "collections.deque.__init__" :=
  Slot.of (owner := "collections.deque") (n := "__init__") (by rw [typeLookup_type, builtinLookup_eq_fast]; kernel_rfl) (by decide +kernel) (by decide +kernel) (by decide +kernel) (.inl (by decide +kernel)) (by rw [isSubtype_type]; kernel_rfl)
theorem dq_ty_pop : typeOf (.builtin "collections.deque.popleft") = pure (.type "method_descriptor") := by kernel_rfl
theorem dq_ty_app : typeOf (.builtin "collections.deque.appendleft") = pure (.type "method_descriptor") := by kernel_rfl
theorem dq_e_pop : entryFor table "collections.deque.popleft" = some Builtin.«collections.deque.popleft» := entryFor_of_tree (by kernel_rfl)
theorem dq_e_app : entryFor table "collections.deque.appendleft" = some Builtin.«collections.deque.appendleft» := entryFor_of_tree (by kernel_rfl)
theorem dq_e_len : entryFor table "collections.deque.__len__" = some Builtin.«collections.deque.__len__» := entryFor_of_tree (by kernel_rfl)
theorem dq_e_init : entryFor table "collections.deque.__init__" = some Builtin.«collections.deque.__init__» := entryFor_of_tree (by kernel_rfl)
theorem dq_e_new : entryFor table "collections.deque.__new__" = some Builtin.«collections.deque.__new__» := entryFor_of_tree (by kernel_rfl)
section
variable {prog : Program} {w : World} {A : Around} {E : Value → Shared → Prop} {s : Shared} {L D : Addr} {h₀ : Heap} {m : Str → Option Value} {news news' : List (Addr × Obj)}
theorem dq_get {name : Str} {id : String} {pl : Sem Bool} {n : Int} {items : List Value} {Q : Value × List Value → Shared → Prop} (slot : Slot "collections.deque" name id) (hty : typeOf (.builtin id) = pure (.type "method_descriptor"))
    (N : News h₀ L s.heap news) (hm : (D, dqObj n items) ∈ news) (h : Q (.builtin id, [.ref D]) s) : wpAny (model prog w) A (getMethod (.ref D) name pl) Q E s :=
  getMethod_builtin ⟨_, (N _ hm).1, rfl⟩ dq_attrs slot hty (fun a e => by cases e; exact ⟨_, (N _ hm).1, rfl⟩) h
theorem dq_items {M : Model} {n : Int} {items : List Value} {Q : Array Value → Shared → Prop} (ho : s.heap.get? D = some (dqObj n items)) (h : Q items.toArray s) : wpAny M A (Builtin.Deque.items (.ref D)) Q E s := by
  unfold Builtin.Deque.items fieldsOf
  refine wpAny_bind (wpAny_bind (wpAny_load ho ?_))
  refine wpAny_pure (wpAny_pure ?_)
  have : ((Value.none :: rawInt n :: items).toArray).extract 2 ((Value.none :: rawInt n :: items).toArray).size = items.toArray := by simp
  rw [this]; exact h
theorem dq_size {M : Model} {n : Int} {items : List Value} {Q : Nat → Shared → Prop} (ho : s.heap.get? D = some (dqObj n items)) (h : Q items.length s) : wpAny M A (Builtin.Deque.size (.ref D)) Q E s := by
  unfold Builtin.Deque.size fieldsOf
  refine wpAny_bind (wpAny_bind (wpAny_load ho ?_))
  refine wpAny_pure (wpAny_pure ?_)
  simpa using h
theorem dq_field {M : Model} {n : Int} {items : List Value} {i : Nat} {v : Value} {Q : Value → Shared → Prop} (ho : s.heap.get? D = some (dqObj n items)) (e : ((Value.none :: rawInt n :: items).toArray)[i]? = some v) (h : Q v s) : wpAny M A (field (.ref D) i) Q E s := by
  unfold field fieldsOf
  refine wpAny_bind (wpAny_bind (wpAny_load ho (wpAny_pure ?_)))
  rw [e]; exact wpAny_pure h
theorem dq_maxlen {M : Model} {n : Int} {items : List Value} {Q : Option Nat → Shared → Prop} (ho : s.heap.get? D = some (dqObj n items)) (h : Q none s) : wpAny M A (Builtin.Deque.maxlen (.ref D)) Q E s := by
  unfold Builtin.Deque.maxlen
  exact wpAny_bind (dq_field ho (v := .none) rfl (wpAny_pure h))
theorem dq_change {M : Model} {n : Int} {items its' : List Value} {f : Array Value → Array Value} {Q : Unit → Shared → Prop} (ho : s.heap.get? D = some (dqObj n items)) (hf : f items.toArray = its'.toArray) (hz : its'.length ≤ 1000)
    (h : ∀ h', Heap.SameBut D s.heap h' → h'.get? D = some (dqObj (n + 1) its') → Q () { s with heap := h' }) : wpAny M A (Builtin.Deque.change (.ref D) f) Q E s := by
  unfold Builtin.Deque.change Builtin.Deque.state
  have hx : #[((Value.none :: rawInt n :: items).toArray).getD 0 .none, rawInt (n + 1)] ++ f (((Value.none :: rawInt n :: items).toArray).extract 2 ((Value.none :: rawInt n :: items).toArray).size) = (Value.none :: rawInt (n + 1) :: its').toArray := by
    have : ((Value.none :: rawInt n :: items).toArray).extract 2 ((Value.none :: rawInt n :: items).toArray).size = items.toArray := by simp
    rw [this, hf]; simp
  refine wpAny_bind (wpAny_bind (dq_field ho (v := rawInt n) rfl ?_))
  refine wpAny_pure (wpAny_updateFields ho rfl (h _ (Heap.SameBut.update ..) ?_) ?_)
  · rw [Heap.get?_update_self _ ho rfl]
    exact congrArg (fun x => some ({ cls := .type "collections.deque", data := .fields x } : Obj)) hx
  · show (#[((Value.none :: rawInt n :: items).toArray).getD 0 .none, rawInt (n + 1)] ++ f (((Value.none :: rawInt n :: items).toArray).extract 2 ((Value.none :: rawInt n :: items).toArray).size)).size ≤ _
    rw [hx]; simp only [List.size_toArray, List.length_cons, sizeLine]; omega
theorem dq_appendleft {n : Int} {items : List Value} {x : Value} {Q : Value → Shared → Prop} (F : Fr h₀ L s.heap m) (N : News h₀ L s.heap news) (U : Upd D (dqObj n items) (dqObj (n + 1) (x :: items)) news news') (hz : items.length ≤ 900)
    (h : ∀ h', Fr h₀ L h' m → News h₀ L h' news' → Q .none { s with heap := h' }) : wpAny (model prog w) A (call (.builtin "collections.deque.appendleft") [.ref D, x]) Q E s := by
  obtain ⟨pre, post, rfl, rfl, a, b⟩ := U.split
  have z := N (D, dqObj n items) (List.mem_append.mpr (.inr (.head _)))
  refine wpAny_call_entry dq_slot_app ⟨_, z.1, rfl⟩ dq_e_app ?_ (by unfold argsOk; kernel_rfl)
  unfold Builtin.«collections.deque.appendleft»
  refine wpAny_bind (wpAny_pure ?_)
  dsimp only
  unfold Builtin.Deque.pushLeft
  refine wpAny_bind (wpAny_bind (dq_change (its' := x :: items) z.1 (by simp) (by simp only [List.length_cons]; omega) fun h' hs ho' => ?_))
  refine wpAny_bind (dq_maxlen ho' (wpAny_pure (wpAny_pure ⟨_, rfl, ?_⟩)))
  exact h h' (F.change hs z.2.1 z.2.2) (news_set N a b hs ho')
theorem dq_popleft {n : Int} {items : List Value} {x : Value} {Q : Value → Shared → Prop} (F : Fr h₀ L s.heap m) (N : News h₀ L s.heap news) (U : Upd D (dqObj n (x :: items)) (dqObj (n + 1) items) news news') (hz : items.length ≤ 900)
    (h : ∀ h', Fr h₀ L h' m → News h₀ L h' news' → Q x { s with heap := h' }) : wpAny (model prog w) A (call (.builtin "collections.deque.popleft") [.ref D]) Q E s := by
  obtain ⟨pre, post, rfl, rfl, a, b⟩ := U.split
  have z := N (D, dqObj n (x :: items)) (List.mem_append.mpr (.inr (.head _)))
  refine wpAny_call_entry dq_slot_pop ⟨_, z.1, rfl⟩ dq_e_pop ?_ (by unfold argsOk; kernel_rfl)
  unfold Builtin.«collections.deque.popleft»
  refine wpAny_bind (wpAny_pure ?_)
  refine wpAny_bind (dq_items z.1 ?_)
  show wpAny _ _ (Builtin.Deque.change (.ref D) (·.eraseIdxIfInBounds 0) >>= fun _ => ret x) _ _ _
  refine wpAny_bind (dq_change (its' := items) z.1 (by simp) (by omega) fun h' hs ho' => ?_)
  exact wpAny_pure ⟨_, rfl, h h' (F.change hs z.2.1 z.2.2) (news_set N a b hs ho')⟩
theorem dq_noBool : typeLookup (.type "collections.deque") "__bool__" = pure none := by rw [typeLookup_type, builtinLookup_eq_fast]; kernel_rfl
theorem dq_len_body {n : Int} {items : List Value} {Q : Value → Shared → Prop} (ho : s.heap.get? D = some (dqObj n items)) (hz : items.length ≤ 1000)
    (h : Q (.int items.length (s.toks + 1)) { s with toks := s.toks + 1 + 1 }) : wpAny (model prog w) A (Builtin.«len» ⟨[.ref D], []⟩) (fun fin s' => ∃ r, fin = .done (.ret r) ∧ Q r s') E s := by
  have hT : s.TypeIs (.ref D) "collections.deque" := ⟨_, ho, rfl⟩
  unfold Builtin.«len»
  refine wpAny_bind (m := oneArg "len" _) (wpAny_pure ?_)
  refine wpAny_bind (m := callSpecial? (.ref D) (Str.ofString "__len__")) (wpAny_callSpecial?_slot (name := Str.ofString "__len__") hT dq_slot_len
    (wpAny_call_entry dq_slot_len hT dq_e_len ?_ (by unfold argsOk; kernel_rfl)))
  unfold Builtin.«collections.deque.__len__»
  refine wpAny_bind (wpAny_pure ?_)
  refine wpAny_bind (dq_size ho ?_)
  refine wpAny_bind (wpAny_mkInt (wpAny_pure ⟨_, rfl, ?_⟩))
  refine wpAny_bind (wpAny_holding (wpAny_pure ?_))
  refine wpAny_bind (wpAny_letGo ?_)
  show wpAny _ _ (if ((items.length : Nat) : Int) < 0 then _ else _) _ _ _
  rw [if_neg (by omega)]
  show wpAny _ _ (if ((items.length : Nat) : Int) ≥ 2 ^ 63 then _ else _) _ _ _
  rw [if_neg (by omega)]
  exact wpAny_bind (wpAny_mkInt (wpAny_pure ⟨_, rfl, h⟩))
theorem dq_truthy {n : Int} {items : List Value} {Q : Bool → Shared → Prop} (N : News h₀ L s.heap news) (hm : (D, dqObj n items) ∈ news) (hz : items.length ≤ 1000)
    (h : Q (!items.isEmpty) { s with toks := s.toks + 1 + 1 }) : wpAny (model prog w) A (truthy (.ref D)) Q E s := by
  have ho := (N _ hm).1
  have hT : s.TypeIs (.ref D) "collections.deque" := ⟨_, ho, rfl⟩
  have hne : ((items.length : Int) != 0) = !items.isEmpty := by
    cases items with
    | nil => rfl
    | cons a l =>
      have h1 : (((a :: l).length : Int) != 0) = true := bne_iff_ne.mpr (by simp only [List.length_cons]; omega)
      rw [h1]; rfl
  have key : wpAny (model prog w) A (runValue (.builtin "len" ⟨[.ref D], []⟩)) (fun r s' => r = .int items.length (s.toks + 1) ∧ Q (!items.isEmpty) s') E s := by
    refine wpAny_runValue (codeAny_builtin entry_len ?_)
    rw [Around.under_plainId plain_len _]
    exact wpAny_mono (dq_len_body (Q := fun r s' => r = .int items.length (s.toks + 1) ∧ Q (!items.isEmpty) s') ho hz ⟨rfl, h⟩)
      (fun fin s' h' => by obtain ⟨r, rfl, hq⟩ := h'; exact hq) fun _ _ e => e
  unfold truthy
  first
    | refine wpAny_bind (wpAny_callSpecial?_none (name := Str.ofString "__bool__") hT dq_noBool ?_)
    | refine wpAny_bind (wpAny_pure (wpAny_bind (wpAny_callSpecial?_none (name := Str.ofString "__bool__") hT dq_noBool ?_)))
  first
    | refine wpAny_bind (wpAny_specialOf (name := Str.ofString "__len__") hT dq_slot_len.lookup ?_)
    | refine wpAny_bind (wpAny_pure (wpAny_bind (wpAny_specialOf (name := Str.ofString "__len__") hT dq_slot_len.lookup ?_)))
  first
    | exact wpAny_bind (wpAny_mono key (fun r s' h' => by obtain ⟨rfl, hq⟩ := h'; exact wpAny_pure (hne ▸ hq)) fun _ _ e => e)
theorem dq_mro : mroOf (.type "collections.deque") = pure [.type "collections.deque", .type "object"] := by rw [mroOf_type]; kernel_rfl
theorem dq_lookup_new : typeLookup (.type "collections.deque") "__new__" = pure (some (.builtin "collections.deque.__new__")) := by rw [typeLookup_type, builtinLookup_eq_fast]; kernel_rfl
theorem dq_called : TypeCalled "collections.deque" "collections.deque.__new__" "collections.deque.__init__" :=
  ⟨by decide +kernel, by decide +kernel, ⟨_, _, dq_mro⟩, madeBy_type dq_mro dq_lookup_new (by decide +kernel), by decide +kernel, by rw [isSubtype_type]; kernel_rfl, dq_slot_init⟩
theorem dq_tc : checkTypeCall "collections.deque" ⟨[], []⟩ = pure () := by kernel_rfl
theorem dq_nc : checkBuiltinCall "collections.deque.__new__" ⟨[.type "collections.deque"], []⟩ = pure () := by kernel_rfl
theorem dq_pn : plainId "collections.deque.__new__" = true := by decide +kernel
theorem dq_sub : isSubtype (.type "collections.deque") (.type "collections.deque") = pure true := by rw [isSubtype_type]; kernel_rfl
theorem dq_newArgs : Builtin.Deque.newArgs "collections.deque" ⟨[.type "collections.deque"], []⟩ = pure (.type "collections.deque", []) := by
  simp only [Builtin.Deque.newArgs]
  rw [dq_sub]
  rfl
theorem dq_newIs : Builtin.Deque.new (.type "collections.deque") #[] none = (alloc (dqObj 0 []) >>= fun a => pure (.ref a)) := by kernel_rfl
theorem dq_new_is : Builtin.«collections.deque.__new__» ⟨[.type "collections.deque"], []⟩ = (alloc (dqObj 0 []) >>= fun a => ret (.ref a)) := by
  unfold Builtin.«collections.deque.__new__»
  show (Builtin.Deque.newArgs "collections.deque" ⟨[.type "collections.deque"], []⟩ >>= _) = _
  rw [dq_newArgs]
  show (Builtin.Deque.new (.type "collections.deque") #[] none >>= _) = _
  rw [dq_newIs]
  rfl
theorem dq_code_new {Q₁ : Value → Shared → Prop} (h : Q₁ (.ref s.heap.objs.size) { s with heap := s.heap.push (dqObj 0 []) }) :
    codeAny (model prog w) A (.call (.builtin "collections.deque.__new__") ⟨[.type "collections.deque"], []⟩) (wants Q₁ E) s := by
  refine codeAny_call_builtin dq_pn dq_e_new ?_
  refine wpAny_of_eq dq_nc ?_
  rw [dq_new_is]
  exact wpAny_bind (wpAny_alloc (wpAny_pure h))
theorem dq_init_is (D : Addr) : Builtin.«collections.deque.__init__» ⟨[.ref D], []⟩ = (setField (.ref D) 0 .none >>= fun _ => Builtin.Deque.clear (.ref D) >>= fun _ => ret .none) := by kernel_rfl
theorem dq_call {Q : Value → Shared → Prop} (F : Fr h₀ L s.heap m) (N : News h₀ L s.heap news)
    (h : ∀ l h', Fr h₀ L h' m → News h₀ L h' ((l, dqObj 0 []) :: news) → (∀ p ∈ news, p.1 < l) → Q (.ref l) { s with heap := h' }) : wpAny (model prog w) A (call (.type "collections.deque") []) Q E s := by
  refine callType_codes (Q₁ := fun obj s₁ => obj = .ref s.heap.objs.size ∧ s₁ = { s with heap := s.heap.push (dqObj 0 []) }) dq_called dq_tc dq_e_init (dq_code_new ⟨rfl, rfl⟩) ?_
  rintro obj s₁ ⟨rfl, rfl⟩
  have N1 := News.push F N (dqObj 0 [])
  have F1 := F.push (dqObj 0 [])
  have ho : (s.heap.push (dqObj 0 [])).get? s.heap.objs.size = some (dqObj 0 []) := (N1 _ (.head _)).1
  refine ⟨⟨_, ho, rfl⟩, (by unfold argsOk; kernel_rfl), ?_⟩
  rw [dq_init_is]
  refine wpAny_bind (wpAny_setField_rec ho (by decide) fun h' ho' hs => ?_)
  unfold Builtin.Deque.clear
  refine wpAny_bind (wpAny_bind (dq_items (n := 0) (items := []) ho' ?_))
  refine wpAny_pure (wpAny_pure ?_)
  exact ⟨rfl, h _ h' (F1.change hs (N1 _ (.head _)).2.1 (N1 _ (.head _)).2.2) (N1.setHead N.apart hs ho') (fun p hp => Heap.lt_size (N p hp).1)⟩
end
end Mine
end
section
open PySem PySem.W PyProof.Rows PySem.StrLaws
namespace Mine
theorem slice_text (x : Str) (l u : Option Int) : Txt.slice x l u = sliceText x l u := rfl
theorem cut_last (c d : Nat) : Txt.slice ⟨#[c, d]⟩ none (some (-1)) = ⟨#[c]⟩ := by
  unfold Txt.slice
  have e : Builtin.Str.strSliceIndices none (some (-1)) 1 (Str.mk #[c, d]).length = [0] := by show Builtin.Str.strSliceIndices none (some (-1)) 1 2 = [0]; decide
  rw [e]
  rfl
theorem chr_at {b : Str} {l : List Nat} {p : Nat} {c : Nat} {r : List Nat} (hb : b = ⟨l.toArray⟩) (h : l.drop p = c :: r) :
    Txt.slice (Txt.slice b (some (p : Int)) (some ((p : Int) + 1)) ++ Str.ofString " ") none (some (-1)) = ⟨#[c]⟩ := by
  have hlt : p < l.length := by
    apply Nat.lt_of_not_le
    intro hle
    rw [List.drop_eq_nil_of_le hle] at h
    cases h
  have e : Txt.slice b (some (p : Int)) (some ((p : Int) + 1)) = ⟨#[c]⟩ := by
    rw [slice_text, hb]
    have := sliceText_nat (⟨l.toArray⟩ : Str) (a := p) (b := p + 1) (Nat.le_succ p) (by show p + 1 ≤ l.toArray.size; rw [List.size_toArray]; exact hlt)
    rw [Int.natCast_add] at this
    refine this.trans ?_
    show (⟨((l.drop p).take (p + 1 - p)).toArray⟩ : Str) = _
    rw [h, Nat.add_sub_cancel_left]
    rfl
  rw [e]
  show Txt.slice (⟨#[c] ++ (Str.ofString " ").cps⟩ : Str) none (some (-1)) = _
  rw [show (Str.ofString " ").cps = #[32] from by decide +kernel]
  exact cut_last c 32
theorem len_at {b : Str} {l : List Nat} {p : Nat} {c : Nat} {r : List Nat} (hb : b = ⟨l.toArray⟩) (h : l.drop p = c :: r) : (p : Int) < (b.length : Int) ∧ ((b.length : Nat) = l.length) := by
  have hlt : p < l.length := by
    apply Nat.lt_of_not_le
    intro hle
    rw [List.drop_eq_nil_of_le hle] at h
    cases h
  have : b.length = l.length := by rw [hb]; show l.toArray.size = _; simp
  omega
end Mine
end
section
open PySem PySem.W PyProof.Rows
namespace Mine
/-- the signs that the law's words bear -/
def okC : List Nat := [38, 101, 48, 49, 50, 59, 60, 97, 109, 112, 108, 116]
def Okr (l : List Nat) : Prop := (∀ c ∈ l, c = 32 ∨ c ∈ okC) ∧ (l ≠ [] → l.getLast? = some 32)
/-- the answer of a reading: the word and the place behind it; none at the end -/
inductive Res where
  | end_ (p : Nat)
  | word (x : List Nat) (p : Nat)
def wordS : List Nat → List Nat → Nat → Res
  | w, [], p => .word w p
  | w, c :: r, p => if c = 32 then .word w (p + 1) else wordS (w ++ [c]) r (p + 1)
def skipS : List Nat → Nat → Res
  | [], p => .end_ p
  | c :: r, p => if c = 32 then skipS r (p + 1) else wordS [c] r (p + 1)
theorem okr_tail {c : Nat} {r : List Nat} (h : Okr (c :: r)) (_hr : c ≠ 32 ∨ True) : Okr r := by
  refine ⟨fun d hd => h.1 d (List.mem_cons_of_mem _ hd), fun hne => ?_⟩
  have := h.2 (by simp)
  cases r with
  | nil => exact absurd rfl hne
  | cons d r => simpa using this
theorem okr_more {c : Nat} {r : List Nat} (h : Okr (c :: r)) (hc : c ≠ 32) : r ≠ [] := by
  intro e
  subst e
  have := h.2 (by simp)
  simp at this
  exact hc this
theorem drop_tail {l : List Nat} {p c : Nat} {r : List Nat} (h : l.drop p = c :: r) : l.drop (p + 1) = r := by
  rw [← List.drop_drop, h]; rfl
end Mine
end
section
open PySem PySem.W PyProof.Rows PySem.Calls
namespace Mine
theorem frame_none {m : Str → Option Value} {x : Str} (h : m x = none) : m = fun y => if y = x then none else m y := by
  funext y
  split
  · rename_i e; rw [e, h]
  · rfl
theorem frame_put {m : Str → Option Value} {x : Str} {u v : Option Value} : (fun y => if y = x then v else (fun z => if z = x then u else m z) y) = fun y => if y = x then v else m y := by
  funext y
  dsimp only
  split <;> rfl
def Held (P : Prop) : Prop := P
theorem Held.out {P : Prop} (h : P) : Held P := h
theorem Held.into {P : Prop} (h : Held P) : P := h
section
variable {prog : Program} {w : World} {A : Around} {E : Value → Shared → Prop} {s : Shared} {env : Env} {test : PySem.Expr} {body orelse : List Stmt} {Q : Flow → Shared → Prop} {h₀ : Heap} {L : Addr}
/-- behind a turn of a while: the word at a lower measure -/
def WPost (h₀ : Heap) (L : Addr) (I : Nat → (Str → Option Value) → List (Addr × Obj) → Prop) (n : Nat) (s : Shared) (Q : Flow → Shared → Prop) (f : Flow) (s₂ : Shared) : Prop := match f with
  | .next => ∃ n' m' news' h' tk', n' < n ∧ s₂ = { s with heap := h', toks := tk' } ∧ Fr h₀ L h' m' ∧ News h₀ L h' news' ∧ I n' m' news'
  | .cont => ∃ n' m' news' h' tk', n' < n ∧ s₂ = { s with heap := h', toks := tk' } ∧ Fr h₀ L h' m' ∧ News h₀ L h' news' ∧ I n' m' news'
  | .brk => Q .next s₂
  | .ret v => Q (.ret v) s₂
theorem WPost.brk {h₀ : Heap} {L : Addr} {I : Nat → (Str → Option Value) → List (Addr × Obj) → Prop} {n : Nat} {s s₂ : Shared} {Q : Flow → Shared → Prop} (h : Q .next s₂) : WPost h₀ L I n s Q .brk s₂ := h
theorem WPost.ret {h₀ : Heap} {L : Addr} {I : Nat → (Str → Option Value) → List (Addr × Obj) → Prop} {n : Nat} {s s₂ : Shared} {Q : Flow → Shared → Prop} {v : Value} (h : Q (.ret v) s₂) : WPost h₀ L I n s Q (.ret v) s₂ := h
theorem while_word (I : Nat → (Str → Option Value) → List (Addr × Obj) → Prop) (hE : PassesOwn (model prog w) A env E)
    (turn : ∀ n m news h tk, I n m news → Fr h₀ L h m → News h₀ L h news →
      wpAny (model prog w) A (isTrue test env (eval test env)) (fun b s₂ => WhlIf b (wpAny (model prog w) A (execs body env) (WPost h₀ L I n s Q) E s₂) (wpAny (model prog w) A (execs orelse env) Q E s₂)) E { s with heap := h, toks := tk }) :
    ∀ n m news h tk, I n m news → Fr h₀ L h m → News h₀ L h news → WhlRest prog w A E env test body orelse Q 0 { s with heap := h, toks := tk } := by
  intro n
  induction n using Nat.strongRecOn with
  | _ n ih =>
    intro m news h tk hI F N
    have T := turn n m news h tk hI F N
    refine whl_turn (k := 0) hE (wpAny_mono T (fun b s₂ hb => ?_) fun _ _ e => e)
    cases b with
    | false =>
      unfold WhlIf at hb ⊢
      simpa using hb
    | true =>
      unfold WhlIf at hb ⊢
      simp only [if_true] at hb ⊢
      refine wpAny_mono hb (fun f s₃ hf => ?_) fun _ _ e => e
      cases f with
      | next =>
        obtain ⟨n', m', news', h', tk', hlt, rfl, F', N', hI'⟩ := hf
        exact ih n' hlt m' news' h' tk' hI' F' N'
      | cont =>
        obtain ⟨n', m', news', h', tk', hlt, rfl, F', N', hI'⟩ := hf
        exact ih n' hlt m' news' h' tk' hI' F' N'
      | brk => exact hf
      | ret v => exact hf
theorem while_start {pos : Pos} (I : Nat → (Str → Option Value) → List (Addr × Obj) → Prop) (hE : PassesOwn (model prog w) A env E) {n : Nat} {m : Str → Option Value} {news : List (Addr × Obj)} (hI : I n m news) (F : Fr h₀ L s.heap m) (N : News h₀ L s.heap news)
    (turn : Held (∀ n m news h tk, I n m news → Fr h₀ L h m → News h₀ L h news →
      wpAny (model prog w) A (isTrue test env (eval test env)) (fun b s₂ => WhlIf b (wpAny (model prog w) A (execs body env) (WPost h₀ L I n s Q) E s₂) (wpAny (model prog w) A (execs orelse env) Q E s₂)) E { s with heap := h, toks := tk })) :
    wpAny (model prog w) A (exec (.While test body orelse pos) env) Q E s :=
  wpAny_While (while_word (s := s) I hE turn n m news s.heap s.toks hI F N)
end
end Mine
end
section
open PySem PySem.W PyProof.Rows
namespace Mine
abbrev wcs : Str := Str.ofString "abcdfeghijklmnopqrstuvwxyzABCDEFGHIJKLMNOPQRSTUVWXYZ0123456789_" ++ Str.ofString "ßàáâãäåæçèéêëìíîïðñòóôõöøùúûüýþÿÀÁÂÃÄÅÆÇÈÉÊËÌÍÎÏÐÑÒÓÔÕÖØÙÚÛÜÝÞ"
/-- the dict of a lexer: key tokens ks, value tokens vs, signs of remark cm -/
abbrev lexD (P : Params) (ks vs : Nat → Tok) (cm : Str) (ws : Bool) (pb fs : Addr) (vin vfile vst vln vtok : Value) : Obj := dictOf [
  ⟨PyData.keyHash P (Str.ofString "instream"), .str (Str.ofString "instream") (ks 0), vin⟩,
  ⟨PyData.keyHash P (Str.ofString "infile"), .str (Str.ofString "infile") (ks 1), vfile⟩,
  ⟨PyData.keyHash P (Str.ofString "posix"), .str (Str.ofString "posix") (ks 2), .bool true⟩,
  ⟨PyData.keyHash P (Str.ofString "eof"), .str (Str.ofString "eof") (ks 3), .none⟩,
  ⟨PyData.keyHash P (Str.ofString "commenters"), .str (Str.ofString "commenters") (ks 4), .str cm (vs 4)⟩,
  ⟨PyData.keyHash P (Str.ofString "wordchars"), .str (Str.ofString "wordchars") (ks 5), .str wcs (vs 5)⟩,
  ⟨PyData.keyHash P (Str.ofString "whitespace"), .str (Str.ofString "whitespace") (ks 6), .str (Str.ofString " \t\r\n") (vs 6)⟩,
  ⟨PyData.keyHash P (Str.ofString "whitespace_split"), .str (Str.ofString "whitespace_split") (ks 7), .bool ws⟩,
  ⟨PyData.keyHash P (Str.ofString "quotes"), .str (Str.ofString "quotes") (ks 8), .str (Str.ofString "'\"") (vs 8)⟩,
  ⟨PyData.keyHash P (Str.ofString "escape"), .str (Str.ofString "escape") (ks 9), .str (Str.ofString "\\") (vs 9)⟩,
  ⟨PyData.keyHash P (Str.ofString "escapedquotes"), .str (Str.ofString "escapedquotes") (ks 10), .str (Str.ofString "\"") (vs 10)⟩,
  ⟨PyData.keyHash P (Str.ofString "state"), .str (Str.ofString "state") (ks 11), vst⟩,
  ⟨PyData.keyHash P (Str.ofString "pushback"), .str (Str.ofString "pushback") (ks 12), .ref pb⟩,
  ⟨PyData.keyHash P (Str.ofString "lineno"), .str (Str.ofString "lineno") (ks 13), vln⟩,
  ⟨PyData.keyHash P (Str.ofString "debug"), .str (Str.ofString "debug") (ks 14), .int 0 (vs 14)⟩,
  ⟨PyData.keyHash P (Str.ofString "token"), .str (Str.ofString "token") (ks 15), vtok⟩,
  ⟨PyData.keyHash P (Str.ofString "filestack"), .str (Str.ofString "filestack") (ks 16), .ref fs⟩,
  ⟨PyData.keyHash P (Str.ofString "source"), .str (Str.ofString "source") (ks 17), .none⟩,
  ⟨PyData.keyHash P (Str.ofString "_punctuation_chars"), .str (Str.ofString "_punctuation_chars") (ks 18), .str (Str.ofString "") (vs 18)⟩] 19
end Mine
end
section
open PySem PySem.W PyProof.Rows PySem.Calls
namespace Mine
/-- y stands in x -/
@[irreducible] def has (x y : Str) : Bool := !(Builtin.Str.occurrences x y 0 x.length 1).isEmpty
section
variable {prog : Program} {w : World} {A : Around} {E : Value → Shared → Prop} {s : Shared} {x y : Str} {t u : Tok} {b : Bool} {Q : Value → Shared → Prop}
theorem in_has (e : has x y = b) (h : Q (.bool b) s) : wpAny (model prog w) A (compareOp .In (.str y u) (.str x t)) Q E s := by
  refine PyProof.Rows.in_str ?_
  unfold has at e
  rw [e]; exact h
theorem notin_has (e : has x y = b) (h : Q (.bool (!b)) s) : wpAny (model prog w) A (compareOp .NotIn (.str y u) (.str x t)) Q E s := by
  refine PyProof.Rows.notIn_str ?_
  unfold has at e
  rw [e]; exact h
theorem eq_b (e : (x == y) = b) (h : Q (.bool b) s) : wpAny (model prog w) A (compareOp .Eq (.str x u) (.str y t)) Q E s := by
  refine eq_str ?_
  rw [e]; exact h
end
/-- x is not empty -/
@[irreducible] def full (x : Str) : Bool := ((x.length : Int) != 0)
theorem full_one (c : Nat) : full ⟨#[c]⟩ = true := by unfold full; rfl
theorem full_list {l : List Nat} (h : l ≠ []) : full ⟨l.toArray⟩ = true := by
  unfold full
  have : (⟨l.toArray⟩ : Str).length = l.length := List.size_toArray
  rw [this]
  cases l with
  | nil => exact absurd rfl h
  | cons a l => exact bne_iff_ne.mpr (by simp only [List.length_cons]; omega)
theorem list_ne {l : List Nat} (h : l ≠ []) : ((⟨l.toArray⟩ : Str) == Str.ofString "") = false := by
  refine beq_eq_false_iff_ne.mpr fun e => h ?_
  have h1 := congrArg Str.length e
  have h2 : (⟨l.toArray⟩ : Str).length = l.length := List.size_toArray
  rw [h2, show (Str.ofString "").length = 0 from by decide +kernel] at h1
  exact List.eq_nil_of_length_eq_zero h1
theorem one_short (c : Nat) : (⟨#[c]⟩ : Str).length ≤ 16777216 := show 1 ≤ 16777216 by decide
theorem one_len (c : Nat) : (⟨#[c]⟩ : Str).length = 1 := rfl
theorem list_len (l : List Nat) : (⟨l.toArray⟩ : Str).length = l.length := List.size_toArray
section
variable {prog : Program} {w : World} {A : Around} {E : Value → Shared → Prop} {s : Shared} {x : Str} {t : Tok} {b : Bool} {Q : Bool → Shared → Prop}
theorem truthy_b (e : full x = b) (hl : x.length ≤ 16777216) (h : ∀ k, Q b { s with toks := k }) : wpAny (model prog w) A (PySem.truthy (.str x t)) Q E s :=
  KXt.truthy (by unfold full at e; exact e) hl h
end
theorem ok_nl : ∀ c ∈ okC, ((⟨#[c]⟩ : Str) == Str.ofString "\n") = false := by decide +kernel
theorem ok_ws : ∀ c ∈ okC, has (Str.ofString " \t\r\n") ⟨#[c]⟩ = false := by decide +kernel
theorem ok_esc : ∀ c ∈ okC, has (Str.ofString "\\") ⟨#[c]⟩ = false := by decide +kernel
theorem ok_quo : ∀ c ∈ okC, has (Str.ofString "'\"") ⟨#[c]⟩ = false := by decide +kernel
theorem ok_pun : ∀ c ∈ okC, has (Str.ofString "") ⟨#[c]⟩ = false := by decide +kernel
theorem bl_nl : ((⟨#[32]⟩ : Str) == Str.ofString "\n") = false := by decide +kernel
theorem bl_ws : has (Str.ofString " \t\r\n") ⟨#[32]⟩ = true := by decide +kernel
theorem emp_nl : ((Str.ofString "") == Str.ofString "\n") = false := by decide +kernel
theorem okC_ne {c : Nat} (h : c ∈ okC) : c ≠ 32 := by
  intro e; subst e; revert h; decide
end Mine
end
open PySem PySem.W PyProof.Rows
namespace Mine
local macro_rules | `(tactic| walk_at "mine:enter") => `(tactic| k_extra "w1")
local macro_rules | `(tactic| walk_at "mine:call") => `(tactic| k_extra "w2")
local macro_rules | `(tactic| k_room) => `(tactic| ktr_room)
local macro_rules | `(tactic| k_all) => `(tactic| assumption)
local macro_rules | `(tactic| walk_at "exec While") => `(tactic| (k_here; k_dflt (k_extra "mine:while")))
local macro_rules | `(tactic| walk_at "call ref") => `(tactic| (k_here; k_extra "mine:call ref"))
local macro_rules | `(tactic| walk_at "ite") => `(tactic| first | (with_reducible refine ite_ff ?_) | (with_reducible refine ite_tt ?_))
local macro_rules | `(tactic| walk_at "compareOp In str str") => `(tactic| k_extra "w3")
local macro_rules | `(tactic| walk_at "compareOp NotIn str str") => `(tactic| k_extra "w4")
local macro_rules | `(tactic| walk_at "compareOp Eq str str") => `(tactic| k_extra "w5")
local macro_rules | `(tactic| walk_at "exec If") => `(tactic| refine wpAny_If ?_)
local macro_rules | `(tactic| walk_at "truthy str") => `(tactic| k_extra "w6")
local macro_rules | `(tactic| walk_at "mine:both") => `(tactic| k_extra "w7")
local macro_rules | `(tactic| k_ne) => `(tactic| first | assumption | exact Ne.symm (by assumption))
local macro_rules | `(tactic| walk_at "execs cons") => `(tactic| (k_here; first | k_gentoks | ((with_reducible refine execs_one ?_); (try dsimp only))))
local macro_rules | `(tactic| walk_at "callWith") => `(tactic| k_extra "w8")
local macro_rules | `(tactic| k_in) => `(tactic| first | k_in_fast | assumption | exact Frag.In.keeps (by k_asm) (Fr.keep (by k_asm)))
local macro_rules | `(tactic| walk_at "getAttr ref") => `(tactic| k_extra "w9")
local macro_rules | `(tactic| walk_at "execs cons Assign cons") => `(tactic| walk_at "execs cons")
local macro_rules | `(tactic| walk_at "pyIter ref") => `(tactic| (k_here; k_extra "mine:iter"))
local macro_rules | `(tactic| walk_at "mine:sub") => `(tactic| k_extra "w10")
theorem fill_all (w : World) : PySem.Challenge.rw_ij0055_01 = PySem.Challenge.rw_ij0055_01 ∧ hd.heap_1 w.params = hd.heap_1 w.params := by
  k_fill
  exact ⟨rfl, rfl⟩
local macro_rules | `(tactic| walk_at "subscriptTail Attribute") => `(tactic| k_extra "w11")
local macro_rules | `(tactic| walk_at "subscriptTail BinOp") => `(tactic| k_extra "w12")
local macro_rules | `(tactic| walk_at "call ref") => `(tactic| k_extra "w13")
local macro_rules | `(tactic| walk_at "call builtin:object.__new__") => `(tactic| k_extra "w14")
local macro_rules | `(tactic| walk_at "call type:collections.deque") => `(tactic| k_extra "w15")
local macro_rules | `(tactic| walk_at "truthy ref") => `(tactic| k_extra "w16")
local macro_rules | `(tactic| walk_at "getMethod ref") => `(tactic| k_extra "w17")
local macro_rules | `(tactic| walk_at "call builtin:collections.deque.appendleft") => `(tactic| k_extra "w18")
local macro_rules | `(tactic| walk_at "call builtin:collections.deque.popleft") => `(tactic| k_extra "w19")
local macro_rules | `(tactic| walk_at "mine:nd") => `(tactic| k_extra "w20")
local macro_rules | `(tactic| walk_at "exec While") => `(tactic| k_extra "w21")
local macro_rules | `(tactic| walk_at "call builtin:list.index") => `(tactic| k_extra "w22")
local macro_rules | `(tactic| walk_at "execs cons") => `(tactic| k_extra "w23")
local macro_rules | `(tactic| walk_at "execs nil") => `(tactic| k_extra "w24")
local macro_rules | `(tactic| walk_at "subscriptTail Name BinOp ref int") => `(tactic| k_extra "w25")
local macro_rules | `(tactic| walk_at "subscriptTail List") => `(tactic| k_extra "w26")
local macro_rules | `(tactic| walk_at "call builtin:len") => `(tactic| k_extra "w27")
local macro_rules | `(tactic| walk_at "call builtin:list.append") => `(tactic| k_extra "w28")
local macro_rules | `(tactic| walk_at "subscriptTail Name BinOp ref int") => `(tactic| k_extra "w29")
local macro_rules | `(tactic| walk_at "exec For Name Subscript cons nil") => `(tactic| k_extra "w30")
local macro_rules | `(tactic| walk_at "binaryOp Add ref ref") => `(tactic| k_extra "w31")
local macro_rules | `(tactic| walk_at "call builtin:list.append") => `(tactic| k_extra "w32")
local macro_rules | `(tactic| walk_at "mine:fr2") => `(tactic| k_extra "w33")
local macro_rules | `(tactic| walk_at "leaving ref") => `(tactic| k_extra "w34")
local macro_rules | `(tactic| walk_at "execs cons") => `(tactic| k_extra "w35")
local macro_rules | `(tactic| walk_at "execs nil") => `(tactic| k_extra "w36")
local macro_rules | `(tactic| walk_at "call builtin:str.replace") => `(tactic| k_extra "w37")
local macro_rules | `(tactic| walk_at "exec For Tuple Call cons nil") => `(tactic| k_extra "w38")
local macro_rules | `(tactic| walk_at "getMethod ref") => `(tactic| k_extra "w39")
local macro_rules | `(tactic| walk_at "call builtin:dict.items") => `(tactic| k_extra "w40")
local macro_rules | `(tactic| walk_at "truthy ref") => `(tactic| k_extra "w41")
local macro_rules | `(tactic| walk_at "truthy ref") => `(tactic| k_extra "w42")
local macro_rules | `(tactic| walk_at "subscriptTail") => `(tactic| k_extra "w43")
local macro_rules | `(tactic| walk_at "subscriptTail Name BinOp ref int") => `(tactic| k_extra "w44")
local macro_rules | `(tactic| walk_at "subscriptTail Name Constant ref int") => `(tactic| k_extra "w45")
local macro_rules | `(tactic| walk_at "eval IfExp") => `(tactic| k_extra "w46")
section
open PySem PySem.W PyProof.Rows
theorem ws_C1 : True := by
  (k_with_none; (k_with "w1" => ((refine' code_def ?k1 ?k2 ?k3 ?k4 ?k5 ?kA ?kF ?kK ?k6 ?k7 ?k8 ?k9 ?kB ?_ ?c2 ?c3 ?c4 ?c5; (case kA => exact rfl); (case kF => exact rfl); (case kK => first | (with_reducible assumption) | assumption); (case k1 => k_asm); (case k2 => k_asm); (case k3 => k_asm); (case k4 => k_asm); (case k5 => k_asm); (case k6 => k_is); (case k7 => k_is); (case k8 => ktr_room); (case k9 => first | exact BindsTo.of_eq rfl | exact binds_K (by k_in) rfl (by k_is) rfl rfl rfl); (case c5 => decide); (case kB => exact locs rfl); (case c2 => exact rfl); (case c3 => exact rfl); (case c4 => exact rfl); k_whole; intro g'zz L'zz h'zz FG'zz F'zz N'zz B'zz X'zz T'zz; (try dsimp only); (try k_fold)))); (k_with "w2" => (((case k1 => k_asm); (case k2 => k_asm); (case k3 => k_asm); (case k4 => k_asm); (case k5 => k_asm); (case kK => first | (with_reducible assumption) | exact rfl | assumption); (case kd => ktr_room); (case ku => ktr_units)))); (k_with "w3" => (first | (refine in_has (b := false) ?hh ?_; (case hh => first | assumption | decide +kernel)) | (refine in_has (b := true) ?hh ?_; (case hh => first | assumption | decide +kernel)) | (refine in_has rfl ?_))); (k_with "w4" => (first | (refine notin_has (b := false) ?hh ?_; (case hh => first | assumption | decide +kernel)) | (refine notin_has (b := true) ?hh ?_; (case hh => first | assumption | decide +kernel)))); (k_with "w5" => (first | (refine eq_b (b := false) ?hh ?_; (case hh => first | assumption | decide +kernel)) | (refine eq_b (b := true) ?hh ?_; (case hh => first | assumption | decide +kernel)))); (k_with "w6" => (((first | (refine truthy_b (b := true) ?hh ?hl ?_; (case hh => first | assumption | exact full_one _ | decide +kernel); (case hl => first | assumption | exact one_short _ | decide +kernel)) | (refine truthy_b (b := false) ?hh ?hl ?_; (case hh => first | assumption | decide +kernel); (case hl => first | assumption | decide +kernel))); intro _))); (k_with "w7" => ((refine' kp_both ?k1 ?k2 ?k3 ?k4 ?k5 ?kA ?kF ?kK ?k6 ?k7 ?k8 ?kV ?kX ?kQ ?kM ?kN ?kD ?kR ?kP ?kS ?kT ?kB ?_ ?c2 ?c3 ?c4 ?c5; (case kA => exact rfl); (case kF => exact rfl); (case kK => first | (with_reducible assumption) | assumption); (case k1 => k_asm); (case k2 => k_asm); (case k3 => k_asm); (case k4 => k_asm); (case k5 => k_asm); (case k6 => k_is); (case k7 => k_is); (case k8 => ktr_room); (case kV => kp_lit); (case kX => kp_lit); (case kQ => exact rfl); (case kM => exact rfl); (case kN => exact rfl); (case kD => kp_flats); (case kR => exact rfl); (case kP => exact rfl); (case kS => exact fun _ => rfl); (case kT => exact fun _ _ => rfl); (case kB => exact fun _ _ => locs rfl); (case c5 => decide); (case c2 => exact rfl); (case c3 => exact rfl); (case c4 => exact rfl); k_whole; intro C'zz D'zz o'zz g'zz L'zz h'zz tk'zz l1zz l2zz lo'zz hs'zz fs'zz FG'zz F'zz N'zz B'zz X'zz T'zz; (try k_lt l1zz); (try k_lt2 l2zz); (try dsimp only); (try k_fold)))); (k_with "w8" => (((with_reducible show wpAny _ _ (callWith _ (Value.builtin _) (_ :: _) (backTo _ (starEach (_ :: _) _)) []) _ _ _); refine callWith_method1 ?_))); (k_with "w9" => ((k_here; k_dflt (refine' get_own ?k1 ?k2 ?k3 ?k4 ?k5 ?k6 ?k7 ?k8 ?k9 ?_; (case k1 => k_asm); (case k2 => k_asm); (case k3 => k_inst); (case k4 => k_is); (case k5 => k_is); (case k6 => k_is); (case k7 => k_is); (case k8 => k_get); (case k9 => k_handed); k_whole)))); (k_with "w10" => (((repeat (first | (with_reducible exact List.forall_mem_nil _) | (intro pzz hpzz; (repeat (first | (with_reducible exact hpzz) | (with_reducible refine List.mem_cons_of_mem _ ?_))); done) | (refine List.forall_mem_cons.mpr ⟨by k_mem, ?_⟩))); first | done | (intro pzz hpzz; repeat (first | exact hpzz | apply List.Mem.tail))))); (k_with "w11" => ((k_here; refine turn_name ?_))); (k_with "w12" => ((k_here; refine turn_name ?_))); (k_with "w13" => ((k_here; k_dflt (refine' ctr_use (c_index _ _ _ _ _ _ _ _ _ _) ?k1 ?k2 ?k3 ?k4 ?k5 ?kK ?kd ?ku ?_; walk_at "mine:call"); intro r9zz n9zz h9zz tk9zz F9zz N9zz P9zz; obtain ⟨⟨t9zz, e9zz⟩, e9'zz⟩ := P9zz; subst e9zz e9'zz; (try dsimp only)))); trivial)
set_option maxRecDepth 100000 in
set_option maxHeartbeats 0 in
theorem c_index (w p loose mean mg mb) (news : News') (t t2 : Tok) (x : Str) : Ctr w p loose mean mg mb (.ref 69) [.int 1 t, .str x t2] [] news 1 20 (fun r news' => (∃ t', r = .int 1 t') ∧ news' = news) := by
  intro dp un gd cn cs a ccd cl outer A₀ base h₀ L m s Q E B F X N T hk hd hu hret
  refine wpAny_call ?_
  k_dflt (walk_at "mine:enter")
  k_steps
  all_goals exact hret _ _ _ _ (by k_asm) (by k_asm) ⟨⟨_, rfl⟩, rfl⟩
/-- the expression that gave the value plays no part in the subscript's answer -/
theorem turn_name {prog : Program} {w : World} {A : Around} {E : Value → Shared → Prop} {s : Shared} {value slice : PySem.Expr} {o i : Value} {Q : Value → Shared → Prop}
    (h : wpAny (model prog w) A (subscriptTail (PySem.Expr.Name (PySem.Str.ofString "_") ⟨0, 0, 0, 0⟩) slice o i) Q E s) : wpAny (model prog w) A (subscriptTail value slice o i) Q E s :=
  kba_turn (value' := PySem.Expr.Name (PySem.Str.ofString "_") ⟨0, 0, 0, 0⟩) (fun _ => rfl) h
set_option maxRecDepth 100000 in
set_option maxHeartbeats 0 in
theorem c_read (w p loose mean mg mb) (io dio : Addr) (rest : News') (h1 h2 h3 : Int) (t1 t2 t3 u1 u2 u3 t : Tok) (b : Str) (l : List Nat) (p0 c : Nat) (r : List Nat)
   (hoff : ∀ p ∈ rest, p.1 ≠ dio) (hne : io ≠ dio) (hb : b = ⟨l.toArray⟩) (hl : l.drop p0 = c :: r) (hz : l.length ≤ 1048576)
   : Ctr w p loose mean mg mb (.ref 549) [.ref io, .int 1 t] [] ((io, instObj 603 dio) :: (dio, sioD h1 h2 h3 t1 t2 t3 u1 u2 u3 b (p0 : Int)) :: rest) 2 40
      (fun r news' => (∃ t', r = .str ⟨#[c]⟩ t') ∧ ∃ u3', news' = ((io, instObj 603 dio) :: (dio, sioD h1 h2 h3 t1 t2 t3 u1 u2 u3' b ((p0 : Int) + 1)) :: rest)) := by
  intro dp un gd cn cs a ccd cl outer A₀ base h₀ L m s Q E B F X N T hk hd hu hret
  obtain ⟨hlt, hlen⟩ := len_at hb hl
  have hz' : b.length ≤ 1048576 := by omega
  have hval := chr_at hb hl
  clear hb hl
  refine wpAny_call ?_
  k_dflt (walk_at "mine:enter")
  k_steps
  · exact hret _ _ _ _ (by k_asm) (by k_asm) ⟨⟨_, congrArg (Value.str · _) hval⟩, ⟨_, rfl⟩⟩
  · have e9 : (b.length : Int) = (p0 : Int) + 1 := by simp only [decide_eq_false_iff_not, decide_eq_true_eq] at *; omega
    exact hret _ _ _ _ (by k_asm) (by k_asm) ⟨⟨_, congrArg (Value.str · _) (by rw [e9]; exact hval)⟩, ⟨_, congrArg (fun z => (io, instObj 603 dio) :: (dio, sioD h1 h2 h3 t1 t2 t3 u1 u2 _ b z) :: rest) e9⟩⟩
set_option maxRecDepth 100000 in
set_option maxHeartbeats 0 in
theorem c_read0 (w p loose mean mg mb) (io dio : Addr) (rest : News') (h1 h2 h3 : Int) (t1 t2 t3 u1 u2 u3 t : Tok) (b : Str) (l : List Nat) (p0 : Nat)
   (hb : b = ⟨l.toArray⟩) (hl : l.drop p0 = []) (hz : l.length ≤ 1048576)
   : Ctr w p loose mean mg mb (.ref 549) [.ref io, .int 1 t] [] ((io, instObj 603 dio) :: (dio, sioD h1 h2 h3 t1 t2 t3 u1 u2 u3 b (p0 : Int)) :: rest) 2 40
      (fun r news' => (∃ t', r = .str (Str.ofString "") t') ∧ news' = ((io, instObj 603 dio) :: (dio, sioD h1 h2 h3 t1 t2 t3 u1 u2 u3 b (p0 : Int)) :: rest)) := by
  intro dp un gd cn cs a ccd cl outer A₀ base h₀ L m s Q E B F X N T hk hd hu hret
  have hge : (b.length : Int) ≤ (p0 : Int) := by
    have h1 : b.length = l.length := by rw [hb]; show l.toArray.size = _; simp
    have h2 := List.drop_eq_nil_iff.mp hl
    omega
  have hz' : b.length ≤ 1048576 := by have h1 : b.length = l.length := by rw [hb]; show l.toArray.size = _; simp
                                      omega
  clear hb hl
  refine wpAny_call ?_
  k_dflt (walk_at "mine:enter")
  k_steps
  all_goals exact hret _ _ _ _ (by k_asm) (by k_asm) ⟨⟨_, rfl⟩, rfl⟩
end
section
open PySem PySem.W PyProof.Rows
/-- the ledger of a lexer: its stream and itself -/
abbrev rtLed (P : Params) (io dio lx dlx pb fs : Addr) (rest : News') (h1 h2 h3 : Int) (t1 t2 t3 u1 u2 : Tok) (ks vs : Nat → Tok) (cm : Str) (b : Str) (vfile vln : Value) (p : Nat) (u3 : Tok) (vst vtok : Value) : News' :=
  (io, instObj 603 dio) :: (dio, sioD h1 h2 h3 t1 t2 t3 u1 u2 u3 b (p : Int)) :: (lx, instObj 738 dlx) :: (dlx, lexD P ks vs cm true pb fs (.ref io) vfile vst vln vtok) :: rest
/-- the word of read_token's loop -/
def IRT (P : Params) (io dio lx dlx pb fs : Addr) (rest : News') (h1 h2 h3 : Int) (t1 t2 t3 u1 u2 : Tok) (ks vs : Nat → Tok) (cm : Str) (b : Str) (vfile vln : Value) (l : List Nat) (R : Res) (m₀ : Str → Option Value) (n : Nat) (m : Str → Option Value) (news : News') : Prop :=
  ∃ (p : Nat) (u3 : Tok) (vst vtok : Value) (vn : Option Value), m = (fun y => if y = Str.ofString "nextchar" then vn else m₀ y) ∧ (∀ q ∈ rtLed P io dio lx dlx pb fs rest h1 h2 h3 t1 t2 t3 u1 u2 ks vs cm b vfile vln p u3 vst vtok, q ∈ news) ∧ n = (l.drop p).length ∧ Okr (l.drop p) ∧
    ((∃ s1 s2, vst = .str (Str.ofString " ") s1 ∧ vtok = .str (Str.ofString "") s2 ∧ skipS (l.drop p) p = R) ∨
     (∃ wd s1 s2, vst = .str (Str.ofString "a") s1 ∧ vtok = .str ⟨wd.toArray⟩ s2 ∧ wd ≠ [] ∧ wd.length + (l.drop p).length ≤ 1048576 ∧ l.drop p ≠ [] ∧ wordS wd (l.drop p) p = R))
/-- what read_token gives -/
def RtPost (P : Params) (io dio lx dlx pb fs : Addr) (rest : News') (h1 h2 h3 : Int) (t1 t2 t3 u1 u2 : Tok) (ks vs : Nat → Tok) (cm : Str) (b : Str) (vfile vln : Value) (R : Res) (r : Value) (news : News') : Prop :=
  match R with
  | .end_ p => r = .none ∧ ∃ u3 s, news = rtLed P io dio lx dlx pb fs rest h1 h2 h3 t1 t2 t3 u1 u2 ks vs cm b vfile vln p u3 .none (.str (Str.ofString "") s)
  | .word x p => (∃ t, r = .str ⟨x.toArray⟩ t) ∧ ∃ u3 s1 s, news = rtLed P io dio lx dlx pb fs rest h1 h2 h3 t1 t2 t3 u1 u2 ks vs cm b vfile vln p u3 (.str (Str.ofString " ") s1) (.str (Str.ofString "") s)
section
variable {P : Params} {io dio lx dlx pb fs : Addr} {rest : News'} {h1 h2 h3 : Int} {t1 t2 t3 u1 u2 : Tok} {ks vs : Nat → Tok} {cm : Str} {b : Str} {vfile vln : Value} {l : List Nat} {R : Res} {m₀ : Str → Option Value} {m : Str → Option Value} {news : News'} {p c : Nat} {r : List Nat} {u3 s1 s2 : Tok} {vn : Option Value} {wd : List Nat}
theorem irt_skip (em : m = fun y => if y = Str.ofString "nextchar" then vn else m₀ y)
    (hs : ∀ q ∈ rtLed P io dio lx dlx pb fs rest h1 h2 h3 t1 t2 t3 u1 u2 ks vs cm b vfile vln (p + 1) u3 (.str (Str.ofString " ") s1) (.str (Str.ofString "") s2), q ∈ news)
    (hrem : l.drop p = 32 :: r) (hok : Okr (l.drop p)) (hR : skipS (l.drop p) p = R) :
    IRT P io dio lx dlx pb fs rest h1 h2 h3 t1 t2 t3 u1 u2 ks vs cm b vfile vln l R m₀ r.length m news := by
  have ht := drop_tail hrem
  refine ⟨p + 1, u3, _, _, vn, em, hs, by rw [ht], ?_, .inl ⟨s1, s2, rfl, rfl, ?_⟩⟩
  · rw [ht]; exact okr_tail (hrem ▸ hok) (.inr trivial)
  · rw [ht, ← hR, hrem]; rfl
theorem irt_first (em : m = fun y => if y = Str.ofString "nextchar" then vn else m₀ y)
    (hs : ∀ q ∈ rtLed P io dio lx dlx pb fs rest h1 h2 h3 t1 t2 t3 u1 u2 ks vs cm b vfile vln (p + 1) u3 (.str (Str.ofString "a") s1) (.str ⟨#[c]⟩ s2), q ∈ news)
    (hrem : l.drop p = c :: r) (hc : c ≠ 32) (hok : Okr (l.drop p)) (hz : l.length ≤ 1048576) (hR : skipS (l.drop p) p = R) :
    IRT P io dio lx dlx pb fs rest h1 h2 h3 t1 t2 t3 u1 u2 ks vs cm b vfile vln l R m₀ r.length m news := by
  have ht := drop_tail hrem
  have hl : (l.drop p).length ≤ l.length := by rw [List.length_drop]; omega
  refine ⟨p + 1, u3, _, _, vn, em, hs, by rw [ht], ?_, .inr ⟨[c], s1, s2, rfl, rfl, by simp, ?_, ?_, ?_⟩⟩
  · rw [ht]; exact okr_tail (hrem ▸ hok) (.inr trivial)
  · rw [ht]; rw [hrem] at hl; simp only [List.length_cons, List.length_nil] at *; omega
  · rw [ht]; exact okr_more (hrem ▸ hok) hc
  · rw [ht, ← hR, hrem]; simp only [skipS, if_neg hc]
theorem irt_more (em : m = fun y => if y = Str.ofString "nextchar" then vn else m₀ y)
    (hs : ∀ q ∈ rtLed P io dio lx dlx pb fs rest h1 h2 h3 t1 t2 t3 u1 u2 ks vs cm b vfile vln (p + 1) u3 (.str (Str.ofString "a") s1) (.str (⟨wd.toArray⟩ ++ ⟨#[c]⟩) s2), q ∈ news)
    (hrem : l.drop p = c :: r) (hc : c ≠ 32) (hok : Okr (l.drop p)) (hwl : wd.length + (l.drop p).length ≤ 1048576) (hR : wordS wd (l.drop p) p = R) :
    IRT P io dio lx dlx pb fs rest h1 h2 h3 t1 t2 t3 u1 u2 ks vs cm b vfile vln l R m₀ r.length m news := by
  have ht := drop_tail hrem
  have es : (⟨wd.toArray⟩ : Str) ++ ⟨#[c]⟩ = ⟨(wd ++ [c]).toArray⟩ := by
    show (⟨wd.toArray ++ #[c]⟩ : Str) = _
    simp
  rw [es] at hs
  refine ⟨p + 1, u3, _, _, vn, em, hs, by rw [ht], ?_, .inr ⟨wd ++ [c], s1, s2, rfl, rfl, by simp, ?_, ?_, ?_⟩⟩
  · rw [ht]; exact okr_tail (hrem ▸ hok) (.inr trivial)
  · rw [ht]; rw [hrem] at hwl; simp only [List.length_append, List.length_cons, List.length_nil] at *; omega
  · rw [ht]; exact okr_more (hrem ▸ hok) hc
  · rw [ht, ← hR, hrem]; simp only [wordS, if_neg hc]
theorem rt_end (hrem : l.drop p = []) (hR : skipS (l.drop p) p = R) :
    RtPost P io dio lx dlx pb fs rest h1 h2 h3 t1 t2 t3 u1 u2 ks vs cm b vfile vln R .none (rtLed P io dio lx dlx pb fs rest h1 h2 h3 t1 t2 t3 u1 u2 ks vs cm b vfile vln p u3 .none (.str (Str.ofString "") s2)) := by
  rw [hrem] at hR
  subst hR
  exact ⟨rfl, _, _, rfl⟩
theorem rt_word {t : Tok} (hrem : l.drop p = 32 :: r) (hR : wordS wd (l.drop p) p = R) :
    RtPost P io dio lx dlx pb fs rest h1 h2 h3 t1 t2 t3 u1 u2 ks vs cm b vfile vln R (.str ⟨wd.toArray⟩ t) (rtLed P io dio lx dlx pb fs rest h1 h2 h3 t1 t2 t3 u1 u2 ks vs cm b vfile vln (p + 1) u3 (.str (Str.ofString " ") s1) (.str (Str.ofString "") s2)) := by
  rw [hrem] at hR
  subst hR
  exact ⟨⟨_, rfl⟩, _, _, _, rfl⟩
end
theorem ne_obj {h₀ h : Heap} {L : Addr} {news : News'} (N : News h₀ L h news) {a b : Addr} {o o' : Obj} (hp : (a, o) ∈ news) (hq : (b, o') ∈ news) (hne : o ≠ o') : a ≠ b := News.twoPlaces N hp hq hne
theorem inst_ne_dict {c : Addr} {d : Addr} {es : List DictEntry} {n : Nat} : instObj c d ≠ dictOf es n := fun e => by
  have := congrArg Obj.cls e
  exact Value.noConfusion this
theorem dq_ne_dict {n : Int} {items : List Value} {es : List DictEntry} {k : Nat} : dqObj n items ≠ dictOf es k := fun e => by
  have h : Value.type "collections.deque" = Value.type "dict" := congrArg Obj.cls e
  exact absurd h (by decide)
theorem dq_ne_inst {n : Int} {items : List Value} {c d : Addr} : dqObj n items ≠ instObj c d := fun e => by
  have h : Value.type "collections.deque" = Value.ref c := congrArg Obj.cls e
  exact Value.noConfusion h
theorem dict_ne_len {es es' : List DictEntry} {n n' : Nat} (h : es.length ≠ es'.length) : dictOf es n ≠ dictOf es' n' := fun e => by
  have h1 := congrArg (fun o : Obj => match o.data with | .dict a _ => a.size | _ => 0) e
  have h2 : es.toArray.size = es'.toArray.size := h1
  simp only [List.size_toArray] at h2
  exact h h2
end
section
open PySem PySem.W PyProof.Rows
theorem ws_RD : True := by
  (k_with_none; (k_with "w1" => ((refine' code_def ?k1 ?k2 ?k3 ?k4 ?k5 ?kA ?kF ?kK ?k6 ?k7 ?k8 ?k9 ?kB ?_ ?c2 ?c3 ?c4 ?c5; (case kA => exact rfl); (case kF => exact rfl); (case kK => first | (with_reducible assumption) | assumption); (case k1 => k_asm); (case k2 => k_asm); (case k3 => k_asm); (case k4 => k_asm); (case k5 => k_asm); (case k6 => k_is); (case k7 => k_is); (case k8 => ktr_room); (case k9 => first | exact BindsTo.of_eq rfl | exact binds_K (by k_in) rfl (by k_is) rfl rfl rfl); (case c5 => decide); (case kB => exact locs rfl); (case c2 => exact rfl); (case c3 => exact rfl); (case c4 => exact rfl); k_whole; intro g'zz L'zz h'zz FG'zz F'zz N'zz B'zz X'zz T'zz; (try dsimp only); (try k_fold)))); (k_with "w2" => (((case k1 => k_asm); (case k2 => k_asm); (case k3 => k_asm); (case k4 => k_asm); (case k5 => k_asm); (case kK => first | (with_reducible assumption) | exact rfl | assumption); (case kd => ktr_room); (case ku => ktr_units)))); (k_with "w3" => (first | (refine in_has (b := false) ?hh ?_; (case hh => first | assumption | decide +kernel)) | (refine in_has (b := true) ?hh ?_; (case hh => first | assumption | decide +kernel)) | (refine in_has rfl ?_))); (k_with "w4" => (first | (refine notin_has (b := false) ?hh ?_; (case hh => first | assumption | decide +kernel)) | (refine notin_has (b := true) ?hh ?_; (case hh => first | assumption | decide +kernel)))); (k_with "w5" => (first | (refine eq_b (b := false) ?hh ?_; (case hh => first | assumption | decide +kernel)) | (refine eq_b (b := true) ?hh ?_; (case hh => first | assumption | decide +kernel)))); (k_with "w6" => (((first | (refine truthy_b (b := true) ?hh ?hl ?_; (case hh => first | assumption | exact full_one _ | decide +kernel); (case hl => first | assumption | exact one_short _ | decide +kernel)) | (refine truthy_b (b := false) ?hh ?hl ?_; (case hh => first | assumption | decide +kernel); (case hl => first | assumption | decide +kernel))); intro _))); (k_with "w7" => ((refine' kp_both ?k1 ?k2 ?k3 ?k4 ?k5 ?kA ?kF ?kK ?k6 ?k7 ?k8 ?kV ?kX ?kQ ?kM ?kN ?kD ?kR ?kP ?kS ?kT ?kB ?_ ?c2 ?c3 ?c4 ?c5; (case kA => exact rfl); (case kF => exact rfl); (case kK => first | (with_reducible assumption) | assumption); (case k1 => k_asm); (case k2 => k_asm); (case k3 => k_asm); (case k4 => k_asm); (case k5 => k_asm); (case k6 => k_is); (case k7 => k_is); (case k8 => ktr_room); (case kV => kp_lit); (case kX => kp_lit); (case kQ => exact rfl); (case kM => exact rfl); (case kN => exact rfl); (case kD => kp_flats); (case kR => exact rfl); (case kP => exact rfl); (case kS => exact fun _ => rfl); (case kT => exact fun _ _ => rfl); (case kB => exact fun _ _ => locs rfl); (case c5 => decide); (case c2 => exact rfl); (case c3 => exact rfl); (case c4 => exact rfl); k_whole; intro C'zz D'zz o'zz g'zz L'zz h'zz tk'zz l1zz l2zz lo'zz hs'zz fs'zz FG'zz F'zz N'zz B'zz X'zz T'zz; (try k_lt l1zz); (try k_lt2 l2zz); (try dsimp only); (try k_fold)))); (k_with "w8" => (((with_reducible show wpAny _ _ (callWith _ (Value.builtin _) (_ :: _) (backTo _ (starEach (_ :: _) _)) []) _ _ _); refine callWith_method1 ?_))); (k_with "w9" => ((k_here; k_dflt (refine' get_own ?k1 ?k2 ?k3 ?k4 ?k5 ?k6 ?k7 ?k8 ?k9 ?_; (case k1 => k_asm); (case k2 => k_asm); (case k3 => k_inst); (case k4 => k_is); (case k5 => k_is); (case k6 => k_is); (case k7 => k_is); (case k8 => k_get); (case k9 => k_handed); k_whole)))); (k_with "w10" => (((repeat (first | (with_reducible exact List.forall_mem_nil _) | (intro pzz hpzz; (repeat (first | (with_reducible exact hpzz) | (with_reducible refine List.mem_cons_of_mem _ ?_))); done) | (refine List.forall_mem_cons.mpr ⟨by k_mem, ?_⟩))); first | done | (intro pzz hpzz; repeat (first | exact hpzz | apply List.Mem.tail))))); trivial)
set_option maxRecDepth 100000 in
set_option maxHeartbeats 0 in
theorem c_rt (w p loose mean mg mb) (io dio lx dlx pb fs : Addr) (rest : News') (h1 h2 h3 : Int) (t1 t2 t3 u1 u2 u3 : Tok) (ks vs : Nat → Tok) (cm : Str) (b : Str) (l : List Nat) (p0 : Nat) (vfile vln : Value) (s1 s2 : Tok) (R : Res)
   (o1 : ∀ p ∈ rest, p.1 ≠ dio) (o2 : ∀ p ∈ rest, p.1 ≠ dlx)
   (hb : b = ⟨l.toArray⟩) (hz : l.length ≤ 1048576) (hok : Okr (l.drop p0)) (hR : skipS (l.drop p0) p0 = R) (hcm : ∀ c ∈ okC, has cm ⟨#[c]⟩ = false)
   : Ctr w p loose mean mg mb (.ref 706) [.ref lx] [] (rtLed w.params io dio lx dlx pb fs rest h1 h2 h3 t1 t2 t3 u1 u2 ks vs cm b vfile vln p0 u3 (.str (Str.ofString " ") s1) (.str (Str.ofString "") s2)) 4 80
      (fun r news' => RtPost w.params io dio lx dlx pb fs rest h1 h2 h3 t1 t2 t3 u1 u2 ks vs cm b vfile vln R r news') := by
  intro dp un gd cn cs a ccd cl outer A₀ base h₀ L m s Q E B F X N T hk hd hu hret
  have d1 : io ≠ dio := ne_obj N (.head _) (.tail _ (.head _)) inst_ne_dict
  have d2 : io ≠ dlx := ne_obj N (.head _) (.tail _ (.tail _ (.tail _ (.head _)))) inst_ne_dict
  have d3 : dio ≠ dlx := ne_obj N (.tail _ (.head _)) (.tail _ (.tail _ (.tail _ (.head _)))) (dict_ne_len (by show (3 : Nat) ≠ 19; decide))
  have d4 : lx ≠ dlx := ne_obj N (.tail _ (.tail _ (.head _))) (.tail _ (.tail _ (.tail _ (.head _)))) inst_ne_dict
  have d5 : lx ≠ dio := ne_obj N (.tail _ (.tail _ (.head _))) (.tail _ (.head _)) inst_ne_dict
  have d6 : dlx ≠ dio := d3.symm
  refine wpAny_call ?_
  k_dflt (walk_at "mine:enter")
  (k_with_none; (k_with "w1" => ((refine' code_def ?k1 ?k2 ?k3 ?k4 ?k5 ?kA ?kF ?kK ?k6 ?k7 ?k8 ?k9 ?kB ?_ ?c2 ?c3 ?c4 ?c5; (case kA => exact rfl); (case kF => exact rfl); (case kK => first | (with_reducible assumption) | assumption); (case k1 => k_asm); (case k2 => k_asm); (case k3 => k_asm); (case k4 => k_asm); (case k5 => k_asm); (case k6 => k_is); (case k7 => k_is); (case k8 => ktr_room); (case k9 => first | exact BindsTo.of_eq rfl | exact binds_K (by k_in) rfl (by k_is) rfl rfl rfl); (case c5 => decide); (case kB => exact locs rfl); (case c2 => exact rfl); (case c3 => exact rfl); (case c4 => exact rfl); k_whole; intro g'zz L'zz h'zz FG'zz F'zz N'zz B'zz X'zz T'zz; (try dsimp only); (try k_fold)))); (k_with "w2" => (((case k1 => k_asm); (case k2 => k_asm); (case k3 => k_asm); (case k4 => k_asm); (case k5 => k_asm); (case kK => first | (with_reducible assumption) | exact rfl | assumption); (case kd => ktr_room); (case ku => ktr_units)))); (k_with "w3" => (first | (refine in_has (b := false) ?hh ?_; (case hh => first | assumption | decide +kernel)) | (refine in_has (b := true) ?hh ?_; (case hh => first | assumption | decide +kernel)) | (refine in_has rfl ?_))); (k_with "w4" => (first | (refine notin_has (b := false) ?hh ?_; (case hh => first | assumption | decide +kernel)) | (refine notin_has (b := true) ?hh ?_; (case hh => first | assumption | decide +kernel)))); (k_with "w5" => (first | (refine eq_b (b := false) ?hh ?_; (case hh => first | assumption | decide +kernel)) | (refine eq_b (b := true) ?hh ?_; (case hh => first | assumption | decide +kernel)))); (k_with "w6" => (((first | (refine truthy_b (b := true) ?hh ?hl ?_; (case hh => first | assumption | exact full_one _ | decide +kernel); (case hl => first | assumption | exact one_short _ | decide +kernel)) | (refine truthy_b (b := false) ?hh ?hl ?_; (case hh => first | assumption | decide +kernel); (case hl => first | assumption | decide +kernel))); intro _))); (k_with "w7" => ((refine' kp_both ?k1 ?k2 ?k3 ?k4 ?k5 ?kA ?kF ?kK ?k6 ?k7 ?k8 ?kV ?kX ?kQ ?kM ?kN ?kD ?kR ?kP ?kS ?kT ?kB ?_ ?c2 ?c3 ?c4 ?c5; (case kA => exact rfl); (case kF => exact rfl); (case kK => first | (with_reducible assumption) | assumption); (case k1 => k_asm); (case k2 => k_asm); (case k3 => k_asm); (case k4 => k_asm); (case k5 => k_asm); (case k6 => k_is); (case k7 => k_is); (case k8 => ktr_room); (case kV => kp_lit); (case kX => kp_lit); (case kQ => exact rfl); (case kM => exact rfl); (case kN => exact rfl); (case kD => kp_flats); (case kR => exact rfl); (case kP => exact rfl); (case kS => exact fun _ => rfl); (case kT => exact fun _ _ => rfl); (case kB => exact fun _ _ => locs rfl); (case c5 => decide); (case c2 => exact rfl); (case c3 => exact rfl); (case c4 => exact rfl); k_whole; intro C'zz D'zz o'zz g'zz L'zz h'zz tk'zz l1zz l2zz lo'zz hs'zz fs'zz FG'zz F'zz N'zz B'zz X'zz T'zz; (try k_lt l1zz); (try k_lt2 l2zz); (try dsimp only); (try k_fold)))); (k_with "w8" => (((with_reducible show wpAny _ _ (callWith _ (Value.builtin _) (_ :: _) (backTo _ (starEach (_ :: _) _)) []) _ _ _); refine callWith_method1 ?_))); (k_with "w9" => ((k_here; k_dflt (refine' get_own ?k1 ?k2 ?k3 ?k4 ?k5 ?k6 ?k7 ?k8 ?k9 ?_; (case k1 => k_asm); (case k2 => k_asm); (case k3 => k_inst); (case k4 => k_is); (case k5 => k_is); (case k6 => k_is); (case k7 => k_is); (case k8 => k_get); (case k9 => k_handed); k_whole)))); (k_with "w10" => (((repeat (first | (with_reducible exact List.forall_mem_nil _) | (intro pzz hpzz; (repeat (first | (with_reducible exact hpzz) | (with_reducible refine List.mem_cons_of_mem _ ?_))); done) | (refine List.forall_mem_cons.mpr ⟨by k_mem, ?_⟩))); first | done | (intro pzz hpzz; repeat (first | exact hpzz | apply List.Mem.tail))))); skip)
  (k_with "mine:call ref" => (k_dflt (first
    | (refine' ctr_use (c_read _ _ _ _ _ _ _ _ _ _ _ _ _ _ _ _ _ _ _ _ _ _ _ _ ?ho ?hn ?hb ?hl ?hz) ?k1 ?k2 ?k3 ?k4 ?k5 ?kK ?kd ?ku ?_; walk_at "mine:call"; (case ho => k_all); (case hn => assumption); (case hb => assumption); (case hl => assumption); (case hz => assumption))
    | (refine' ctr_use (c_read0 _ _ _ _ _ _ _ _ _ _ _ _ _ _ _ _ _ _ _ _ _ _ ?hb ?hl ?hz) ?k1 ?k2 ?k3 ?k4 ?k5 ?kK ?kd ?ku ?_; walk_at "mine:call"; (case hb => assumption); (case hl => assumption); (case hz => assumption))); intro r9 n9 h9 tk9 F9 N9 P9; (first | (obtain ⟨⟨t9, e9⟩, ⟨u9, e9'⟩⟩ := P9; subst e9 e9') | (obtain ⟨⟨t9, e9⟩, e9'⟩ := P9; subst e9 e9')); (try dsimp only)))
  (k_with "mine:while" => (k_dflt (refine' while_start (IRT w.params io dio lx dlx pb fs rest h1 h2 h3 t1 t2 t3 u1 u2 ks vs cm b vfile vln l R _) ?hE ?hI ?F ?N ?_; (case F => k_asm); (case N => k_asm); (case hE => passes_own); (case hI => (refine ⟨p0, u3, .str (Str.ofString " ") s1, .str (Str.ofString "") s2, none, ?em, fun _ z => z, rfl, hok, .inl ⟨s1, s2, rfl, rfl, hR⟩⟩; (case em => (refine frame_none ?_; kernel_rfl)))))))
  k_steps
  all_goals (
    refine Held.out ?_
    intro n m news h tk hI F8 N8
    obtain ⟨p, u3, vst, vtok, vn, em, en, hn, hok', hst⟩ := hI
    subst em
    replace N8 := N8.perm en
    clear en
    rcases hrem : l.drop p with _ | ⟨c, r⟩
    · rcases hst with ⟨s1, s2, e1, e2, hR'⟩ | ⟨wd, s1, s2, e1, e2, hw, hwl, hne, hR'⟩
      · subst e1 e2
        (try k_fold)
        k_steps
        all_goals ((try dsimp only); refine WPost.brk ?_; (try dsimp only))
        k_steps
        all_goals exact hret _ _ _ _ (by k_asm) (by k_asm) (rt_end hrem hR')
      · exact absurd hrem hne
    · have hn' : r.length < n := by rw [hn, hrem]; exact Nat.lt_succ_self _
      rcases hst with ⟨s1, s2, e1, e2, hR'⟩ | ⟨wd, s1, s2, e1, e2, hw, hwl, hne, hR'⟩
      · subst e1 e2
        by_cases hb32 : c = 32
        · subst hb32
          (try k_fold)
          k_steps
          all_goals (exact ⟨r.length, _, _, _, _, hn', rfl, (by k_asm), (by k_asm), irt_skip frame_put (fun _ z => z) hrem hok' hR'⟩)
        · have hc : c ∈ okC := ((hrem ▸ hok').1 c (List.mem_cons_self ..)).resolve_left hb32
          have f1 := ok_nl c hc
          have f2 := ok_ws c hc
          have f3 := hcm c hc
          have f4 := ok_esc c hc
          have f5 := ok_quo c hc
          have f6 := ok_pun c hc
          have g1 := full_one c
          (try k_fold)
          k_steps
          all_goals (exact ⟨r.length, _, _, _, _, hn', rfl, (by k_asm), (by k_asm), irt_first frame_put (fun _ z => z) hrem hb32 hok' hz hR'⟩)
      · subst e1 e2
        by_cases hb32 : c = 32
        · subst hb32
          have g1 := full_list hw
          have f8 := list_ne hw
          have hlen := list_len wd
          have g2 : (⟨wd.toArray⟩ : Str).length ≤ 1048576 := by omega
          have g3 : (⟨wd.toArray⟩ : Str).length ≤ 16777216 := by omega
          (try k_fold)
          k_steps
          all_goals ((try dsimp only); refine WPost.brk ?_; (try dsimp only))
          k_steps
          all_goals exact hret _ _ _ _ (by k_asm) (News.tail' (by k_asm)) (rt_word hrem hR')
        · have hc : c ∈ okC := ((hrem ▸ hok').1 c (List.mem_cons_self ..)).resolve_left hb32
          have f1 := ok_nl c hc
          have f2 := ok_ws c hc
          have f3 := hcm c hc
          have f4 := ok_esc c hc
          have f5 := ok_quo c hc
          have f6 := ok_pun c hc
          have g1 := full_one c
          have hlen := list_len wd
          have g2 : (⟨wd.toArray⟩ : Str).length ≤ 1048576 := by omega
          (try k_fold)
          k_steps
          all_goals (exact ⟨r.length, _, _, _, _, hn', rfl, (by k_asm), (by k_asm), irt_more frame_put (fun _ z => .tail _ z) hrem hb32 hok' hwl hR'⟩))
end
section
open PySem PySem.W PyProof.Rows PySem.Calls
set_option maxRecDepth 100000
set_option maxHeartbeats 4000000
/-- what object.__new__ asks of a class, read in the written part -/
structure NewOk (K : Frag) (S : Setting) (C : Addr) : Prop where
  check : peek K S (checkBuiltinCall "object.__new__" ⟨[.ref C], []⟩) = some ()
  isT : peek K S (isType (.ref C)) = some true
  here : peek K S (Bind.madeHere "object.__new__" (.ref C)) = some ()
theorem new_obj {prog : Program} {w : World} {A : Around} {K : Frag} {C : Addr} {s : Shared} {h₀ : Heap} {L : Addr} {m : Str → Option Value} {news : List (Addr × Obj)} {Q E : Value → Shared → Prop} {oc : Value} {od : Option Addr} {cd : ClassData} {sl : Array (Option Value)}
    (F : Fr h₀ L s.heap m) (N : News h₀ L s.heap news) (X : K.In s.heap) (hl : K.lookup C = some ⟨oc, od, .cls cd, sl⟩) (ha : cd.abstract = false) (hdl : cd.hasDel = false) (hm : NewOk K ⟨prog, w.params⟩ C)
    (h : ∀ x dx h', Fr h₀ L h' m → News h₀ L h' ((x, instObj C dx) :: (dx, emptyDict) :: news) → (∀ p ∈ news, p.1 < dx) → dx < x → Q (.ref x) { s with heap := h' }) :
    wpAny (model prog w) A (call (.builtin "object.__new__") [.ref C]) Q E s := by
  obtain ⟨hh, g, d, t, os⟩ := s
  refine wpAny_call ?_
  have G := PySem.F.objNew
  refine codeAny_call_builtin_code (Code.quiet_builtin _ G.quiet) ?_
  have hC := X _ _ hl
  have l1 := Looks.of_peek (M := model prog w) X hm.check
  have l2 := Looks.of_peek (M := model prog w) X hm.isT
  have l3 := Looks.of_peek (M := model prog w) X hm.here
  refine l1.at ?_
  refine codeAny_builtin G.entry ?_
  unfold Builtin.«object.__new__»
  dsimp only
  refine wpAny_bind (l2.at ?_)
  simp only [Bool.not_true, Bool.false_eq_true, if_false]
  refine wpAny_bind (l3.at ?_)
  have hC' := Heap.get?_push_of_some (instObj C (hh.push emptyDict).objs.size.pred) (Heap.get?_push_of_some emptyDict hC)
  have N' := (N.push F emptyDict).push (F.push _) (instObj C hh.objs.size)
  rw [Heap.size_push] at N'
  have z := h _ hh.objs.size _ ((F.push _).push _) N' (fun p hp => Heap.lt_size (N p hp).1) (Nat.lt_succ_self _)
  have fin : ∀ A', wpAny (model prog w) A' (do
      let d ← if typeHasDict (.ref C) then some <$> alloc { cls := .type "dict", data := .dict #[] } else pure none
      ret (← newObj (.ref C) .plain d)) (fun fin s' => match fin with | .done f => (match f with | .ret v => Q v s' | _ => False) | .again c' => False) E ⟨hh, g, d, t, os⟩ := by
    intro A'
    show wpAny _ _ ((alloc emptyDict >>= fun x => pure (some x)) >>= _) _ _ _
    refine wpAny_bind (wpAny_bind (wpAny_alloc (wpAny_pure (wpAny_bind ?_))))
    show wpAny _ _ (newObjAsIs _ _ _) _ _ _
    unfold newObjAsIs classHasDel
    refine wpAny_bind (wpAny_alloc (wpAny_bind (wpAny_bind (wpAny_load (Heap.get?_push_of_some _ (Heap.get?_push_of_some _ hC)) (wpAny_pure ?_)))))
    rw [hdl]
    refine wpAny_pure (wpAny_pure ?_)
    show Q _ _
    rw [Heap.size_push]
    exact z
  simp only [List.isEmpty_nil, Bool.not_true, Bool.or_self, Bool.false_eq_true, if_false]
  refine wpAny_bind ?_
  unfold classData
  repeat (first | simp only [ha, Bool.false_eq_true, if_false] | (refine wpAny_mono (fin _) (fun f s' hf => ?_) (fun _ _ e => e)) | lk)
  rcases f with (_ | _ | _ | v) | c'
  all_goals first | exact hf | exact hf.elim
theorem off_of {news : List (Addr × Obj)} {d : Addr} (h : ∀ p ∈ news, p.1 < d) : ∀ p ∈ news, p.1 ≠ d := fun p hp => Nat.ne_of_lt (h p hp)
end
section
open PySem PySem.W PyProof.Rows PySem.Calls
set_option maxRecDepth 100000
set_option maxHeartbeats 4000000
/-- what a call of a class with a __new__ of its own reads -/
structure OwnOk (K : Frag) (S : Setting) (C fN fI : Addr) : Prop where
  call : peek K S (specialOf (.ref C) "__call__") = some (some (.builtin "type.__call__"))
  typ : peek K S (isInstance (.ref C) (.type "type")) = some true
  made : peek K S (Bind.madeBy (.ref C)) = some none
  self : peek K S (isSubtype (.ref C) (.ref C)) = some true
  init : peek K S (typeLookup (.ref C) "__init__") = some (some (.ref fI))
  bindI : typeIn K (.ref fI) = some (.type "function")
/-- what stands behind __new__ -/
def NewBack (prog : Program) (w : World) (A : Around) (K : Frag) (C fI : Addr) (rest : List Value) (Q E : Value → Shared → Prop) (r : Value) (s : Shared) : Prop :=
  ∃ x dx, r = .ref x ∧ K.In s.heap ∧ s.heap.get? x = some (instObj C dx) ∧ wpAny (model prog w) A (call (.ref fI) (.ref x :: rest)) (fun r s' => r = .none ∧ Q (.ref x) s') E s
theorem NewBack.intro {prog : Program} {w : World} {A : Around} {K : Frag} {C fI x dx : Addr} {rest : List Value} {Q E : Value → Shared → Prop} {s : Shared} (X : K.In s.heap) (hx : s.heap.get? x = some (instObj C dx)) (h : wpAny (model prog w) A (call (.ref fI) (.ref x :: rest)) (fun r s' => r = .none ∧ Q (.ref x) s') E s) :
    NewBack prog w A K C fI rest Q E (.ref x) s := ⟨x, dx, rfl, X, hx, h⟩
theorem call_own {prog : Program} {w : World} {A : Around} {K : Frag} {C fN fI : Addr} {rest : List Value} {s : Shared} {Q E : Value → Shared → Prop} {oc : Value} {od : Option Addr} {cd : ClassData} {sl : Array (Option Value)}
    (X : K.In s.heap) (hl : K.lookup C = some ⟨oc, od, .cls cd, sl⟩) (e4 : cd.mro.isEmpty = false) (Y : OwnOk K ⟨prog, w.params⟩ C fN fI)
    (hg : ∀ (A' : Around) (Q' : Value → Shared → Prop), (∀ tk, Q' (.ref fN) { s with toks := tk }) → wpAny (model prog w) A' (getAttr (.ref C) "__new__") Q' E s)
    (h : ∀ tk, wpAny (model prog w) (A.under (.builtin "type.__call__" ⟨.ref C :: rest, []⟩)) (call (.ref fN) (.ref C :: rest)) (NewBack prog w (A.under (.builtin "type.__call__" ⟨.ref C :: rest, []⟩)) K C fI rest Q E) E { s with toks := tk }) :
    wpAny (model prog w) A (call (.ref C) rest) Q E s := by
  have l1 := Looks.of_peek (M := model prog w) X Y.call
  have l2 := Looks.of_peek (M := model prog w) X Y.typ
  have l3 : Looks (model prog w) s.heap (mroOf (.ref C)) cd.mro := ((Looks.ld (part := none) (X _ _ hl)).andThen .now).andThen .now
  have l4 := Looks.of_peek (M := model prog w) X Y.made
  refine wpAny_call ?_
  refine codeAny_of_tree ?_
  show wpAny _ _ (callAny (.ref C) _) _ _ _
  refine nd_load (X _ _ hl) ?_
  show wpAny _ _ (callAny.viaDunder (.ref C) _) _ _ _
  unfold callAny.viaDunder
  refine wpAny_bind (l1.at ?_)
  dsimp only
  rw [tc_bind]
  refine wpAny_bind (wpAny_pure (wpAny_bind (wpAny_pure ?_)))
  refine wpAny_pure (a := Fin.again (.call (.builtin "type.__call__") ⟨.ref C :: rest, []⟩)) (And.intro rfl ?_)
  refine codeAny_call_builtin_at (Code.quiet_builtin _ (by decide +kernel)) entry_typeCall ?_
  with_reducible refine check_slot tc_kind tc_split l2 (tc_args _ _ _) ?_
  unfold Builtin.«type.__call__»
  repeat (first | simp only [e4, Bool.false_eq_true, if_false] | (refine hg _ _ fun tk => ?_) | (refine wpAny_mono (h _) (fun r s' hb => ?_) (fun _ _ e => e); obtain ⟨x, dx, rfl, X', hx, hb⟩ := hb; have t1 : Looks (model prog w) s'.heap (typeOf (.ref x)) (.ref C) := (Looks.ld hx).andThen .now; have s1 := Looks.of_peek (M := model prog w) X' Y.self; have i1 := Looks.of_peek (M := model prog w) X' Y.init; have b1 := bind_fn (M := model prog w) X' (.ref x) Y.bindI; unfold isInstance callSpecial? specialOf) | (refine wpAny_mono hb (fun r s' hq => ?_) (fun _ _ e => e); obtain ⟨rfl, hq⟩ := hq) | lk)
  all_goals exact hq
theorem units_make (A : Around) (C : Addr) (vals : List Value) (kw : List (Str × Value)) : (A.under (.builtin "type.__call__" ⟨.ref C :: vals, kw⟩)).units = A.units + 1 := rfl
theorem depth_make (A : Around) (C : Addr) (vals : List Value) (kw : List (Str × Value)) : (A.under (.builtin "type.__call__" ⟨.ref C :: vals, kw⟩)).depth = A.depth + 1 := rfl
end
section
open PySem PySem.W PyProof.Rows
theorem ws_CS : True := by
  (k_with_none; (k_with "w1" => ((refine' code_def ?k1 ?k2 ?k3 ?k4 ?k5 ?kA ?kF ?kK ?k6 ?k7 ?k8 ?k9 ?kB ?_ ?c2 ?c3 ?c4 ?c5; (case kA => exact rfl); (case kF => exact rfl); (case kK => first | (with_reducible assumption) | assumption); (case k1 => k_asm); (case k2 => k_asm); (case k3 => k_asm); (case k4 => k_asm); (case k5 => k_asm); (case k6 => k_is); (case k7 => k_is); (case k8 => ktr_room); (case k9 => first | exact BindsTo.of_eq rfl | exact binds_K (by k_in) rfl (by k_is) rfl rfl rfl); (case c5 => decide); (case kB => exact locs rfl); (case c2 => exact rfl); (case c3 => exact rfl); (case c4 => exact rfl); k_whole; intro g'zz L'zz h'zz FG'zz F'zz N'zz B'zz X'zz T'zz; (try dsimp only); (try k_fold)))); (k_with "w2" => (((case k1 => k_asm); (case k2 => k_asm); (case k3 => k_asm); (case k4 => k_asm); (case k5 => k_asm); (case kK => first | (with_reducible assumption) | exact rfl | assumption); (case kd => ktr_room); (case ku => ktr_units)))); (k_with "w3" => (first | (refine in_has (b := false) ?hh ?_; (case hh => first | assumption | decide +kernel)) | (refine in_has (b := true) ?hh ?_; (case hh => first | assumption | decide +kernel)) | (refine in_has rfl ?_))); (k_with "w4" => (first | (refine notin_has (b := false) ?hh ?_; (case hh => first | assumption | decide +kernel)) | (refine notin_has (b := true) ?hh ?_; (case hh => first | assumption | decide +kernel)))); (k_with "w5" => (first | (refine eq_b (b := false) ?hh ?_; (case hh => first | assumption | decide +kernel)) | (refine eq_b (b := true) ?hh ?_; (case hh => first | assumption | decide +kernel)))); (k_with "w6" => (((first | (refine truthy_b (b := true) ?hh ?hl ?_; (case hh => first | assumption | exact full_one _ | decide +kernel); (case hl => first | assumption | exact one_short _ | decide +kernel)) | (refine truthy_b (b := false) ?hh ?hl ?_; (case hh => first | assumption | decide +kernel); (case hl => first | assumption | decide +kernel))); intro _))); (k_with "w7" => ((refine' kp_both ?k1 ?k2 ?k3 ?k4 ?k5 ?kA ?kF ?kK ?k6 ?k7 ?k8 ?kV ?kX ?kQ ?kM ?kN ?kD ?kR ?kP ?kS ?kT ?kB ?_ ?c2 ?c3 ?c4 ?c5; (case kA => exact rfl); (case kF => exact rfl); (case kK => first | (with_reducible assumption) | assumption); (case k1 => k_asm); (case k2 => k_asm); (case k3 => k_asm); (case k4 => k_asm); (case k5 => k_asm); (case k6 => k_is); (case k7 => k_is); (case k8 => ktr_room); (case kV => kp_lit); (case kX => kp_lit); (case kQ => exact rfl); (case kM => exact rfl); (case kN => exact rfl); (case kD => kp_flats); (case kR => exact rfl); (case kP => exact rfl); (case kS => exact fun _ => rfl); (case kT => exact fun _ _ => rfl); (case kB => exact fun _ _ => locs rfl); (case c5 => decide); (case c2 => exact rfl); (case c3 => exact rfl); (case c4 => exact rfl); k_whole; intro C'zz D'zz o'zz g'zz L'zz h'zz tk'zz l1zz l2zz lo'zz hs'zz fs'zz FG'zz F'zz N'zz B'zz X'zz T'zz; (try k_lt l1zz); (try k_lt2 l2zz); (try dsimp only); (try k_fold)))); (k_with "w8" => (((with_reducible show wpAny _ _ (callWith _ (Value.builtin _) (_ :: _) (backTo _ (starEach (_ :: _) _)) []) _ _ _); refine callWith_method1 ?_))); (k_with "w9" => ((k_here; k_dflt (refine' get_own ?k1 ?k2 ?k3 ?k4 ?k5 ?k6 ?k7 ?k8 ?k9 ?_; (case k1 => k_asm); (case k2 => k_asm); (case k3 => k_inst); (case k4 => k_is); (case k5 => k_is); (case k6 => k_is); (case k7 => k_is); (case k8 => k_get); (case k9 => k_handed); k_whole)))); (k_with "w10" => (((repeat (first | (with_reducible exact List.forall_mem_nil _) | (intro pzz hpzz; (repeat (first | (with_reducible exact hpzz) | (with_reducible refine List.mem_cons_of_mem _ ?_))); done) | (refine List.forall_mem_cons.mpr ⟨by k_mem, ?_⟩))); first | done | (intro pzz hpzz; repeat (first | exact hpzz | apply List.Mem.tail))))); (k_with "w14" => ((k_here; refine' new_obj ?k1 ?k2 ?k3 ?k4 ?k5 ?k6 (newOk603 _) ?_; (case k1 => k_asm); (case k2 => exact News.tail' (News.tail' (by k_asm))); (case k3 => first | assumption | exact Frag.In.keeps (by k_asm) (Fr.keep (by k_asm))); (case k4 => k_is); (case k5 => kernel_rfl); (case k6 => kernel_rfl); intro x'zz dx'zz h'zz F'zz N'zz l1zz l2zz; (have o1zz := off_of l1zz); (have o4zz := off_of (fun p hp => Nat.lt_trans (l1zz p hp) l2zz)); (have o2zz := Nat.ne_of_gt l2zz); (have o3zz := Nat.ne_of_lt l2zz); (try dsimp only)))); trivial)
theorem newOk603 (P : Params) : NewOk (hd.heap_1 P) ⟨PR, P⟩ 603 := by
  refine ⟨?_, ?_, ?_⟩
  · kernel_rfl
  · kernel_rfl
  · kernel_rfl
theorem ownOk603 (P : Params) : OwnOk (hd.heap_1 P) ⟨PR, P⟩ 603 96 373 := by
  refine ⟨?_, ?_, ?_, ?_, ?_, ?_⟩
  · kernel_rfl
  · kernel_rfl
  · kernel_rfl
  · kernel_rfl
  · kernel_rfl
  · kernel_rfl
set_option maxRecDepth 100000 in
set_option maxHeartbeats 0 in
theorem c_sio (w p loose mean mg mb) (news : News') (b : Str) (t : Tok)
   : Ctr w p loose mean mg mb (.ref 603) [.str b t] [] news 4 80
      (fun r news' => ∃ io dio h1 h2 h3 t1 t2 t3 u1 u2 u3, r = .ref io ∧ news' = (io, instObj 603 dio) :: (dio, sioD h1 h2 h3 t1 t2 t3 u1 u2 u3 b ((0 : Nat) : Int)) :: news ∧ (∀ p ∈ news, p.1 ≠ dio) ∧ (∀ p ∈ news, p.1 ≠ io)) := by
  intro dp un gd cn cs a ccd cl outer A₀ base h₀ L m s Q E B F X N T hk hd hu hret
  refine' call_own ?X ?hl ?e4 (ownOk603 _) ?hg ?h
  case X => exact X.keeps F.keep
  case hl => k_is
  case e4 => kernel_rfl
  case hg =>
    intro A' Q' hq
    refine' cls_sm ?k1 ?k2 ?k3 ?k4 ?k5 ?k6 ?k7 ?_; (case k1 => k_asm); (case k2 => k_asm); (case k3 => k_is); (case k4 => k_is); (case k5 => k_is); (case k6 => k_is); (case k7 => k_handed)
    exact hq _
  case h =>
    intro tk
    refine wpAny_call ?_
    k_dflt (walk_at "mine:both")
    k_steps
    refine' NewBack.intro ?K ?get ?_
    case K => exact Frag.In.keeps (by k_asm) (Fr.keep (by k_asm))
    case get => exact News.get (by k_asm) (.head _)
    refine wpAny_call ?_
    k_dflt (walk_at "mine:enter")
    k_steps
    all_goals exact hret _ _ _ _ (by k_asm) (by k_asm) ⟨_, _, _, _, _, _, _, _, _, _, _, rfl, rfl, by assumption, by assumption⟩
end
section
local macro_rules | `(tactic| k_all) => `(tactic| k_extra "w47")
local macro_rules | `(tactic| ktr_units) => `(tactic| k_extra "w48")
local macro_rules | `(tactic| ktr_room) => `(tactic| k_extra "w49")
section
open PySem PySem.W PyProof.Rows
theorem ws_SH : True := by
  (k_with_none; (k_with "w1" => ((refine' code_def ?k1 ?k2 ?k3 ?k4 ?k5 ?kA ?kF ?kK ?k6 ?k7 ?k8 ?k9 ?kB ?_ ?c2 ?c3 ?c4 ?c5; (case kA => exact rfl); (case kF => exact rfl); (case kK => first | (with_reducible assumption) | assumption); (case k1 => k_asm); (case k2 => k_asm); (case k3 => k_asm); (case k4 => k_asm); (case k5 => k_asm); (case k6 => k_is); (case k7 => k_is); (case k8 => ktr_room); (case k9 => first | exact BindsTo.of_eq rfl | exact binds_K (by k_in) rfl (by k_is) rfl rfl rfl); (case c5 => decide); (case kB => exact locs rfl); (case c2 => exact rfl); (case c3 => exact rfl); (case c4 => exact rfl); k_whole; intro g'zz L'zz h'zz FG'zz F'zz N'zz B'zz X'zz T'zz; (try dsimp only); (try k_fold)))); (k_with "w2" => (((case k1 => k_asm); (case k2 => k_asm); (case k3 => k_asm); (case k4 => k_asm); (case k5 => k_asm); (case kK => first | (with_reducible assumption) | exact rfl | assumption); (case kd => ktr_room); (case ku => ktr_units)))); (k_with "w3" => (first | (refine in_has (b := false) ?hh ?_; (case hh => first | assumption | decide +kernel)) | (refine in_has (b := true) ?hh ?_; (case hh => first | assumption | decide +kernel)) | (refine in_has rfl ?_))); (k_with "w4" => (first | (refine notin_has (b := false) ?hh ?_; (case hh => first | assumption | decide +kernel)) | (refine notin_has (b := true) ?hh ?_; (case hh => first | assumption | decide +kernel)))); (k_with "w5" => (first | (refine eq_b (b := false) ?hh ?_; (case hh => first | assumption | decide +kernel)) | (refine eq_b (b := true) ?hh ?_; (case hh => first | assumption | decide +kernel)))); (k_with "w6" => (((first | (refine truthy_b (b := true) ?hh ?hl ?_; (case hh => first | assumption | exact full_one _ | decide +kernel); (case hl => first | assumption | exact one_short _ | decide +kernel)) | (refine truthy_b (b := false) ?hh ?hl ?_; (case hh => first | assumption | decide +kernel); (case hl => first | assumption | decide +kernel))); intro _))); (k_with "w7" => ((refine' kp_both ?k1 ?k2 ?k3 ?k4 ?k5 ?kA ?kF ?kK ?k6 ?k7 ?k8 ?kV ?kX ?kQ ?kM ?kN ?kD ?kR ?kP ?kS ?kT ?kB ?_ ?c2 ?c3 ?c4 ?c5; (case kA => exact rfl); (case kF => exact rfl); (case kK => first | (with_reducible assumption) | assumption); (case k1 => k_asm); (case k2 => k_asm); (case k3 => k_asm); (case k4 => k_asm); (case k5 => k_asm); (case k6 => k_is); (case k7 => k_is); (case k8 => ktr_room); (case kV => kp_lit); (case kX => kp_lit); (case kQ => exact rfl); (case kM => exact rfl); (case kN => exact rfl); (case kD => kp_flats); (case kR => exact rfl); (case kP => exact rfl); (case kS => exact fun _ => rfl); (case kT => exact fun _ _ => rfl); (case kB => exact fun _ _ => locs rfl); (case c5 => decide); (case c2 => exact rfl); (case c3 => exact rfl); (case c4 => exact rfl); k_whole; intro C'zz D'zz o'zz g'zz L'zz h'zz tk'zz l1zz l2zz lo'zz hs'zz fs'zz FG'zz F'zz N'zz B'zz X'zz T'zz; (try k_lt l1zz); (try k_lt2 l2zz); (try dsimp only); (try k_fold)))); (k_with "w8" => (((with_reducible show wpAny _ _ (callWith _ (Value.builtin _) (_ :: _) (backTo _ (starEach (_ :: _) _)) []) _ _ _); refine callWith_method1 ?_))); (k_with "w9" => ((k_here; k_dflt (refine' get_own ?k1 ?k2 ?k3 ?k4 ?k5 ?k6 ?k7 ?k8 ?k9 ?_; (case k1 => k_asm); (case k2 => k_asm); (case k3 => k_inst); (case k4 => k_is); (case k5 => k_is); (case k6 => k_is); (case k7 => k_is); (case k8 => k_get); (case k9 => k_handed); k_whole)))); (k_with "w10" => (((repeat (first | (with_reducible exact List.forall_mem_nil _) | (intro pzz hpzz; (repeat (first | (with_reducible exact hpzz) | (with_reducible refine List.mem_cons_of_mem _ ?_))); done) | (refine List.forall_mem_cons.mpr ⟨by k_mem, ?_⟩))); first | done | (intro pzz hpzz; repeat (first | exact hpzz | apply List.Mem.tail))))); (k_with "w47" => (first | assumption | exact List.forall_mem_nil _ | (refine' List.forall_mem_cons.mpr ⟨?a, ?b⟩; (case a => k_ne); (case b => k_all)))); (k_with "w48" => ((have hcL9zz := cLine_is; (try simp only [units_make, units_in1, units_deeper, Around.mark_units, units_caller] at *); (try dsimp only [ktrTop] at *); omega))); (k_with "w49" => (((try simp only [depth_make, depth_in1, depth_deeper, depth_caller] at *); (try dsimp only [ktrTop] at *); (try simp only [recursionLimit] at *); omega))); (k_with "w15" => ((k_here; k_dflt (refine' dq_call ?k1 ?k2 ?_; (case k1 => k_asm); (case k2 => k_asm)); intro q'zz h'zz F'zz N'zz l1zz; (have o1zz := off_of l1zz); (simp only [List.forall_mem_cons] at o1zz); (repeat (obtain ⟨_, o1zz⟩ := o1zz))))); trivial)
def tokF (l : List Tok) (n : Nat) : Tok := l.getD n 0
set_option maxRecDepth 100000 in
set_option maxHeartbeats 0 in
theorem c_shlex (w p loose mean mg mb) (news : News') (b : Str) (t : Tok)
   : Ctr w p loose mean mg mb (.ref 738) [.str b t] [(Str.ofString "posix", .bool true)] news 10 160
      (fun r news' => ∃ io dio lx dlx pb fs h1 h2 h3 t1 t2 t3 u1 u2 u3 ks vs s1 s2 s3, r = .ref lx ∧ news' = (fs, dqObj 0 []) :: (pb, dqObj 0 []) :: (io, instObj 603 dio) :: (dio, sioD h1 h2 h3 t1 t2 t3 u1 u2 u3 b ((0 : Nat) : Int)) :: (lx, instObj 738 dlx) :: (dlx, lexD w.params ks vs (Str.ofString "#") false pb fs (.ref io) .none (.str (Str.ofString " ") s1) (.int 1 s2) (.str (Str.ofString "") s3)) :: news ∧ (∀ p ∈ news, p.1 ≠ dio) ∧ (∀ p ∈ news, p.1 ≠ dlx) ∧ (∀ p ∈ news, p.1 ≠ fs) ∧ (∀ p ∈ news, p.1 ≠ lx) ∧ pb ≠ fs ∧ (∀ p ∈ news, p.1 ≠ io) ∧ (∀ p ∈ news, p.1 ≠ pb)) := by
  intro dp un gd cn cs a ccd cl outer A₀ base h₀ L m s Q E B F X N T hk hd hu hret
  (k_with_none; (k_with "w1" => ((refine' code_def ?k1 ?k2 ?k3 ?k4 ?k5 ?kA ?kF ?kK ?k6 ?k7 ?k8 ?k9 ?kB ?_ ?c2 ?c3 ?c4 ?c5; (case kA => exact rfl); (case kF => exact rfl); (case kK => first | (with_reducible assumption) | assumption); (case k1 => k_asm); (case k2 => k_asm); (case k3 => k_asm); (case k4 => k_asm); (case k5 => k_asm); (case k6 => k_is); (case k7 => k_is); (case k8 => ktr_room); (case k9 => first | exact BindsTo.of_eq rfl | exact binds_K (by k_in) rfl (by k_is) rfl rfl rfl); (case c5 => decide); (case kB => exact locs rfl); (case c2 => exact rfl); (case c3 => exact rfl); (case c4 => exact rfl); k_whole; intro g'zz L'zz h'zz FG'zz F'zz N'zz B'zz X'zz T'zz; (try dsimp only); (try k_fold)))); (k_with "w2" => (((case k1 => k_asm); (case k2 => k_asm); (case k3 => k_asm); (case k4 => k_asm); (case k5 => k_asm); (case kK => first | (with_reducible assumption) | exact rfl | assumption); (case kd => ktr_room); (case ku => ktr_units)))); (k_with "w3" => (first | (refine in_has (b := false) ?hh ?_; (case hh => first | assumption | decide +kernel)) | (refine in_has (b := true) ?hh ?_; (case hh => first | assumption | decide +kernel)) | (refine in_has rfl ?_))); (k_with "w4" => (first | (refine notin_has (b := false) ?hh ?_; (case hh => first | assumption | decide +kernel)) | (refine notin_has (b := true) ?hh ?_; (case hh => first | assumption | decide +kernel)))); (k_with "w5" => (first | (refine eq_b (b := false) ?hh ?_; (case hh => first | assumption | decide +kernel)) | (refine eq_b (b := true) ?hh ?_; (case hh => first | assumption | decide +kernel)))); (k_with "w6" => (((first | (refine truthy_b (b := true) ?hh ?hl ?_; (case hh => first | assumption | exact full_one _ | decide +kernel); (case hl => first | assumption | exact one_short _ | decide +kernel)) | (refine truthy_b (b := false) ?hh ?hl ?_; (case hh => first | assumption | decide +kernel); (case hl => first | assumption | decide +kernel))); intro _))); (k_with "w7" => ((refine' kp_both ?k1 ?k2 ?k3 ?k4 ?k5 ?kA ?kF ?kK ?k6 ?k7 ?k8 ?kV ?kX ?kQ ?kM ?kN ?kD ?kR ?kP ?kS ?kT ?kB ?_ ?c2 ?c3 ?c4 ?c5; (case kA => exact rfl); (case kF => exact rfl); (case kK => first | (with_reducible assumption) | assumption); (case k1 => k_asm); (case k2 => k_asm); (case k3 => k_asm); (case k4 => k_asm); (case k5 => k_asm); (case k6 => k_is); (case k7 => k_is); (case k8 => ktr_room); (case kV => kp_lit); (case kX => kp_lit); (case kQ => exact rfl); (case kM => exact rfl); (case kN => exact rfl); (case kD => kp_flats); (case kR => exact rfl); (case kP => exact rfl); (case kS => exact fun _ => rfl); (case kT => exact fun _ _ => rfl); (case kB => exact fun _ _ => locs rfl); (case c5 => decide); (case c2 => exact rfl); (case c3 => exact rfl); (case c4 => exact rfl); k_whole; intro C'zz D'zz o'zz g'zz L'zz h'zz tk'zz l1zz l2zz lo'zz hs'zz fs'zz FG'zz F'zz N'zz B'zz X'zz T'zz; (try k_lt l1zz); (try k_lt2 l2zz); (try dsimp only); (try k_fold)))); (k_with "w8" => (((with_reducible show wpAny _ _ (callWith _ (Value.builtin _) (_ :: _) (backTo _ (starEach (_ :: _) _)) []) _ _ _); refine callWith_method1 ?_))); (k_with "w9" => ((k_here; k_dflt (refine' get_own ?k1 ?k2 ?k3 ?k4 ?k5 ?k6 ?k7 ?k8 ?k9 ?_; (case k1 => k_asm); (case k2 => k_asm); (case k3 => k_inst); (case k4 => k_is); (case k5 => k_is); (case k6 => k_is); (case k7 => k_is); (case k8 => k_get); (case k9 => k_handed); k_whole)))); (k_with "w10" => (((repeat (first | (with_reducible exact List.forall_mem_nil _) | (intro pzz hpzz; (repeat (first | (with_reducible exact hpzz) | (with_reducible refine List.mem_cons_of_mem _ ?_))); done) | (refine List.forall_mem_cons.mpr ⟨by k_mem, ?_⟩))); first | done | (intro pzz hpzz; repeat (first | exact hpzz | apply List.Mem.tail))))); (k_with "w47" => (first | assumption | exact List.forall_mem_nil _ | (refine' List.forall_mem_cons.mpr ⟨?a, ?b⟩; (case a => k_ne); (case b => k_all)))); (k_with "w48" => ((have hcL9zz := cLine_is; (try simp only [units_make, units_in1, units_deeper, Around.mark_units, units_caller] at *); (try dsimp only [ktrTop] at *); omega))); (k_with "w49" => (((try simp only [depth_make, depth_in1, depth_deeper, depth_caller] at *); (try dsimp only [ktrTop] at *); (try simp only [recursionLimit] at *); omega))); (k_with "w15" => ((k_here; k_dflt (refine' dq_call ?k1 ?k2 ?_; (case k1 => k_asm); (case k2 => k_asm)); intro q'zz h'zz F'zz N'zz l1zz; (have o1zz := off_of l1zz); (simp only [List.forall_mem_cons] at o1zz); (repeat (obtain ⟨_, o1zz⟩ := o1zz))))); skip)
  (k_with "mine:call ref" => (k_dflt (refine' ctr_use (c_sio _ _ _ _ _ _ _ _ _) ?k1 ?k2 ?k3 ?k4 ?k5 ?kK ?kd ?ku ?_; walk_at "mine:call"); intro r9 n9 h9 tk9 F9 N9 P9; obtain ⟨io9, dio9, _, _, _, _, _, _, _, _, _, e9, e9', o8, o9⟩ := P9; subst e9 e9'; simp only [List.forall_mem_cons] at o8 o9; obtain ⟨oa, ob, oc⟩ := o8; obtain ⟨od, oe, of⟩ := o9; (try dsimp only)))
  k_dflt (refine' call_cls ?k1 ?k2 ?k3 ?k4 ?k5 ?k6 ?_; (case k1 => k_asm); (case k2 => k_asm); (case k3 => k_asm); (case k4 => k_is); (case k5 => k_is); (case k6 => k_is))
  intro x' d' h' F' N' l1 l2
  have o1 := off_of l1
  have o2 := Nat.ne_of_gt l2
  have o3 := Nat.ne_of_lt l2
  have o4 := off_of (fun p hp => Nat.lt_trans (l1 p hp) l2)
  walk_at "mine:enter"
  k_steps
  all_goals exact hret _ _ _ _ (by k_asm) (by k_asm) ⟨io9, dio9, x', d', _, _, _, _, _, _, _, _, _, _, _, tokF [_, _, _, _, _, _, _, _, _, _, _, _, _, _, _, _, _, _, _], tokF [0, 0, 0, 0, _, _, _, 0, _, _, _, 0, 0, 0, _, 0, 0, 0, _], _, _, _, rfl, rfl, by assumption, by assumption, by assumption, by assumption, by first | assumption | exact Ne.symm (by assumption), by assumption, by assumption⟩
end
section
open PySem PySem.W PyProof.Rows
/-- the first n addresses of the ledger lie apart from all behind them -/
def ND : Nat → News' → Prop
  | 0, _ => True
  | _ + 1, [] => True
  | n + 1, q :: l => (∀ p ∈ l, p.1 ≠ q.1) ∧ ND n l
theorem nd_cons {n : Nat} {a : Addr} {o : Obj} {l : News'} : ND (n + 1) ((a, o) :: l) ↔ (∀ p ∈ l, p.1 ≠ a) ∧ ND n l := Iff.rfl
theorem off_lt {a : Addr} {l : News'} (h : AllLt a l) : ∀ p ∈ l, p.1 ≠ a := by
  induction l with
  | nil => intro p hp; cases hp
  | cons q l ih =>
    intro p hp
    cases hp with
    | head => exact Nat.ne_of_lt h.1
    | tail _ hp => exact ih h.2 p hp
/-- a stream on the stack of files -/
structure Fm where
  tp : Addr
  io : Addr
  dio : Addr
  h1 : Int
  h2 : Int
  h3 : Int
  t1 : Tok
  t2 : Tok
  t3 : Tok
  u1 : Tok
  u2 : Tok
  u3 : Tok
  l : List Nat
  p : Nat
  vfile : Value
  vln : Value
abbrev tupO (vfile : Value) (io : Addr) (vln : Value) : Obj := { cls := .type "tuple", data := .seq #[vfile, .ref io, vln] }
def fmsLed : List Fm → News' → News'
  | [], tl => tl
  | f :: fs, tl => (f.tp, tupO f.vfile f.io f.vln) :: (f.io, instObj 603 f.dio) :: (f.dio, sioD f.h1 f.h2 f.h3 f.t1 f.t2 f.t3 f.u1 f.u2 f.u3 ⟨f.l.toArray⟩ (f.p : Int)) :: fmsLed fs tl
/-- the lexer's ledger: the stream that it reads, itself, its stack -/
abbrev gLed (P : Params) (lx dlx pb fs : Addr) (rest : News') (ks vs : Nat → Tok) (cm : Str) (n : Int) (x : Fm) (st : List Fm) (vst vtok : Value) : News' :=
  rtLed P x.io x.dio lx dlx pb fs ((fs, dqObj n (st.map fun f => .ref f.tp)) :: (pb, dqObj 0 []) :: fmsLed st rest) x.h1 x.h2 x.h3 x.t1 x.t2 x.t3 x.u1 x.u2 ks vs cm ⟨x.l.toArray⟩ x.vfile x.vln x.p x.u3 vst vtok
def FmOk (f : Fm) : Prop := Okr (f.l.drop f.p) ∧ f.l.length ≤ 1048576 ∧ handedIn f.vfile = true ∧ handedIn f.vln = true
def getS : List Fm → Fm → Option (List Nat × Fm × List Fm)
  | [], x => match skipS (x.l.drop x.p) x.p with
    | .word w p => some (w, { x with p := p }, [])
    | .end_ _ => none
  | f :: st, x => match skipS (x.l.drop x.p) x.p with
    | .word w p => some (w, { x with p := p }, f :: st)
    | .end_ _ => getS st f
def GPost (P : Params) (lx dlx pb fs : Addr) (rest : News') (ks vs : Nat → Tok) (cm : Str) (x : Fm) (st : List Fm) (r : Value) (news : News') : Prop :=
  match getS st x with
  | none => r = .none ∧ ∃ n x' s, news = gLed P lx dlx pb fs rest ks vs cm n x' [] .none (.str (Str.ofString "") s)
  | some (wd, x', st') => (∃ t, r = .str ⟨wd.toArray⟩ t) ∧ ∃ n u3 s1 s2, news = gLed P lx dlx pb fs rest ks vs cm n { x' with u3 := u3 } st' (.str (Str.ofString " ") s1) (.str (Str.ofString "") s2)
theorem fms_off {st : List Fm} {tl : News'} {a : Addr} (h : ∀ p ∈ fmsLed st tl, p.1 ≠ a) : ∀ p ∈ tl, p.1 ≠ a := by
  induction st with
  | nil => exact h
  | cons f st ih => exact ih fun p hp => h p (.tail _ (.tail _ (.tail _ hp)))
theorem fms_sub {st : List Fm} {tl : News'} : ∀ p ∈ tl, p ∈ fmsLed st tl := by
  induction st with
  | nil => exact fun _ h => h
  | cons f st ih => exact fun p hp => .tail _ (.tail _ (.tail _ (ih p hp)))
end
section
local macro_rules | `(tactic| k_handed) => `(tactic| assumption)
section
open PySem PySem.W PyProof.Rows
theorem ws_GT : True := by
  (k_with_none; (k_with "w1" => ((refine' code_def ?k1 ?k2 ?k3 ?k4 ?k5 ?kA ?kF ?kK ?k6 ?k7 ?k8 ?k9 ?kB ?_ ?c2 ?c3 ?c4 ?c5; (case kA => exact rfl); (case kF => exact rfl); (case kK => first | (with_reducible assumption) | assumption); (case k1 => k_asm); (case k2 => k_asm); (case k3 => k_asm); (case k4 => k_asm); (case k5 => k_asm); (case k6 => k_is); (case k7 => k_is); (case k8 => ktr_room); (case k9 => first | exact BindsTo.of_eq rfl | exact binds_K (by k_in) rfl (by k_is) rfl rfl rfl); (case c5 => decide); (case kB => exact locs rfl); (case c2 => exact rfl); (case c3 => exact rfl); (case c4 => exact rfl); k_whole; intro g'zz L'zz h'zz FG'zz F'zz N'zz B'zz X'zz T'zz; (try dsimp only); (try k_fold)))); (k_with "w2" => (((case k1 => k_asm); (case k2 => k_asm); (case k3 => k_asm); (case k4 => k_asm); (case k5 => k_asm); (case kK => first | (with_reducible assumption) | exact rfl | assumption); (case kd => ktr_room); (case ku => ktr_units)))); (k_with "w3" => (first | (refine in_has (b := false) ?hh ?_; (case hh => first | assumption | decide +kernel)) | (refine in_has (b := true) ?hh ?_; (case hh => first | assumption | decide +kernel)) | (refine in_has rfl ?_))); (k_with "w4" => (first | (refine notin_has (b := false) ?hh ?_; (case hh => first | assumption | decide +kernel)) | (refine notin_has (b := true) ?hh ?_; (case hh => first | assumption | decide +kernel)))); (k_with "w5" => (first | (refine eq_b (b := false) ?hh ?_; (case hh => first | assumption | decide +kernel)) | (refine eq_b (b := true) ?hh ?_; (case hh => first | assumption | decide +kernel)))); (k_with "w6" => (((first | (refine truthy_b (b := true) ?hh ?hl ?_; (case hh => first | assumption | exact full_one _ | decide +kernel); (case hl => first | assumption | exact one_short _ | decide +kernel)) | (refine truthy_b (b := false) ?hh ?hl ?_; (case hh => first | assumption | decide +kernel); (case hl => first | assumption | decide +kernel))); intro _))); (k_with "w7" => ((refine' kp_both ?k1 ?k2 ?k3 ?k4 ?k5 ?kA ?kF ?kK ?k6 ?k7 ?k8 ?kV ?kX ?kQ ?kM ?kN ?kD ?kR ?kP ?kS ?kT ?kB ?_ ?c2 ?c3 ?c4 ?c5; (case kA => exact rfl); (case kF => exact rfl); (case kK => first | (with_reducible assumption) | assumption); (case k1 => k_asm); (case k2 => k_asm); (case k3 => k_asm); (case k4 => k_asm); (case k5 => k_asm); (case k6 => k_is); (case k7 => k_is); (case k8 => ktr_room); (case kV => kp_lit); (case kX => kp_lit); (case kQ => exact rfl); (case kM => exact rfl); (case kN => exact rfl); (case kD => kp_flats); (case kR => exact rfl); (case kP => exact rfl); (case kS => exact fun _ => rfl); (case kT => exact fun _ _ => rfl); (case kB => exact fun _ _ => locs rfl); (case c5 => decide); (case c2 => exact rfl); (case c3 => exact rfl); (case c4 => exact rfl); k_whole; intro C'zz D'zz o'zz g'zz L'zz h'zz tk'zz l1zz l2zz lo'zz hs'zz fs'zz FG'zz F'zz N'zz B'zz X'zz T'zz; (try k_lt l1zz); (try k_lt2 l2zz); (try dsimp only); (try k_fold)))); (k_with "w8" => (((with_reducible show wpAny _ _ (callWith _ (Value.builtin _) (_ :: _) (backTo _ (starEach (_ :: _) _)) []) _ _ _); refine callWith_method1 ?_))); (k_with "w9" => ((k_here; k_dflt (refine' get_own ?k1 ?k2 ?k3 ?k4 ?k5 ?k6 ?k7 ?k8 ?k9 ?_; (case k1 => k_asm); (case k2 => k_asm); (case k3 => k_inst); (case k4 => k_is); (case k5 => k_is); (case k6 => k_is); (case k7 => k_is); (case k8 => k_get); (case k9 => k_handed); k_whole)))); (k_with "w10" => (((repeat (first | (with_reducible exact List.forall_mem_nil _) | (intro pzz hpzz; (repeat (first | (with_reducible exact hpzz) | (with_reducible refine List.mem_cons_of_mem _ ?_))); done) | (refine List.forall_mem_cons.mpr ⟨by k_mem, ?_⟩))); first | done | (intro pzz hpzz; repeat (first | exact hpzz | apply List.Mem.tail))))); (k_with "w47" => (first | assumption | exact List.forall_mem_nil _ | (refine' List.forall_mem_cons.mpr ⟨?a, ?b⟩; (case a => k_ne); (case b => k_all)))); (k_with "w48" => ((have hcL9zz := cLine_is; (try simp only [units_make, units_in1, units_deeper, Around.mark_units, units_caller] at *); (try dsimp only [ktrTop] at *); omega))); (k_with "w49" => (((try simp only [depth_make, depth_in1, depth_deeper, depth_caller] at *); (try dsimp only [ktrTop] at *); (try simp only [recursionLimit] at *); omega))); (k_with "w16" => ((k_here; k_dflt (refine' dq_truthy ?k1 ?k2 ?k3 ?_; (case k1 => k_asm); (case k2 => k_mem); (case k3 => first | assumption | decide))))); (k_with "w17" => ((k_here; k_dflt (first | (refine' dq_get dq_slot_app dq_ty_app ?k1 ?k2 ?_; (case k1 => k_asm); (case k2 => k_mem)) | (refine' dq_get dq_slot_pop dq_ty_pop ?k1 ?k2 ?_; (case k1 => k_asm); (case k2 => k_mem)))))); (k_with "w18" => ((k_here; k_dflt (refine' dq_appendleft ?k1 ?k2 ?k3 ?k4 ?_; (case k1 => k_asm); (case k2 => k_asm); (case k3 => k_upd); (case k4 => first | assumption | decide)); intro h'zz F'zz N'zz))); (k_with "w19" => ((k_here; k_dflt (refine' dq_popleft ?k1 ?k2 ?k3 ?k4 ?_; (case k1 => k_asm); (case k2 => k_asm); (case k3 => k_upd); (case k4 => first | assumption | decide)); intro h'zz F'zz N'zz))); trivial)
set_option maxRecDepth 100000 in
set_option maxHeartbeats 0 in
/-- push_source(b, number) -/
theorem c_push (w p loose mean mg mb) (rest : News') (lx dlx pb fs : Addr) (ks vs : Nat → Tok) (cm : Str) (io : Addr) (vfile vst vln vtok : Value) (n : Int) (items : List Value) (b : Str) (t : Tok) (num : Int) (t' : Tok)
   (o2 : ∀ p ∈ rest, p.1 ≠ dlx) (o3 : ∀ p ∈ rest, p.1 ≠ fs) (o4 : pb ≠ fs) (hz : items.length ≤ 900) (hv : handedIn vfile = true) (hv2 : handedIn vln = true)
   : Ctr w p loose mean mg mb (.ref 685) [.ref lx, .str b t, .int num t'] [] ((fs, dqObj n items) :: (lx, instObj 738 dlx) :: (dlx, lexD w.params ks vs cm true pb fs (.ref io) vfile vst vln vtok) :: rest) 10 160
      (fun r news' => r = .none ∧ ∃ tp io' dio' h1 h2 h3 t1 t2 t3 u1 u2 u3 s2, news' = (tp, { cls := .type "tuple", data := .seq #[vfile, .ref io, vln] }) :: (io', instObj 603 dio') :: (dio', sioD h1 h2 h3 t1 t2 t3 u1 u2 u3 b ((0 : Nat) : Int)) :: (fs, dqObj (n + 1) (.ref tp :: items)) :: (lx, instObj 738 dlx) :: (dlx, lexD w.params ks vs cm true pb fs (.ref io') (.int num t') vst (.int 1 s2) vtok) :: rest
        ∧ (∀ p ∈ rest, p.1 ≠ tp ∧ p.1 ≠ io' ∧ p.1 ≠ dio')) := by
  intro dp un gd cn cs a ccd cl outer A₀ base h₀ L m s Q E B F X N T hk hd hu hret
  have d4 : lx ≠ dlx := ne_obj N (.tail _ (.head _)) (.tail _ (.tail _ (.head _))) inst_ne_dict
  have d5 : fs ≠ dlx := ne_obj N (.head _) (.tail _ (.tail _ (.head _))) dq_ne_dict
  have d6 : fs ≠ lx := ne_obj N (.head _) (.tail _ (.head _)) dq_ne_inst
  refine wpAny_call ?_
  k_dflt (walk_at "mine:enter")
  (k_with_none; (k_with "w1" => ((refine' code_def ?k1 ?k2 ?k3 ?k4 ?k5 ?kA ?kF ?kK ?k6 ?k7 ?k8 ?k9 ?kB ?_ ?c2 ?c3 ?c4 ?c5; (case kA => exact rfl); (case kF => exact rfl); (case kK => first | (with_reducible assumption) | assumption); (case k1 => k_asm); (case k2 => k_asm); (case k3 => k_asm); (case k4 => k_asm); (case k5 => k_asm); (case k6 => k_is); (case k7 => k_is); (case k8 => ktr_room); (case k9 => first | exact BindsTo.of_eq rfl | exact binds_K (by k_in) rfl (by k_is) rfl rfl rfl); (case c5 => decide); (case kB => exact locs rfl); (case c2 => exact rfl); (case c3 => exact rfl); (case c4 => exact rfl); k_whole; intro g'zz L'zz h'zz FG'zz F'zz N'zz B'zz X'zz T'zz; (try dsimp only); (try k_fold)))); (k_with "w2" => (((case k1 => k_asm); (case k2 => k_asm); (case k3 => k_asm); (case k4 => k_asm); (case k5 => k_asm); (case kK => first | (with_reducible assumption) | exact rfl | assumption); (case kd => ktr_room); (case ku => ktr_units)))); (k_with "w3" => (first | (refine in_has (b := false) ?hh ?_; (case hh => first | assumption | decide +kernel)) | (refine in_has (b := true) ?hh ?_; (case hh => first | assumption | decide +kernel)) | (refine in_has rfl ?_))); (k_with "w4" => (first | (refine notin_has (b := false) ?hh ?_; (case hh => first | assumption | decide +kernel)) | (refine notin_has (b := true) ?hh ?_; (case hh => first | assumption | decide +kernel)))); (k_with "w5" => (first | (refine eq_b (b := false) ?hh ?_; (case hh => first | assumption | decide +kernel)) | (refine eq_b (b := true) ?hh ?_; (case hh => first | assumption | decide +kernel)))); (k_with "w6" => (((first | (refine truthy_b (b := true) ?hh ?hl ?_; (case hh => first | assumption | exact full_one _ | decide +kernel); (case hl => first | assumption | exact one_short _ | decide +kernel)) | (refine truthy_b (b := false) ?hh ?hl ?_; (case hh => first | assumption | decide +kernel); (case hl => first | assumption | decide +kernel))); intro _))); (k_with "w7" => ((refine' kp_both ?k1 ?k2 ?k3 ?k4 ?k5 ?kA ?kF ?kK ?k6 ?k7 ?k8 ?kV ?kX ?kQ ?kM ?kN ?kD ?kR ?kP ?kS ?kT ?kB ?_ ?c2 ?c3 ?c4 ?c5; (case kA => exact rfl); (case kF => exact rfl); (case kK => first | (with_reducible assumption) | assumption); (case k1 => k_asm); (case k2 => k_asm); (case k3 => k_asm); (case k4 => k_asm); (case k5 => k_asm); (case k6 => k_is); (case k7 => k_is); (case k8 => ktr_room); (case kV => kp_lit); (case kX => kp_lit); (case kQ => exact rfl); (case kM => exact rfl); (case kN => exact rfl); (case kD => kp_flats); (case kR => exact rfl); (case kP => exact rfl); (case kS => exact fun _ => rfl); (case kT => exact fun _ _ => rfl); (case kB => exact fun _ _ => locs rfl); (case c5 => decide); (case c2 => exact rfl); (case c3 => exact rfl); (case c4 => exact rfl); k_whole; intro C'zz D'zz o'zz g'zz L'zz h'zz tk'zz l1zz l2zz lo'zz hs'zz fs'zz FG'zz F'zz N'zz B'zz X'zz T'zz; (try k_lt l1zz); (try k_lt2 l2zz); (try dsimp only); (try k_fold)))); (k_with "w8" => (((with_reducible show wpAny _ _ (callWith _ (Value.builtin _) (_ :: _) (backTo _ (starEach (_ :: _) _)) []) _ _ _); refine callWith_method1 ?_))); (k_with "w9" => ((k_here; k_dflt (refine' get_own ?k1 ?k2 ?k3 ?k4 ?k5 ?k6 ?k7 ?k8 ?k9 ?_; (case k1 => k_asm); (case k2 => k_asm); (case k3 => k_inst); (case k4 => k_is); (case k5 => k_is); (case k6 => k_is); (case k7 => k_is); (case k8 => k_get); (case k9 => k_handed); k_whole)))); (k_with "w10" => (((repeat (first | (with_reducible exact List.forall_mem_nil _) | (intro pzz hpzz; (repeat (first | (with_reducible exact hpzz) | (with_reducible refine List.mem_cons_of_mem _ ?_))); done) | (refine List.forall_mem_cons.mpr ⟨by k_mem, ?_⟩))); first | done | (intro pzz hpzz; repeat (first | exact hpzz | apply List.Mem.tail))))); (k_with "w47" => (first | assumption | exact List.forall_mem_nil _ | (refine' List.forall_mem_cons.mpr ⟨?a, ?b⟩; (case a => k_ne); (case b => k_all)))); (k_with "w48" => ((have hcL9zz := cLine_is; (try simp only [units_make, units_in1, units_deeper, Around.mark_units, units_caller] at *); (try dsimp only [ktrTop] at *); omega))); (k_with "w49" => (((try simp only [depth_make, depth_in1, depth_deeper, depth_caller] at *); (try dsimp only [ktrTop] at *); (try simp only [recursionLimit] at *); omega))); (k_with "w16" => ((k_here; k_dflt (refine' dq_truthy ?k1 ?k2 ?k3 ?_; (case k1 => k_asm); (case k2 => k_mem); (case k3 => first | assumption | decide))))); (k_with "w17" => ((k_here; k_dflt (first | (refine' dq_get dq_slot_app dq_ty_app ?k1 ?k2 ?_; (case k1 => k_asm); (case k2 => k_mem)) | (refine' dq_get dq_slot_pop dq_ty_pop ?k1 ?k2 ?_; (case k1 => k_asm); (case k2 => k_mem)))))); (k_with "w18" => ((k_here; k_dflt (refine' dq_appendleft ?k1 ?k2 ?k3 ?k4 ?_; (case k1 => k_asm); (case k2 => k_asm); (case k3 => k_upd); (case k4 => first | assumption | decide)); intro h'zz F'zz N'zz))); (k_with "w19" => ((k_here; k_dflt (refine' dq_popleft ?k1 ?k2 ?k3 ?k4 ?_; (case k1 => k_asm); (case k2 => k_asm); (case k3 => k_upd); (case k4 => first | assumption | decide)); intro h'zz F'zz N'zz))); skip)
  (k_with "mine:call ref" => (k_dflt (refine' ctr_use (c_sio _ _ _ _ _ _ _ _ _) ?k1 ?k2 ?k3 ?k4 ?k5 ?kK ?kd ?ku ?_; walk_at "mine:call"); intro r9 n9 h9 tk9 F9 N9 P9; obtain ⟨io9, dio9, _, _, _, _, _, _, _, _, _, e9, e9', o8, o9⟩ := P9; subst e9 e9'; simp only [List.forall_mem_cons] at o8 o9; (repeat (obtain ⟨_, o8⟩ := o8)); (repeat (obtain ⟨_, o9⟩ := o9)); (try dsimp only)))
  k_steps
  all_goals (
    rename (_ ∧ _) => l1
    obtain ⟨l11, l12, l13, l14, l15, l16⟩ := l1
    exact hret _ _ _ _ (by k_asm) (by k_asm) ⟨rfl, _, io9, dio9, _, _, _, _, _, _, _, _, _, _, rfl, fun p hp => ⟨off_lt l16 p hp, o9 p hp, o8 p hp⟩⟩)
end
section
open PySem PySem.W PyProof.Rows
theorem ws_GK : True := by
  (k_with_none; (k_with "w1" => ((refine' code_def ?k1 ?k2 ?k3 ?k4 ?k5 ?kA ?kF ?kK ?k6 ?k7 ?k8 ?k9 ?kB ?_ ?c2 ?c3 ?c4 ?c5; (case kA => exact rfl); (case kF => exact rfl); (case kK => first | (with_reducible assumption) | assumption); (case k1 => k_asm); (case k2 => k_asm); (case k3 => k_asm); (case k4 => k_asm); (case k5 => k_asm); (case k6 => k_is); (case k7 => k_is); (case k8 => ktr_room); (case k9 => first | exact BindsTo.of_eq rfl | exact binds_K (by k_in) rfl (by k_is) rfl rfl rfl); (case c5 => decide); (case kB => exact locs rfl); (case c2 => exact rfl); (case c3 => exact rfl); (case c4 => exact rfl); k_whole; intro g'zz L'zz h'zz FG'zz F'zz N'zz B'zz X'zz T'zz; (try dsimp only); (try k_fold)))); (k_with "w2" => (((case k1 => k_asm); (case k2 => k_asm); (case k3 => k_asm); (case k4 => k_asm); (case k5 => k_asm); (case kK => first | (with_reducible assumption) | exact rfl | assumption); (case kd => ktr_room); (case ku => ktr_units)))); (k_with "w3" => (first | (refine in_has (b := false) ?hh ?_; (case hh => first | assumption | decide +kernel)) | (refine in_has (b := true) ?hh ?_; (case hh => first | assumption | decide +kernel)) | (refine in_has rfl ?_))); (k_with "w4" => (first | (refine notin_has (b := false) ?hh ?_; (case hh => first | assumption | decide +kernel)) | (refine notin_has (b := true) ?hh ?_; (case hh => first | assumption | decide +kernel)))); (k_with "w5" => (first | (refine eq_b (b := false) ?hh ?_; (case hh => first | assumption | decide +kernel)) | (refine eq_b (b := true) ?hh ?_; (case hh => first | assumption | decide +kernel)))); (k_with "w6" => (((first | (refine truthy_b (b := true) ?hh ?hl ?_; (case hh => first | assumption | exact full_one _ | decide +kernel); (case hl => first | assumption | exact one_short _ | decide +kernel)) | (refine truthy_b (b := false) ?hh ?hl ?_; (case hh => first | assumption | decide +kernel); (case hl => first | assumption | decide +kernel))); intro _))); (k_with "w7" => ((refine' kp_both ?k1 ?k2 ?k3 ?k4 ?k5 ?kA ?kF ?kK ?k6 ?k7 ?k8 ?kV ?kX ?kQ ?kM ?kN ?kD ?kR ?kP ?kS ?kT ?kB ?_ ?c2 ?c3 ?c4 ?c5; (case kA => exact rfl); (case kF => exact rfl); (case kK => first | (with_reducible assumption) | assumption); (case k1 => k_asm); (case k2 => k_asm); (case k3 => k_asm); (case k4 => k_asm); (case k5 => k_asm); (case k6 => k_is); (case k7 => k_is); (case k8 => ktr_room); (case kV => kp_lit); (case kX => kp_lit); (case kQ => exact rfl); (case kM => exact rfl); (case kN => exact rfl); (case kD => kp_flats); (case kR => exact rfl); (case kP => exact rfl); (case kS => exact fun _ => rfl); (case kT => exact fun _ _ => rfl); (case kB => exact fun _ _ => locs rfl); (case c5 => decide); (case c2 => exact rfl); (case c3 => exact rfl); (case c4 => exact rfl); k_whole; intro C'zz D'zz o'zz g'zz L'zz h'zz tk'zz l1zz l2zz lo'zz hs'zz fs'zz FG'zz F'zz N'zz B'zz X'zz T'zz; (try k_lt l1zz); (try k_lt2 l2zz); (try dsimp only); (try k_fold)))); (k_with "w8" => (((with_reducible show wpAny _ _ (callWith _ (Value.builtin _) (_ :: _) (backTo _ (starEach (_ :: _) _)) []) _ _ _); refine callWith_method1 ?_))); (k_with "w9" => ((k_here; k_dflt (refine' get_own ?k1 ?k2 ?k3 ?k4 ?k5 ?k6 ?k7 ?k8 ?k9 ?_; (case k1 => k_asm); (case k2 => k_asm); (case k3 => k_inst); (case k4 => k_is); (case k5 => k_is); (case k6 => k_is); (case k7 => k_is); (case k8 => k_get); (case k9 => k_handed); k_whole)))); (k_with "w10" => (((repeat (first | (with_reducible exact List.forall_mem_nil _) | (intro pzz hpzz; (repeat (first | (with_reducible exact hpzz) | (with_reducible refine List.mem_cons_of_mem _ ?_))); done) | (refine List.forall_mem_cons.mpr ⟨by k_mem, ?_⟩))); first | done | (intro pzz hpzz; repeat (first | exact hpzz | apply List.Mem.tail))))); (k_with "w47" => (first | assumption | exact List.forall_mem_nil _ | (refine' List.forall_mem_cons.mpr ⟨?a, ?b⟩; (case a => k_ne); (case b => k_all)))); (k_with "w48" => ((have hcL9zz := cLine_is; (try simp only [units_make, units_in1, units_deeper, Around.mark_units, units_caller] at *); (try dsimp only [ktrTop] at *); omega))); (k_with "w49" => (((try simp only [depth_make, depth_in1, depth_deeper, depth_caller] at *); (try dsimp only [ktrTop] at *); (try simp only [recursionLimit] at *); omega))); (k_with "w16" => ((k_here; k_dflt (refine' dq_truthy ?k1 ?k2 ?k3 ?_; (case k1 => k_asm); (case k2 => k_mem); (case k3 => first | assumption | decide))))); (k_with "w17" => ((k_here; k_dflt (first | (refine' dq_get dq_slot_app dq_ty_app ?k1 ?k2 ?_; (case k1 => k_asm); (case k2 => k_mem)) | (refine' dq_get dq_slot_pop dq_ty_pop ?k1 ?k2 ?_; (case k1 => k_asm); (case k2 => k_mem)))))); (k_with "w18" => ((k_here; k_dflt (refine' dq_appendleft ?k1 ?k2 ?k3 ?k4 ?_; (case k1 => k_asm); (case k2 => k_asm); (case k3 => k_upd); (case k4 => first | assumption | decide)); intro h'zz F'zz N'zz))); (k_with "w19" => ((k_here; k_dflt (refine' dq_popleft ?k1 ?k2 ?k3 ?k4 ?_; (case k1 => k_asm); (case k2 => k_asm); (case k3 => k_upd); (case k4 => first | assumption | decide)); intro h'zz F'zz N'zz))); (k_with "w20" => (((show ND (_ + 1 + 1 + 1 + 1 + 1 + 1) _); (simp only [gLed, rtLed, nd_cons, List.forall_mem_cons]); (repeat' apply And.intro) <;> first | assumption | exact Ne.symm (by assumption)))); (k_with "w21" => ((k_here; k_dflt (refine whl_start 100 ?_)))); trivial)
set_option maxRecDepth 100000 in
set_option maxHeartbeats 0 in
theorem c_get0 (w p loose mean mg mb) (rest : News') (lx dlx pb fs : Addr) (ks vs : Nat → Tok) (cm : Str) (hcm : ∀ c ∈ okC, has cm ⟨#[c]⟩ = false) (n : Int) (x : Fm) (s1 s2 : Tok) (hx : FmOk x) (hnd : ND 6 (gLed w.params lx dlx pb fs rest ks vs cm n x [] (.str (Str.ofString " ") s1) (.str (Str.ofString "") s2))) :
   Ctr w p loose mean mg mb (.ref 699) [.ref lx] [] (gLed w.params lx dlx pb fs rest ks vs cm n x [] (.str (Str.ofString " ") s1) (.str (Str.ofString "") s2)) 10 160
      (fun r news' => GPost w.params lx dlx pb fs rest ks vs cm x [] r news') := by
  intro dp un gd cn cs a ccd cl outer A₀ base h₀ L m s Q E B F X N T hk hd hu hret
  obtain ⟨tp, io, dio, h1, h2, h3, t1, t2, t3, u1, u2, u3, l, p0, vfile, vln⟩ := x
  obtain ⟨x1, x2, x3, x4⟩ := hx
  dsimp only [gLed, fmsLed, List.map] at *
  simp only [nd_cons, List.forall_mem_cons] at hnd
  obtain ⟨n1, n2, n3, n4, n5, n6, n7⟩ := hnd
  have o1 : ∀ q ∈ (fs, dqObj n []) :: (pb, dqObj 0 []) :: rest, q.1 ≠ dio := by
    simp only [List.forall_mem_cons]; exact ⟨n2.2.2.1, n2.2.2.2.1, n2.2.2.2.2⟩
  have o2 : ∀ q ∈ (fs, dqObj n []) :: (pb, dqObj 0 []) :: rest, q.1 ≠ dlx := by
    simp only [List.forall_mem_cons]; exact ⟨n4.1, n4.2.1, n4.2.2⟩
  refine wpAny_call ?_
  k_dflt (walk_at "mine:enter")
  rcases hR : skipS (l.drop p0) p0 with p' | ⟨wd, p'⟩
  · (k_with_none; (k_with "w1" => ((refine' code_def ?k1 ?k2 ?k3 ?k4 ?k5 ?kA ?kF ?kK ?k6 ?k7 ?k8 ?k9 ?kB ?_ ?c2 ?c3 ?c4 ?c5; (case kA => exact rfl); (case kF => exact rfl); (case kK => first | (with_reducible assumption) | assumption); (case k1 => k_asm); (case k2 => k_asm); (case k3 => k_asm); (case k4 => k_asm); (case k5 => k_asm); (case k6 => k_is); (case k7 => k_is); (case k8 => ktr_room); (case k9 => first | exact BindsTo.of_eq rfl | exact binds_K (by k_in) rfl (by k_is) rfl rfl rfl); (case c5 => decide); (case kB => exact locs rfl); (case c2 => exact rfl); (case c3 => exact rfl); (case c4 => exact rfl); k_whole; intro g'zz L'zz h'zz FG'zz F'zz N'zz B'zz X'zz T'zz; (try dsimp only); (try k_fold)))); (k_with "w2" => (((case k1 => k_asm); (case k2 => k_asm); (case k3 => k_asm); (case k4 => k_asm); (case k5 => k_asm); (case kK => first | (with_reducible assumption) | exact rfl | assumption); (case kd => ktr_room); (case ku => ktr_units)))); (k_with "w3" => (first | (refine in_has (b := false) ?hh ?_; (case hh => first | assumption | decide +kernel)) | (refine in_has (b := true) ?hh ?_; (case hh => first | assumption | decide +kernel)) | (refine in_has rfl ?_))); (k_with "w4" => (first | (refine notin_has (b := false) ?hh ?_; (case hh => first | assumption | decide +kernel)) | (refine notin_has (b := true) ?hh ?_; (case hh => first | assumption | decide +kernel)))); (k_with "w5" => (first | (refine eq_b (b := false) ?hh ?_; (case hh => first | assumption | decide +kernel)) | (refine eq_b (b := true) ?hh ?_; (case hh => first | assumption | decide +kernel)))); (k_with "w6" => (((first | (refine truthy_b (b := true) ?hh ?hl ?_; (case hh => first | assumption | exact full_one _ | decide +kernel); (case hl => first | assumption | exact one_short _ | decide +kernel)) | (refine truthy_b (b := false) ?hh ?hl ?_; (case hh => first | assumption | decide +kernel); (case hl => first | assumption | decide +kernel))); intro _))); (k_with "w7" => ((refine' kp_both ?k1 ?k2 ?k3 ?k4 ?k5 ?kA ?kF ?kK ?k6 ?k7 ?k8 ?kV ?kX ?kQ ?kM ?kN ?kD ?kR ?kP ?kS ?kT ?kB ?_ ?c2 ?c3 ?c4 ?c5; (case kA => exact rfl); (case kF => exact rfl); (case kK => first | (with_reducible assumption) | assumption); (case k1 => k_asm); (case k2 => k_asm); (case k3 => k_asm); (case k4 => k_asm); (case k5 => k_asm); (case k6 => k_is); (case k7 => k_is); (case k8 => ktr_room); (case kV => kp_lit); (case kX => kp_lit); (case kQ => exact rfl); (case kM => exact rfl); (case kN => exact rfl); (case kD => kp_flats); (case kR => exact rfl); (case kP => exact rfl); (case kS => exact fun _ => rfl); (case kT => exact fun _ _ => rfl); (case kB => exact fun _ _ => locs rfl); (case c5 => decide); (case c2 => exact rfl); (case c3 => exact rfl); (case c4 => exact rfl); k_whole; intro C'zz D'zz o'zz g'zz L'zz h'zz tk'zz l1zz l2zz lo'zz hs'zz fs'zz FG'zz F'zz N'zz B'zz X'zz T'zz; (try k_lt l1zz); (try k_lt2 l2zz); (try dsimp only); (try k_fold)))); (k_with "w8" => (((with_reducible show wpAny _ _ (callWith _ (Value.builtin _) (_ :: _) (backTo _ (starEach (_ :: _) _)) []) _ _ _); refine callWith_method1 ?_))); (k_with "w9" => ((k_here; k_dflt (refine' get_own ?k1 ?k2 ?k3 ?k4 ?k5 ?k6 ?k7 ?k8 ?k9 ?_; (case k1 => k_asm); (case k2 => k_asm); (case k3 => k_inst); (case k4 => k_is); (case k5 => k_is); (case k6 => k_is); (case k7 => k_is); (case k8 => k_get); (case k9 => k_handed); k_whole)))); (k_with "w10" => (((repeat (first | (with_reducible exact List.forall_mem_nil _) | (intro pzz hpzz; (repeat (first | (with_reducible exact hpzz) | (with_reducible refine List.mem_cons_of_mem _ ?_))); done) | (refine List.forall_mem_cons.mpr ⟨by k_mem, ?_⟩))); first | done | (intro pzz hpzz; repeat (first | exact hpzz | apply List.Mem.tail))))); (k_with "w47" => (first | assumption | exact List.forall_mem_nil _ | (refine' List.forall_mem_cons.mpr ⟨?a, ?b⟩; (case a => k_ne); (case b => k_all)))); (k_with "w48" => ((have hcL9zz := cLine_is; (try simp only [units_make, units_in1, units_deeper, Around.mark_units, units_caller] at *); (try dsimp only [ktrTop] at *); omega))); (k_with "w49" => (((try simp only [depth_make, depth_in1, depth_deeper, depth_caller] at *); (try dsimp only [ktrTop] at *); (try simp only [recursionLimit] at *); omega))); (k_with "w16" => ((k_here; k_dflt (refine' dq_truthy ?k1 ?k2 ?k3 ?_; (case k1 => k_asm); (case k2 => k_mem); (case k3 => first | assumption | decide))))); (k_with "w17" => ((k_here; k_dflt (first | (refine' dq_get dq_slot_app dq_ty_app ?k1 ?k2 ?_; (case k1 => k_asm); (case k2 => k_mem)) | (refine' dq_get dq_slot_pop dq_ty_pop ?k1 ?k2 ?_; (case k1 => k_asm); (case k2 => k_mem)))))); (k_with "w18" => ((k_here; k_dflt (refine' dq_appendleft ?k1 ?k2 ?k3 ?k4 ?_; (case k1 => k_asm); (case k2 => k_asm); (case k3 => k_upd); (case k4 => first | assumption | decide)); intro h'zz F'zz N'zz))); (k_with "w19" => ((k_here; k_dflt (refine' dq_popleft ?k1 ?k2 ?k3 ?k4 ?_; (case k1 => k_asm); (case k2 => k_asm); (case k3 => k_upd); (case k4 => first | assumption | decide)); intro h'zz F'zz N'zz))); (k_with "w20" => (((show ND (_ + 1 + 1 + 1 + 1 + 1 + 1) _); (simp only [gLed, rtLed, nd_cons, List.forall_mem_cons]); (repeat' apply And.intro) <;> first | assumption | exact Ne.symm (by assumption)))); (k_with "w21" => ((k_here; k_dflt (refine whl_start 100 ?_)))); skip)
    (k_with "mine:call ref" => (k_dflt (refine' ctr_use (c_rt _ _ _ _ _ _ _ _ _ _ _ _ _ _ _ _ _ _ _ _ _ _ _ _ _ _ _ _ _ _ _ _ _ ?o1 ?o2 rfl x2 x1 hR hcm) ?k1 ?k2 ?k3 ?k4 ?k5 ?kK ?kd ?ku ?_; walk_at "mine:call"; (case o1 => assumption); (case o2 => assumption)); intro r9 n9 h9 tk9 F9 N9 P9; dsimp only [RtPost] at P9; obtain ⟨e9, u9, s9, e9'⟩ := P9; subst e9 e9'; (try dsimp only)))
    k_steps
    all_goals exact hret _ _ _ _ (by k_asm) (by k_asm) (by unfold GPost getS; dsimp only; rw [hR]; exact ⟨rfl, _, ⟨tp, io, dio, h1, h2, h3, t1, t2, t3, u1, u2, u9, l, p', vfile, vln⟩, _, rfl⟩)
  · (k_with_none; (k_with "w1" => ((refine' code_def ?k1 ?k2 ?k3 ?k4 ?k5 ?kA ?kF ?kK ?k6 ?k7 ?k8 ?k9 ?kB ?_ ?c2 ?c3 ?c4 ?c5; (case kA => exact rfl); (case kF => exact rfl); (case kK => first | (with_reducible assumption) | assumption); (case k1 => k_asm); (case k2 => k_asm); (case k3 => k_asm); (case k4 => k_asm); (case k5 => k_asm); (case k6 => k_is); (case k7 => k_is); (case k8 => ktr_room); (case k9 => first | exact BindsTo.of_eq rfl | exact binds_K (by k_in) rfl (by k_is) rfl rfl rfl); (case c5 => decide); (case kB => exact locs rfl); (case c2 => exact rfl); (case c3 => exact rfl); (case c4 => exact rfl); k_whole; intro g'zz L'zz h'zz FG'zz F'zz N'zz B'zz X'zz T'zz; (try dsimp only); (try k_fold)))); (k_with "w2" => (((case k1 => k_asm); (case k2 => k_asm); (case k3 => k_asm); (case k4 => k_asm); (case k5 => k_asm); (case kK => first | (with_reducible assumption) | exact rfl | assumption); (case kd => ktr_room); (case ku => ktr_units)))); (k_with "w3" => (first | (refine in_has (b := false) ?hh ?_; (case hh => first | assumption | decide +kernel)) | (refine in_has (b := true) ?hh ?_; (case hh => first | assumption | decide +kernel)) | (refine in_has rfl ?_))); (k_with "w4" => (first | (refine notin_has (b := false) ?hh ?_; (case hh => first | assumption | decide +kernel)) | (refine notin_has (b := true) ?hh ?_; (case hh => first | assumption | decide +kernel)))); (k_with "w5" => (first | (refine eq_b (b := false) ?hh ?_; (case hh => first | assumption | decide +kernel)) | (refine eq_b (b := true) ?hh ?_; (case hh => first | assumption | decide +kernel)))); (k_with "w6" => (((first | (refine truthy_b (b := true) ?hh ?hl ?_; (case hh => first | assumption | exact full_one _ | decide +kernel); (case hl => first | assumption | exact one_short _ | decide +kernel)) | (refine truthy_b (b := false) ?hh ?hl ?_; (case hh => first | assumption | decide +kernel); (case hl => first | assumption | decide +kernel))); intro _))); (k_with "w7" => ((refine' kp_both ?k1 ?k2 ?k3 ?k4 ?k5 ?kA ?kF ?kK ?k6 ?k7 ?k8 ?kV ?kX ?kQ ?kM ?kN ?kD ?kR ?kP ?kS ?kT ?kB ?_ ?c2 ?c3 ?c4 ?c5; (case kA => exact rfl); (case kF => exact rfl); (case kK => first | (with_reducible assumption) | assumption); (case k1 => k_asm); (case k2 => k_asm); (case k3 => k_asm); (case k4 => k_asm); (case k5 => k_asm); (case k6 => k_is); (case k7 => k_is); (case k8 => ktr_room); (case kV => kp_lit); (case kX => kp_lit); (case kQ => exact rfl); (case kM => exact rfl); (case kN => exact rfl); (case kD => kp_flats); (case kR => exact rfl); (case kP => exact rfl); (case kS => exact fun _ => rfl); (case kT => exact fun _ _ => rfl); (case kB => exact fun _ _ => locs rfl); (case c5 => decide); (case c2 => exact rfl); (case c3 => exact rfl); (case c4 => exact rfl); k_whole; intro C'zz D'zz o'zz g'zz L'zz h'zz tk'zz l1zz l2zz lo'zz hs'zz fs'zz FG'zz F'zz N'zz B'zz X'zz T'zz; (try k_lt l1zz); (try k_lt2 l2zz); (try dsimp only); (try k_fold)))); (k_with "w8" => (((with_reducible show wpAny _ _ (callWith _ (Value.builtin _) (_ :: _) (backTo _ (starEach (_ :: _) _)) []) _ _ _); refine callWith_method1 ?_))); (k_with "w9" => ((k_here; k_dflt (refine' get_own ?k1 ?k2 ?k3 ?k4 ?k5 ?k6 ?k7 ?k8 ?k9 ?_; (case k1 => k_asm); (case k2 => k_asm); (case k3 => k_inst); (case k4 => k_is); (case k5 => k_is); (case k6 => k_is); (case k7 => k_is); (case k8 => k_get); (case k9 => k_handed); k_whole)))); (k_with "w10" => (((repeat (first | (with_reducible exact List.forall_mem_nil _) | (intro pzz hpzz; (repeat (first | (with_reducible exact hpzz) | (with_reducible refine List.mem_cons_of_mem _ ?_))); done) | (refine List.forall_mem_cons.mpr ⟨by k_mem, ?_⟩))); first | done | (intro pzz hpzz; repeat (first | exact hpzz | apply List.Mem.tail))))); (k_with "w47" => (first | assumption | exact List.forall_mem_nil _ | (refine' List.forall_mem_cons.mpr ⟨?a, ?b⟩; (case a => k_ne); (case b => k_all)))); (k_with "w48" => ((have hcL9zz := cLine_is; (try simp only [units_make, units_in1, units_deeper, Around.mark_units, units_caller] at *); (try dsimp only [ktrTop] at *); omega))); (k_with "w49" => (((try simp only [depth_make, depth_in1, depth_deeper, depth_caller] at *); (try dsimp only [ktrTop] at *); (try simp only [recursionLimit] at *); omega))); (k_with "w16" => ((k_here; k_dflt (refine' dq_truthy ?k1 ?k2 ?k3 ?_; (case k1 => k_asm); (case k2 => k_mem); (case k3 => first | assumption | decide))))); (k_with "w17" => ((k_here; k_dflt (first | (refine' dq_get dq_slot_app dq_ty_app ?k1 ?k2 ?_; (case k1 => k_asm); (case k2 => k_mem)) | (refine' dq_get dq_slot_pop dq_ty_pop ?k1 ?k2 ?_; (case k1 => k_asm); (case k2 => k_mem)))))); (k_with "w18" => ((k_here; k_dflt (refine' dq_appendleft ?k1 ?k2 ?k3 ?k4 ?_; (case k1 => k_asm); (case k2 => k_asm); (case k3 => k_upd); (case k4 => first | assumption | decide)); intro h'zz F'zz N'zz))); (k_with "w19" => ((k_here; k_dflt (refine' dq_popleft ?k1 ?k2 ?k3 ?k4 ?_; (case k1 => k_asm); (case k2 => k_asm); (case k3 => k_upd); (case k4 => first | assumption | decide)); intro h'zz F'zz N'zz))); (k_with "w20" => (((show ND (_ + 1 + 1 + 1 + 1 + 1 + 1) _); (simp only [gLed, rtLed, nd_cons, List.forall_mem_cons]); (repeat' apply And.intro) <;> first | assumption | exact Ne.symm (by assumption)))); (k_with "w21" => ((k_here; k_dflt (refine whl_start 100 ?_)))); skip)
    (k_with "mine:call ref" => (k_dflt (refine' ctr_use (c_rt _ _ _ _ _ _ _ _ _ _ _ _ _ _ _ _ _ _ _ _ _ _ _ _ _ _ _ _ _ _ _ _ _ ?o1 ?o2 rfl x2 x1 hR hcm) ?k1 ?k2 ?k3 ?k4 ?k5 ?kK ?kd ?ku ?_; walk_at "mine:call"; (case o1 => assumption); (case o2 => assumption)); intro r9 n9 h9 tk9 F9 N9 P9; dsimp only [RtPost] at P9; obtain ⟨⟨t9, e9⟩, u9, s8, s9, e9'⟩ := P9; subst e9 e9'; (try dsimp only)))
    k_steps
    all_goals exact hret _ _ _ _ (by k_asm) (by k_asm) (by unfold GPost getS; dsimp only; rw [hR]; exact ⟨⟨_, rfl⟩, _, _, _, _, rfl⟩)
set_option maxRecDepth 100000 in
set_option maxHeartbeats 0 in
theorem c_get (w p loose mean mg mb) (rest : News') (lx dlx pb fs : Addr) (ks vs : Nat → Tok) (cm : Str) (hcm : ∀ c ∈ okC, has cm ⟨#[c]⟩ = false) : ∀ (st : List Fm) (n : Int) (x : Fm) (s1 s2 : Tok) (hx : FmOk x) (hst : ∀ f ∈ st, FmOk f) (hlen : st.length ≤ 100) (hnd : ND (3 * st.length + 6) (gLed w.params lx dlx pb fs rest ks vs cm n x st (.str (Str.ofString " ") s1) (.str (Str.ofString "") s2))),
   Ctr w p loose mean mg mb (.ref 699) [.ref lx] [] (gLed w.params lx dlx pb fs rest ks vs cm n x st (.str (Str.ofString " ") s1) (.str (Str.ofString "") s2)) (10 + 2 * st.length) (160 + 20 * st.length)
      (fun r news' => GPost w.params lx dlx pb fs rest ks vs cm x st r news') := by
  intro st
  induction st with
  | nil => intro n x s1 s2 hx _ _ hnd; exact c_get0 w p loose mean mg mb rest lx dlx pb fs ks vs cm hcm n x s1 s2 hx hnd
  | cons f st ih =>
  intro n x s1 s2 hx hst hlen hnd
  intro dp un gd cn cs a ccd cl outer A₀ base h₀ L m s Q E B F X N T hk hd hu hret
  obtain ⟨tp, io, dio, h1, h2, h3, t1, t2, t3, u1, u2, u3, l, p0, vfile, vln⟩ := x
  obtain ⟨x1, x2, x3, x4⟩ := hx
  have hf := hst f (List.mem_cons_self ..)
  have hst' := fun g hg => hst g (List.mem_cons_of_mem _ hg)
  obtain ⟨ftp, fio, fdio, fh1, fh2, fh3, ft1, ft2, ft3, fu1, fu2, fu3, fl, fp0, fvfile, fvln⟩ := f
  have hf' := hf
  obtain ⟨y1, y2, y3, y4⟩ := hf'
  simp only [List.length_cons] at hlen hd hu
  have hnd : ND (3 * st.length + 1 + 1 + 1 + 1 + 1 + 1 + 1 + 1 + 1) _ := (show 3 * (Fm.mk ftp fio fdio fh1 fh2 fh3 ft1 ft2 ft3 fu1 fu2 fu3 fl fp0 fvfile fvln :: st).length + 6 = 3 * st.length + 1 + 1 + 1 + 1 + 1 + 1 + 1 + 1 + 1 by simp only [List.length_cons]; omega) ▸ hnd
  dsimp only [gLed, fmsLed, List.map] at N hnd
  have hnd' := hnd
  simp only [nd_cons, List.forall_mem_cons] at hnd
  have o1 := fun q hq => hnd'.2.1 q (.tail _ (.tail _ hq))
  have o2 := hnd'.2.2.2.1
  obtain ⟨⟨e01, e02, e03, e04, e05, e06, e07, e08, q0⟩, ⟨e12, e13, e14, e15, e16, e17, e18, q1⟩, ⟨e23, e24, e25, e26, e27, e28, q2⟩, ⟨e34, e35, e36, e37, e38, q3⟩, ⟨e45, e46, e47, e48, q4⟩, ⟨e56, e57, e58, q5⟩, ⟨e67, e68, q6⟩, ⟨e78, q7⟩, q8, qr⟩ := hnd
  clear hnd'
  have z1 : (List.map (fun f : Fm => Value.ref f.tp) st).length ≤ 900 := by rw [List.length_map]; omega
  have z2 : (Value.ref ftp :: List.map (fun f : Fm => Value.ref f.tp) st).length ≤ 1000 := by rw [List.length_cons, List.length_map]; omega
  refine wpAny_call ?_
  k_dflt (walk_at "mine:enter")
  rcases hR : skipS (l.drop p0) p0 with p' | ⟨wd, p'⟩
  · have IH := fun n s1 s2 hnd => ih n ⟨ftp, fio, fdio, fh1, fh2, fh3, ft1, ft2, ft3, fu1, fu2, fu3, fl, fp0, fvfile, fvln⟩ s1 s2 hf hst' (by omega) hnd
    rcases hG : getS st ⟨ftp, fio, fdio, fh1, fh2, fh3, ft1, ft2, ft3, fu1, fu2, fu3, fl, fp0, fvfile, fvln⟩ with _ | ⟨wd, x', st'⟩
    · (k_with_none; (k_with "w1" => ((refine' code_def ?k1 ?k2 ?k3 ?k4 ?k5 ?kA ?kF ?kK ?k6 ?k7 ?k8 ?k9 ?kB ?_ ?c2 ?c3 ?c4 ?c5; (case kA => exact rfl); (case kF => exact rfl); (case kK => first | (with_reducible assumption) | assumption); (case k1 => k_asm); (case k2 => k_asm); (case k3 => k_asm); (case k4 => k_asm); (case k5 => k_asm); (case k6 => k_is); (case k7 => k_is); (case k8 => ktr_room); (case k9 => first | exact BindsTo.of_eq rfl | exact binds_K (by k_in) rfl (by k_is) rfl rfl rfl); (case c5 => decide); (case kB => exact locs rfl); (case c2 => exact rfl); (case c3 => exact rfl); (case c4 => exact rfl); k_whole; intro g'zz L'zz h'zz FG'zz F'zz N'zz B'zz X'zz T'zz; (try dsimp only); (try k_fold)))); (k_with "w2" => (((case k1 => k_asm); (case k2 => k_asm); (case k3 => k_asm); (case k4 => k_asm); (case k5 => k_asm); (case kK => first | (with_reducible assumption) | exact rfl | assumption); (case kd => ktr_room); (case ku => ktr_units)))); (k_with "w3" => (first | (refine in_has (b := false) ?hh ?_; (case hh => first | assumption | decide +kernel)) | (refine in_has (b := true) ?hh ?_; (case hh => first | assumption | decide +kernel)) | (refine in_has rfl ?_))); (k_with "w4" => (first | (refine notin_has (b := false) ?hh ?_; (case hh => first | assumption | decide +kernel)) | (refine notin_has (b := true) ?hh ?_; (case hh => first | assumption | decide +kernel)))); (k_with "w5" => (first | (refine eq_b (b := false) ?hh ?_; (case hh => first | assumption | decide +kernel)) | (refine eq_b (b := true) ?hh ?_; (case hh => first | assumption | decide +kernel)))); (k_with "w6" => (((first | (refine truthy_b (b := true) ?hh ?hl ?_; (case hh => first | assumption | exact full_one _ | decide +kernel); (case hl => first | assumption | exact one_short _ | decide +kernel)) | (refine truthy_b (b := false) ?hh ?hl ?_; (case hh => first | assumption | decide +kernel); (case hl => first | assumption | decide +kernel))); intro _))); (k_with "w7" => ((refine' kp_both ?k1 ?k2 ?k3 ?k4 ?k5 ?kA ?kF ?kK ?k6 ?k7 ?k8 ?kV ?kX ?kQ ?kM ?kN ?kD ?kR ?kP ?kS ?kT ?kB ?_ ?c2 ?c3 ?c4 ?c5; (case kA => exact rfl); (case kF => exact rfl); (case kK => first | (with_reducible assumption) | assumption); (case k1 => k_asm); (case k2 => k_asm); (case k3 => k_asm); (case k4 => k_asm); (case k5 => k_asm); (case k6 => k_is); (case k7 => k_is); (case k8 => ktr_room); (case kV => kp_lit); (case kX => kp_lit); (case kQ => exact rfl); (case kM => exact rfl); (case kN => exact rfl); (case kD => kp_flats); (case kR => exact rfl); (case kP => exact rfl); (case kS => exact fun _ => rfl); (case kT => exact fun _ _ => rfl); (case kB => exact fun _ _ => locs rfl); (case c5 => decide); (case c2 => exact rfl); (case c3 => exact rfl); (case c4 => exact rfl); k_whole; intro C'zz D'zz o'zz g'zz L'zz h'zz tk'zz l1zz l2zz lo'zz hs'zz fs'zz FG'zz F'zz N'zz B'zz X'zz T'zz; (try k_lt l1zz); (try k_lt2 l2zz); (try dsimp only); (try k_fold)))); (k_with "w8" => (((with_reducible show wpAny _ _ (callWith _ (Value.builtin _) (_ :: _) (backTo _ (starEach (_ :: _) _)) []) _ _ _); refine callWith_method1 ?_))); (k_with "w9" => ((k_here; k_dflt (refine' get_own ?k1 ?k2 ?k3 ?k4 ?k5 ?k6 ?k7 ?k8 ?k9 ?_; (case k1 => k_asm); (case k2 => k_asm); (case k3 => k_inst); (case k4 => k_is); (case k5 => k_is); (case k6 => k_is); (case k7 => k_is); (case k8 => k_get); (case k9 => k_handed); k_whole)))); (k_with "w10" => (((repeat (first | (with_reducible exact List.forall_mem_nil _) | (intro pzz hpzz; (repeat (first | (with_reducible exact hpzz) | (with_reducible refine List.mem_cons_of_mem _ ?_))); done) | (refine List.forall_mem_cons.mpr ⟨by k_mem, ?_⟩))); first | done | (intro pzz hpzz; repeat (first | exact hpzz | apply List.Mem.tail))))); (k_with "w47" => (first | assumption | exact List.forall_mem_nil _ | (refine' List.forall_mem_cons.mpr ⟨?a, ?b⟩; (case a => k_ne); (case b => k_all)))); (k_with "w48" => ((have hcL9zz := cLine_is; (try simp only [units_make, units_in1, units_deeper, Around.mark_units, units_caller] at *); (try dsimp only [ktrTop] at *); omega))); (k_with "w49" => (((try simp only [depth_make, depth_in1, depth_deeper, depth_caller] at *); (try dsimp only [ktrTop] at *); (try simp only [recursionLimit] at *); omega))); (k_with "w16" => ((k_here; k_dflt (refine' dq_truthy ?k1 ?k2 ?k3 ?_; (case k1 => k_asm); (case k2 => k_mem); (case k3 => first | assumption | decide))))); (k_with "w17" => ((k_here; k_dflt (first | (refine' dq_get dq_slot_app dq_ty_app ?k1 ?k2 ?_; (case k1 => k_asm); (case k2 => k_mem)) | (refine' dq_get dq_slot_pop dq_ty_pop ?k1 ?k2 ?_; (case k1 => k_asm); (case k2 => k_mem)))))); (k_with "w18" => ((k_here; k_dflt (refine' dq_appendleft ?k1 ?k2 ?k3 ?k4 ?_; (case k1 => k_asm); (case k2 => k_asm); (case k3 => k_upd); (case k4 => first | assumption | decide)); intro h'zz F'zz N'zz))); (k_with "w19" => ((k_here; k_dflt (refine' dq_popleft ?k1 ?k2 ?k3 ?k4 ?_; (case k1 => k_asm); (case k2 => k_asm); (case k3 => k_upd); (case k4 => first | assumption | decide)); intro h'zz F'zz N'zz))); (k_with "w20" => (((show ND (_ + 1 + 1 + 1 + 1 + 1 + 1) _); (simp only [gLed, rtLed, nd_cons, List.forall_mem_cons]); (repeat' apply And.intro) <;> first | assumption | exact Ne.symm (by assumption)))); (k_with "w21" => ((k_here; k_dflt (refine whl_start 100 ?_)))); skip)
      (k_with "mine:call ref" => (first
       | (k_dflt (refine' ctr_use (c_rt _ _ _ _ _ _ _ _ _ _ _ _ _ _ _ _ _ _ _ _ _ _ _ _ _ _ _ _ _ _ _ _ _ ?o1 ?o2 rfl x2 x1 hR hcm) ?k1 ?k2 ?k3 ?k4 ?k5 ?kK ?kd ?ku ?_; walk_at "mine:call"; (case o1 => assumption); (case o2 => assumption)); intro r9 n9 h9 tk9 F9 N9 P9; dsimp only [RtPost] at P9; obtain ⟨e9, u9, s9, e9'⟩ := P9; subst e9 e9'; (try dsimp only))
       | (k_dflt (refine' ctr_use (IH _ _ _ ?hnd) ?k1 ?k2 ?k3 ?k4 ?k5 ?kK ?kd ?ku ?_; (case k1 => k_asm); (case k2 => k_asm); (case k3 => k_asm); (case k4 => exact News.perm (by k_asm) (by walk_at "mine:sub")); (case k5 => k_asm); (case kK => first | exact rfl | assumption); (case kd => ktr_room); (case ku => ktr_units); (case hnd => walk_at "mine:nd")); intro r9 n9 h9 tk9 F9 N9 P9; unfold GPost at P9; rw [hG] at P9; dsimp only at P9; obtain ⟨e9, n9, x9, s9, e9'⟩ := P9; subst e9 e9'; (try dsimp only))))
      k_steps
      all_goals first | exact absurd (by assumption) (by simp : ¬ ((Value.ref ftp :: List.map (fun f : Fm => Value.ref f.tp) st).isEmpty = true)) | exact absurd (by assumption) (by simp : ¬ (([] : List Value).isEmpty = false)) | skip
      all_goals exact hret _ _ _ _ (by k_asm) (by k_asm) (by unfold GPost; rw [show getS (_ :: st) _ = none from by unfold getS; dsimp only; rw [hR]; exact hG]; exact ⟨rfl, _, _, _, rfl⟩)
    · (k_with_none; (k_with "w1" => ((refine' code_def ?k1 ?k2 ?k3 ?k4 ?k5 ?kA ?kF ?kK ?k6 ?k7 ?k8 ?k9 ?kB ?_ ?c2 ?c3 ?c4 ?c5; (case kA => exact rfl); (case kF => exact rfl); (case kK => first | (with_reducible assumption) | assumption); (case k1 => k_asm); (case k2 => k_asm); (case k3 => k_asm); (case k4 => k_asm); (case k5 => k_asm); (case k6 => k_is); (case k7 => k_is); (case k8 => ktr_room); (case k9 => first | exact BindsTo.of_eq rfl | exact binds_K (by k_in) rfl (by k_is) rfl rfl rfl); (case c5 => decide); (case kB => exact locs rfl); (case c2 => exact rfl); (case c3 => exact rfl); (case c4 => exact rfl); k_whole; intro g'zz L'zz h'zz FG'zz F'zz N'zz B'zz X'zz T'zz; (try dsimp only); (try k_fold)))); (k_with "w2" => (((case k1 => k_asm); (case k2 => k_asm); (case k3 => k_asm); (case k4 => k_asm); (case k5 => k_asm); (case kK => first | (with_reducible assumption) | exact rfl | assumption); (case kd => ktr_room); (case ku => ktr_units)))); (k_with "w3" => (first | (refine in_has (b := false) ?hh ?_; (case hh => first | assumption | decide +kernel)) | (refine in_has (b := true) ?hh ?_; (case hh => first | assumption | decide +kernel)) | (refine in_has rfl ?_))); (k_with "w4" => (first | (refine notin_has (b := false) ?hh ?_; (case hh => first | assumption | decide +kernel)) | (refine notin_has (b := true) ?hh ?_; (case hh => first | assumption | decide +kernel)))); (k_with "w5" => (first | (refine eq_b (b := false) ?hh ?_; (case hh => first | assumption | decide +kernel)) | (refine eq_b (b := true) ?hh ?_; (case hh => first | assumption | decide +kernel)))); (k_with "w6" => (((first | (refine truthy_b (b := true) ?hh ?hl ?_; (case hh => first | assumption | exact full_one _ | decide +kernel); (case hl => first | assumption | exact one_short _ | decide +kernel)) | (refine truthy_b (b := false) ?hh ?hl ?_; (case hh => first | assumption | decide +kernel); (case hl => first | assumption | decide +kernel))); intro _))); (k_with "w7" => ((refine' kp_both ?k1 ?k2 ?k3 ?k4 ?k5 ?kA ?kF ?kK ?k6 ?k7 ?k8 ?kV ?kX ?kQ ?kM ?kN ?kD ?kR ?kP ?kS ?kT ?kB ?_ ?c2 ?c3 ?c4 ?c5; (case kA => exact rfl); (case kF => exact rfl); (case kK => first | (with_reducible assumption) | assumption); (case k1 => k_asm); (case k2 => k_asm); (case k3 => k_asm); (case k4 => k_asm); (case k5 => k_asm); (case k6 => k_is); (case k7 => k_is); (case k8 => ktr_room); (case kV => kp_lit); (case kX => kp_lit); (case kQ => exact rfl); (case kM => exact rfl); (case kN => exact rfl); (case kD => kp_flats); (case kR => exact rfl); (case kP => exact rfl); (case kS => exact fun _ => rfl); (case kT => exact fun _ _ => rfl); (case kB => exact fun _ _ => locs rfl); (case c5 => decide); (case c2 => exact rfl); (case c3 => exact rfl); (case c4 => exact rfl); k_whole; intro C'zz D'zz o'zz g'zz L'zz h'zz tk'zz l1zz l2zz lo'zz hs'zz fs'zz FG'zz F'zz N'zz B'zz X'zz T'zz; (try k_lt l1zz); (try k_lt2 l2zz); (try dsimp only); (try k_fold)))); (k_with "w8" => (((with_reducible show wpAny _ _ (callWith _ (Value.builtin _) (_ :: _) (backTo _ (starEach (_ :: _) _)) []) _ _ _); refine callWith_method1 ?_))); (k_with "w9" => ((k_here; k_dflt (refine' get_own ?k1 ?k2 ?k3 ?k4 ?k5 ?k6 ?k7 ?k8 ?k9 ?_; (case k1 => k_asm); (case k2 => k_asm); (case k3 => k_inst); (case k4 => k_is); (case k5 => k_is); (case k6 => k_is); (case k7 => k_is); (case k8 => k_get); (case k9 => k_handed); k_whole)))); (k_with "w10" => (((repeat (first | (with_reducible exact List.forall_mem_nil _) | (intro pzz hpzz; (repeat (first | (with_reducible exact hpzz) | (with_reducible refine List.mem_cons_of_mem _ ?_))); done) | (refine List.forall_mem_cons.mpr ⟨by k_mem, ?_⟩))); first | done | (intro pzz hpzz; repeat (first | exact hpzz | apply List.Mem.tail))))); (k_with "w47" => (first | assumption | exact List.forall_mem_nil _ | (refine' List.forall_mem_cons.mpr ⟨?a, ?b⟩; (case a => k_ne); (case b => k_all)))); (k_with "w48" => ((have hcL9zz := cLine_is; (try simp only [units_make, units_in1, units_deeper, Around.mark_units, units_caller] at *); (try dsimp only [ktrTop] at *); omega))); (k_with "w49" => (((try simp only [depth_make, depth_in1, depth_deeper, depth_caller] at *); (try dsimp only [ktrTop] at *); (try simp only [recursionLimit] at *); omega))); (k_with "w16" => ((k_here; k_dflt (refine' dq_truthy ?k1 ?k2 ?k3 ?_; (case k1 => k_asm); (case k2 => k_mem); (case k3 => first | assumption | decide))))); (k_with "w17" => ((k_here; k_dflt (first | (refine' dq_get dq_slot_app dq_ty_app ?k1 ?k2 ?_; (case k1 => k_asm); (case k2 => k_mem)) | (refine' dq_get dq_slot_pop dq_ty_pop ?k1 ?k2 ?_; (case k1 => k_asm); (case k2 => k_mem)))))); (k_with "w18" => ((k_here; k_dflt (refine' dq_appendleft ?k1 ?k2 ?k3 ?k4 ?_; (case k1 => k_asm); (case k2 => k_asm); (case k3 => k_upd); (case k4 => first | assumption | decide)); intro h'zz F'zz N'zz))); (k_with "w19" => ((k_here; k_dflt (refine' dq_popleft ?k1 ?k2 ?k3 ?k4 ?_; (case k1 => k_asm); (case k2 => k_asm); (case k3 => k_upd); (case k4 => first | assumption | decide)); intro h'zz F'zz N'zz))); (k_with "w20" => (((show ND (_ + 1 + 1 + 1 + 1 + 1 + 1) _); (simp only [gLed, rtLed, nd_cons, List.forall_mem_cons]); (repeat' apply And.intro) <;> first | assumption | exact Ne.symm (by assumption)))); (k_with "w21" => ((k_here; k_dflt (refine whl_start 100 ?_)))); skip)
      (k_with "mine:call ref" => (first
       | (k_dflt (refine' ctr_use (c_rt _ _ _ _ _ _ _ _ _ _ _ _ _ _ _ _ _ _ _ _ _ _ _ _ _ _ _ _ _ _ _ _ _ ?o1 ?o2 rfl x2 x1 hR hcm) ?k1 ?k2 ?k3 ?k4 ?k5 ?kK ?kd ?ku ?_; walk_at "mine:call"; (case o1 => assumption); (case o2 => assumption)); intro r9 n9 h9 tk9 F9 N9 P9; dsimp only [RtPost] at P9; obtain ⟨e9, u9, s9, e9'⟩ := P9; subst e9 e9'; (try dsimp only))
       | (k_dflt (refine' ctr_use (IH _ _ _ ?hnd) ?k1 ?k2 ?k3 ?k4 ?k5 ?kK ?kd ?ku ?_; (case k1 => k_asm); (case k2 => k_asm); (case k3 => k_asm); (case k4 => exact News.perm (by k_asm) (by walk_at "mine:sub")); (case k5 => k_asm); (case kK => first | exact rfl | assumption); (case kd => ktr_room); (case ku => ktr_units); (case hnd => walk_at "mine:nd")); intro r9 n9 h9 tk9 F9 N9 P9; unfold GPost at P9; rw [hG] at P9; dsimp only at P9; obtain ⟨⟨t9, e9⟩, n9, u9, s8, s9, e9'⟩ := P9; subst e9 e9'; (try dsimp only))))
      k_steps
      all_goals first | exact absurd (by assumption) (by simp : ¬ ((Value.ref ftp :: List.map (fun f : Fm => Value.ref f.tp) st).isEmpty = true)) | skip
      all_goals exact hret _ _ _ _ (by k_asm) (by k_asm) (by unfold GPost; rw [show getS (_ :: st) _ = some (wd, x', st') from by unfold getS; dsimp only; rw [hR]; exact hG]; exact ⟨⟨_, rfl⟩, _, _, _, _, rfl⟩)
  · (k_with_none; (k_with "w1" => ((refine' code_def ?k1 ?k2 ?k3 ?k4 ?k5 ?kA ?kF ?kK ?k6 ?k7 ?k8 ?k9 ?kB ?_ ?c2 ?c3 ?c4 ?c5; (case kA => exact rfl); (case kF => exact rfl); (case kK => first | (with_reducible assumption) | assumption); (case k1 => k_asm); (case k2 => k_asm); (case k3 => k_asm); (case k4 => k_asm); (case k5 => k_asm); (case k6 => k_is); (case k7 => k_is); (case k8 => ktr_room); (case k9 => first | exact BindsTo.of_eq rfl | exact binds_K (by k_in) rfl (by k_is) rfl rfl rfl); (case c5 => decide); (case kB => exact locs rfl); (case c2 => exact rfl); (case c3 => exact rfl); (case c4 => exact rfl); k_whole; intro g'zz L'zz h'zz FG'zz F'zz N'zz B'zz X'zz T'zz; (try dsimp only); (try k_fold)))); (k_with "w2" => (((case k1 => k_asm); (case k2 => k_asm); (case k3 => k_asm); (case k4 => k_asm); (case k5 => k_asm); (case kK => first | (with_reducible assumption) | exact rfl | assumption); (case kd => ktr_room); (case ku => ktr_units)))); (k_with "w3" => (first | (refine in_has (b := false) ?hh ?_; (case hh => first | assumption | decide +kernel)) | (refine in_has (b := true) ?hh ?_; (case hh => first | assumption | decide +kernel)) | (refine in_has rfl ?_))); (k_with "w4" => (first | (refine notin_has (b := false) ?hh ?_; (case hh => first | assumption | decide +kernel)) | (refine notin_has (b := true) ?hh ?_; (case hh => first | assumption | decide +kernel)))); (k_with "w5" => (first | (refine eq_b (b := false) ?hh ?_; (case hh => first | assumption | decide +kernel)) | (refine eq_b (b := true) ?hh ?_; (case hh => first | assumption | decide +kernel)))); (k_with "w6" => (((first | (refine truthy_b (b := true) ?hh ?hl ?_; (case hh => first | assumption | exact full_one _ | decide +kernel); (case hl => first | assumption | exact one_short _ | decide +kernel)) | (refine truthy_b (b := false) ?hh ?hl ?_; (case hh => first | assumption | decide +kernel); (case hl => first | assumption | decide +kernel))); intro _))); (k_with "w7" => ((refine' kp_both ?k1 ?k2 ?k3 ?k4 ?k5 ?kA ?kF ?kK ?k6 ?k7 ?k8 ?kV ?kX ?kQ ?kM ?kN ?kD ?kR ?kP ?kS ?kT ?kB ?_ ?c2 ?c3 ?c4 ?c5; (case kA => exact rfl); (case kF => exact rfl); (case kK => first | (with_reducible assumption) | assumption); (case k1 => k_asm); (case k2 => k_asm); (case k3 => k_asm); (case k4 => k_asm); (case k5 => k_asm); (case k6 => k_is); (case k7 => k_is); (case k8 => ktr_room); (case kV => kp_lit); (case kX => kp_lit); (case kQ => exact rfl); (case kM => exact rfl); (case kN => exact rfl); (case kD => kp_flats); (case kR => exact rfl); (case kP => exact rfl); (case kS => exact fun _ => rfl); (case kT => exact fun _ _ => rfl); (case kB => exact fun _ _ => locs rfl); (case c5 => decide); (case c2 => exact rfl); (case c3 => exact rfl); (case c4 => exact rfl); k_whole; intro C'zz D'zz o'zz g'zz L'zz h'zz tk'zz l1zz l2zz lo'zz hs'zz fs'zz FG'zz F'zz N'zz B'zz X'zz T'zz; (try k_lt l1zz); (try k_lt2 l2zz); (try dsimp only); (try k_fold)))); (k_with "w8" => (((with_reducible show wpAny _ _ (callWith _ (Value.builtin _) (_ :: _) (backTo _ (starEach (_ :: _) _)) []) _ _ _); refine callWith_method1 ?_))); (k_with "w9" => ((k_here; k_dflt (refine' get_own ?k1 ?k2 ?k3 ?k4 ?k5 ?k6 ?k7 ?k8 ?k9 ?_; (case k1 => k_asm); (case k2 => k_asm); (case k3 => k_inst); (case k4 => k_is); (case k5 => k_is); (case k6 => k_is); (case k7 => k_is); (case k8 => k_get); (case k9 => k_handed); k_whole)))); (k_with "w10" => (((repeat (first | (with_reducible exact List.forall_mem_nil _) | (intro pzz hpzz; (repeat (first | (with_reducible exact hpzz) | (with_reducible refine List.mem_cons_of_mem _ ?_))); done) | (refine List.forall_mem_cons.mpr ⟨by k_mem, ?_⟩))); first | done | (intro pzz hpzz; repeat (first | exact hpzz | apply List.Mem.tail))))); (k_with "w47" => (first | assumption | exact List.forall_mem_nil _ | (refine' List.forall_mem_cons.mpr ⟨?a, ?b⟩; (case a => k_ne); (case b => k_all)))); (k_with "w48" => ((have hcL9zz := cLine_is; (try simp only [units_make, units_in1, units_deeper, Around.mark_units, units_caller] at *); (try dsimp only [ktrTop] at *); omega))); (k_with "w49" => (((try simp only [depth_make, depth_in1, depth_deeper, depth_caller] at *); (try dsimp only [ktrTop] at *); (try simp only [recursionLimit] at *); omega))); (k_with "w16" => ((k_here; k_dflt (refine' dq_truthy ?k1 ?k2 ?k3 ?_; (case k1 => k_asm); (case k2 => k_mem); (case k3 => first | assumption | decide))))); (k_with "w17" => ((k_here; k_dflt (first | (refine' dq_get dq_slot_app dq_ty_app ?k1 ?k2 ?_; (case k1 => k_asm); (case k2 => k_mem)) | (refine' dq_get dq_slot_pop dq_ty_pop ?k1 ?k2 ?_; (case k1 => k_asm); (case k2 => k_mem)))))); (k_with "w18" => ((k_here; k_dflt (refine' dq_appendleft ?k1 ?k2 ?k3 ?k4 ?_; (case k1 => k_asm); (case k2 => k_asm); (case k3 => k_upd); (case k4 => first | assumption | decide)); intro h'zz F'zz N'zz))); (k_with "w19" => ((k_here; k_dflt (refine' dq_popleft ?k1 ?k2 ?k3 ?k4 ?_; (case k1 => k_asm); (case k2 => k_asm); (case k3 => k_upd); (case k4 => first | assumption | decide)); intro h'zz F'zz N'zz))); (k_with "w20" => (((show ND (_ + 1 + 1 + 1 + 1 + 1 + 1) _); (simp only [gLed, rtLed, nd_cons, List.forall_mem_cons]); (repeat' apply And.intro) <;> first | assumption | exact Ne.symm (by assumption)))); (k_with "w21" => ((k_here; k_dflt (refine whl_start 100 ?_)))); skip)
    (k_with "mine:call ref" => (k_dflt (refine' ctr_use (c_rt _ _ _ _ _ _ _ _ _ _ _ _ _ _ _ _ _ _ _ _ _ _ _ _ _ _ _ _ _ _ _ _ _ ?o1 ?o2 rfl x2 x1 hR hcm) ?k1 ?k2 ?k3 ?k4 ?k5 ?kK ?kd ?ku ?_; walk_at "mine:call"; (case o1 => assumption); (case o2 => assumption)); intro r9 n9 h9 tk9 F9 N9 P9; dsimp only [RtPost] at P9; obtain ⟨⟨t9, e9⟩, u9, s8, s9, e9'⟩ := P9; subst e9 e9'; (try dsimp only)))
    k_steps
    all_goals exact hret _ _ _ _ (by k_asm) (by k_asm) (by unfold GPost getS; dsimp only; rw [hR]; exact ⟨⟨_, rfl⟩, _, _, _, _, rfl⟩)
end
end
end
section
open PySem PySem.W PyProof.Rows PySem.Calls
section
variable {prog : Program} {w : World} {A : Around} {E : Value → Shared → Prop} {s : Shared} {env : Env} {h₀ : Heap} {x : Str} {body : List Stmt} {Q : Flow → Shared → Prop}
/-- behind a turn of a for: the word one turn on -/
def FPost (h₀ : Heap) (L : Addr) (I : Nat → (Str → Option Value) → List (Addr × Obj) → Prop) (i : Nat) (it : Addr) (ito : Obj) (s : Shared) (Q : Flow → Shared → Prop) (f : Flow) (s₂ : Shared) : Prop := match f with
  | .ret v => Q (.ret v) s₂
  | .brk => Q .next s₂
  | _ => ∃ m' news' h' tk', s₂ = { s with heap := h', toks := tk' } ∧ Fr h₀ L h' m' ∧ News h₀ L h' ((it, ito) :: news') ∧ (∀ p ∈ news', p.1 ≠ it) ∧ I (i + 1) m' news'
theorem for_word {l : Addr} {vs : List Value} {nn : Nat} {m₀ : Str → Option Value} {news : List (Addr × Obj)} (I : Nat → (Str → Option Value) → List (Addr × Obj) → Prop)
    (hh : A.handled = none) (hl : (l, listOf vs.toArray nn) ∈ news) (F : Fr h₀ env.locals s.heap m₀) (N : News h₀ env.locals s.heap news) (hj : I 0 m₀ news)
    (hkeep : ∀ i m ns, I i m ns → (l, listOf vs.toArray nn) ∈ ns)
    (turn : Held (∀ i v m news₁ h tk it ito, vs[i]? = some v → I i m news₁ → (∀ p ∈ news₁, p.1 ≠ it) → ito.cls = .type "list_iterator" → Fr h₀ env.locals h (fun y => if y = x then some v else m y) → News h₀ env.locals h ((it, ito) :: news₁) →
      wpAny (model prog w) A (execs body env) (FPost h₀ env.locals I i it ito { s with heap := h, toks := tk } Q) E { s with heap := h, toks := tk }))
    (done : Held (∀ m news₁ h tk, I vs.length m news₁ → Fr h₀ env.locals h m → News h₀ env.locals h news₁ → Q .next { s with heap := h, toks := tk })) :
    wpAny (model prog w) A (pyIter (.ref l)) (fun it s₂ => LoopAtV prog w A h₀ env x body Q E it s₂) E s := by
  have hol : s.heap.get? l = some (listOf vs.toArray nn) := (N _ hl).1
  have hls : s.heap.IsList l vs.toArray := ⟨_, hol, rfl, nn, rfl⟩
  have hne : l ≠ s.heap.objs.size := Nat.ne_of_lt (Heap.lt_size hol)
  refine wpAny_pyIter_list hls ?_
  have W := Walks.list (prog := prog) (w := w) hh s.heap.objs.size l hne vs.toArray
  have hlen : vs.toArray.size = vs.length := List.size_toArray
  rw [hlen] at W
  refine ⟨_, _, _, vs.length, _, _, m₀, news, I, rfl, W, ?_, ?_, ?_, ⟨⟨_, Heap.get?_push_size _ rfl, rfl, rfl⟩, hls.at fun o e => Heap.get?_push_of_some _ e⟩, F.push _, (fun p hp => ⟨Heap.get?_push_of_some _ (N p hp).1, (N p hp).2⟩), hj, ?_, ?_⟩
  · intro hm
    rcases List.mem_cons.mp hm with e | hm
    · exact absurd F.ns.lt (e ▸ Nat.lt_irrefl _)
    · exact (N _ hl).2.1 ((List.mem_singleton.mp hm).symm)
  · intro b hb
    rw [List.mem_singleton.mp hb]
    exact next_is_new F
  · intro p hp hI
    exact absurd (Heap.lt_size (N p hp).1) ((List.mem_singleton.mp hI) ▸ Nat.lt_irrefl _)
  · rintro i v m₁ news₁ s₁ own ⟨hh', tk', rfl⟩ hin hP hJ hoff hown hget hfp hst F₁ N₁
    obtain ⟨ito, hito, hcl, _⟩ := hst.1
    have hnew : h₀.get? s.heap.objs.size = none := next_is_new F
    have hmem : (s.heap.objs.size, ito) ∈ own := hfp _ (List.mem_cons_self ..) hnew _ hito
    have hl₁ := hkeep _ _ _ hJ
    have hlo : hh'.get? l = some (listOf vs.toArray nn) := (N₁ _ (List.mem_append.mpr (.inr hl₁))).1
    have hoff' : ∀ p ∈ news₁, p.1 ≠ s.heap.objs.size := fun p hp e => hoff p hp (List.mem_singleton.mpr e)
    have N₂ : News h₀ env.locals hh' ((s.heap.objs.size, ito) :: news₁) := fun p hp => by
      rcases List.mem_cons.mp hp with e | e
      · exact N₁ p (List.mem_append.mpr (.inl (e ▸ hmem)))
      · exact N₁ p (List.mem_append.mpr (.inr e))
    have T := turn i v m₁ news₁ hh' tk' s.heap.objs.size ito (by simpa using hP) hJ hoff' hcl F₁ N₂
    refine wpAny_mono T (fun f s₂ p => ?_) fun _ _ e => e
    have fin : (∃ m' news' h' tk'', s₂ = { s with heap := h', toks := tk'' } ∧ Fr h₀ env.locals h' m' ∧ News h₀ env.locals h' ((s.heap.objs.size, ito) :: news') ∧ (∀ p ∈ news', p.1 ≠ s.heap.objs.size) ∧ I (i + 1) m' news') →
        LoopStepU h₀ env.locals [s.heap.objs.size] own (I (i + 1)) { s with heap := hh', toks := tk' } .next s₂ := by
      rintro ⟨m', news', h', tk'', e, F', N', ho, hm⟩
      refine ⟨rfl, h', tk'', m', news', e, F', fun p hp => ?_, fun p hp hI => ho p hp (List.mem_singleton.mp hI), hm⟩
      rcases List.mem_append.mp hp with h | h
      · have h2 : hh'.get? p.1 = some p.2 := hget p h
        rcases List.mem_cons.mp (hown p h) with h1 | h1
        · rw [h1, hito] at h2
          have h3 : p = (s.heap.objs.size, ito) := Prod.ext h1 (Option.some.inj h2).symm
          rw [h3]
          exact N' _ (List.mem_cons_self ..)
        · have h1 := List.mem_singleton.mp h1
          rw [h1, hlo] at h2
          have h3 : p = (l, listOf vs.toArray nn) := Prod.ext h1 (Option.some.inj h2).symm
          rw [h3]
          exact N' _ (List.mem_cons_of_mem _ (hkeep _ _ _ hm))
      · exact N' p (List.mem_cons_of_mem _ h)
    cases f with
    | ret v => exact .ret p
    | brk => exact .brk p
    | next => exact .next (fin p)
    | cont => exact .cont (fin p)
  · rintro h' tk m' news' F' N' _ hJ
    exact done m' news' h' tk hJ F' N'
end
end
section
open PySem PySem.W PyProof.Rows
/-- the words of the rows -/
inductive Wd where
  | e0 | e1 | e2 | lt | m1 | m2 | a
  deriving DecidableEq
def Wd.s : Wd → Str
  | .e0 => Str.ofString "&e0;"
  | .e1 => Str.ofString "&e1;"
  | .e2 => Str.ofString "&e2;"
  | .lt => Str.ofString "&lt;"
  | .m1 => Str.ofString "&amp;e1;"
  | .m2 => Str.ofString "&amp;e2;"
  | .a => Str.ofString "a"
abbrev Row := List (Wd × Tok)
def rowV (q : Row) : List Value := q.map fun p => .str p.1.s p.2
theorem rowV_push (q : Row) (x : Wd) (t : Tok) : rowV q ++ [.str x.s t] = rowV (q ++ [(x, t)]) := by simp [rowV]
theorem rowV_len (q : Row) : (rowV q).length = q.length := by simp [rowV]
/-- the ledger of the rows -/
abbrev rowsLed (ra r0 r1 r2 r3 : Addr) (k k0 k1 k2 k3 : Nat) (q0 q1 q2 q3 : Row) (rest : News') : News' :=
  (ra, listOf #[.ref r0, .ref r1, .ref r2, .ref r3] k) :: (r0, listOf (rowV q0).toArray k0) :: (r1, listOf (rowV q1).toArray k1) :: (r2, listOf (rowV q2).toArray k2) :: (r3, listOf (rowV q3).toArray k3) :: rest
def IRows (ra r0 r1 r2 r3 : Addr) (rest : News') (m₀ : Str → Option Value) (_i : Nat) (m : Str → Option Value) (news : News') : Prop :=
  ∃ vx k k0 k1 k2 k3 q0 q1 q2 q3, m = (fun y => if y = Str.ofString "x" then vx else m₀ y) ∧ (∀ p ∈ rowsLed ra r0 r1 r2 r3 k k0 k1 k2 k3 q0 q1 q2 q3 rest, p ∈ news) ∧ q0.length ≤ 4 ∧ q1.length ≤ 4 ∧ q2.length ≤ 4 ∧ q3.length ≤ 4
theorem off_allLt {a b : Addr} {l : News'} (h : AllLt a l) (hb : a ≤ b) : ∀ p ∈ l, p.1 ≠ b := by
  induction l with
  | nil => intro p hp; cases hp
  | cons q l ih =>
    intro p hp
    cases hp with
    | head => exact Nat.ne_of_lt (Nat.lt_of_lt_of_le h.1 hb)
    | tail _ hp => exact ih h.2 p hp
/-- a row picked out of the four -/
theorem rows_pick {ra r0 r1 r2 r3 it : Addr} {ito : Obj} {rest : News'} {m₀ m : Str → Option Value} {i : Nat} {news : News'} {h₀ h : Heap} {L : Addr} {j : Int}
    (H : IRows ra r0 r1 r2 r3 rest m₀ i m news) (N : News h₀ L h ((it, ito) :: news)) (off : ∀ p ∈ news, p.1 ≠ it) (j0 : 0 ≤ j) (j4 : j < 4)
    (d1 : @LT.lt Nat _ r0 r1) (d2 : @LT.lt Nat _ r1 r2) (d3 : @LT.lt Nat _ r2 r3) (d4 : @LT.lt Nat _ r3 ra) (dr : AllLt r0 rest) :
    ∃ vx k rj kj q oth, m = (fun y => if y = Str.ofString "x" then vx else m₀ y) ∧ ([.ref r0, .ref r1, .ref r2, .ref r3] : List Value)[j.toNat]? = some (.ref rj) ∧ q.length ≤ 4 ∧ ra ≠ rj ∧ it ≠ rj ∧ rj ≠ it ∧ (∀ p ∈ oth, p.1 ≠ rj) ∧ (∀ p ∈ oth, p.1 ≠ it) ∧ ra ≠ it ∧
      News h₀ L h ((it, ito) :: (rj, listOf (rowV q).toArray kj) :: (ra, listOf [Value.ref r0, .ref r1, .ref r2, .ref r3].toArray k) :: oth) ∧
      (∀ (q' : Row) (kj' : Nat) (v' : Option Value) (news' : News'), q'.length ≤ 4 → (∀ p ∈ (rj, listOf (rowV q').toArray kj') :: (ra, listOf [Value.ref r0, .ref r1, .ref r2, .ref r3].toArray k) :: oth, p ∈ news') → IRows ra r0 r1 r2 r3 rest m₀ (i + 1) (fun y => if y = Str.ofString "x" then v' else m y) news') := by
  obtain ⟨vx, k, k0, k1, k2, k3, q0, q1, q2, q3, em, hs, b0, b1, b2, b3⟩ := H
  have sub := fun p (hp : p ∈ (it, ito) :: rowsLed ra r0 r1 r2 r3 k k0 k1 k2 k3 q0 q1 q2 q3 rest) => (List.mem_cons.mp hp).elim (fun e => List.mem_cons.mpr (.inl e)) (fun e => List.mem_cons_of_mem _ (hs p e))
  have N' := N.perm sub
  have off' := fun p hp => off p (hs p hp)
  simp only [List.forall_mem_cons] at off'
  obtain ⟨f0, f1, f2, f3, f4, f5⟩ := off'
  have hk : j = 0 ∨ j = 1 ∨ j = 2 ∨ j = 3 := by omega
  have n1 : ∀ {a b : Addr}, @LT.lt Nat _ a b → a ≠ b := fun h => Nat.ne_of_lt h
  have n2 : ∀ {a b : Addr}, @LT.lt Nat _ a b → b ≠ a := fun h => Nat.ne_of_gt h
  have d02 := Nat.lt_trans d1 d2
  have d13 := Nat.lt_trans d2 d3
  have d03 := Nat.lt_trans d02 d3
  have d0a := Nat.lt_trans d03 d4
  have d1a := Nat.lt_trans d13 d4
  have d2a := Nat.lt_trans d3 d4
  rcases hk with e | e | e | e <;> subst e
  · refine ⟨vx, k, r0, k0, q0, (r1, listOf (rowV q1).toArray k1) :: (r2, listOf (rowV q2).toArray k2) :: (r3, listOf (rowV q3).toArray k3) :: rest, em, rfl, b0, n2 d0a, Ne.symm f1, f1, ?_, ?_, f0, N'.perm ?_, ?_⟩
    · simp only [List.forall_mem_cons]; exact ⟨n2 d1, n2 d02, n2 d03, off_allLt dr (Nat.le_refl _)⟩
    · simp only [List.forall_mem_cons]; exact ⟨f2, f3, f4, f5⟩
    · intro p hp; simp only [List.mem_cons] at hp ⊢; grind
    · intro q' kj' v' news' hq hs'
      refine ⟨v', k, kj', k1, k2, k3, q', q1, q2, q3, by rw [em]; exact frame_put, fun p hp => hs' p ?_, hq, b1, b2, b3⟩
      simp only [List.mem_cons] at hp ⊢; grind
  · refine ⟨vx, k, r1, k1, q1, (r0, listOf (rowV q0).toArray k0) :: (r2, listOf (rowV q2).toArray k2) :: (r3, listOf (rowV q3).toArray k3) :: rest, em, rfl, b1, n2 d1a, Ne.symm f2, f2, ?_, ?_, f0, N'.perm ?_, ?_⟩
    · simp only [List.forall_mem_cons]; exact ⟨n1 d1, n2 d2, n2 d13, off_allLt dr (Nat.le_of_lt d1)⟩
    · simp only [List.forall_mem_cons]; exact ⟨f1, f3, f4, f5⟩
    · intro p hp; simp only [List.mem_cons] at hp ⊢; grind
    · intro q' kj' v' news' hq hs'
      refine ⟨v', k, k0, kj', k2, k3, q0, q', q2, q3, by rw [em]; exact frame_put, fun p hp => hs' p ?_, b0, hq, b2, b3⟩
      simp only [List.mem_cons] at hp ⊢; grind
  · refine ⟨vx, k, r2, k2, q2, (r0, listOf (rowV q0).toArray k0) :: (r1, listOf (rowV q1).toArray k1) :: (r3, listOf (rowV q3).toArray k3) :: rest, em, rfl, b2, n2 d2a, Ne.symm f3, f3, ?_, ?_, f0, N'.perm ?_, ?_⟩
    · simp only [List.forall_mem_cons]; exact ⟨n1 d02, n1 d2, n2 d3, off_allLt dr (Nat.le_of_lt d02)⟩
    · simp only [List.forall_mem_cons]; exact ⟨f1, f2, f4, f5⟩
    · intro p hp; simp only [List.mem_cons] at hp ⊢; grind
    · intro q' kj' v' news' hq hs'
      refine ⟨v', k, k0, k1, kj', k3, q0, q1, q', q3, by rw [em]; exact frame_put, fun p hp => hs' p ?_, b0, b1, hq, b3⟩
      simp only [List.mem_cons] at hp ⊢; grind
  · refine ⟨vx, k, r3, k3, q3, (r0, listOf (rowV q0).toArray k0) :: (r1, listOf (rowV q1).toArray k1) :: (r2, listOf (rowV q2).toArray k2) :: rest, em, rfl, b3, n2 d4, Ne.symm f4, f4, ?_, ?_, f0, N'.perm ?_, ?_⟩
    · simp only [List.forall_mem_cons]; exact ⟨n1 d03, n1 d13, n1 d3, off_allLt dr (Nat.le_of_lt d03)⟩
    · simp only [List.forall_mem_cons]; exact ⟨f1, f2, f3, f5⟩
    · intro p hp; simp only [List.mem_cons] at hp ⊢; grind
    · intro q' kj' v' news' hq hs'
      refine ⟨v', k, k0, k1, k2, kj', q0, q1, q2, q', by rw [em]; exact frame_put, fun p hp => hs' p ?_, b0, b1, b2, hq⟩
      simp only [List.mem_cons] at hp ⊢; grind
section
variable {prog : Program} {w : World} {A : Around} {E : Value → Shared → Prop} {s : Shared} {h₀ : Heap} {L : Addr} {news news' : News'} {m : Str → Option Value}
theorem len_listN {l : Addr} {vs : List Value} {nn : Nat} {Q : Value → Shared → Prop} (N : News h₀ L s.heap news) (hm : (l, listOf vs.toArray nn) ∈ news) (hz : vs.length ≤ 16384) (h : Q (.int (vs.length : Nat) (s.toks + 1)) { s with toks := s.toks + 1 + 1 }) :
    wpAny (model prog w) A (call (.builtin "len") [.ref l]) Q E s :=
  kun_lenL (k := (vs.length : Int)) ⟨_, (N _ hm).1, rfl, nn, rfl⟩ (by simp) (by omega) h
theorem append_N {D : Addr} {its : List Value} {n : Nat} {x : Value} {Q : Value → Shared → Prop} (F : Fr h₀ L s.heap m) (N : News h₀ L s.heap news) (U : Upd D (listOf its.toArray n) (listOf (its ++ [x]).toArray (n + 1)) news news') (hz : its.length ≤ 16384)
    (h : ∀ h', Fr h₀ L h' m → News h₀ L h' news' → Q .none { s with heap := h' }) : wpAny (model prog w) A (call (.builtin "list.append") [.ref D, x]) Q E s := by
  have e : (its ++ [x]).toArray = its.toArray.push x := by simp
  rw [e] at U
  exact append_K F N U h (by rw [List.size_toArray]; simp only [sizeLine]; omega)
end
end
section
open PySem PySem.W PyProof.Rows
/-- a told pair: a word and its place -/
abbrev tupW (x : Str × Int) (t u : Tok) : Obj := { cls := .type "tuple", data := .seq #[.str x.1 t, .int x.2 u] }
inductive Tol (news : News') : List Value → List (Str × Int) → Prop
  | nil : Tol news [] []
  | cons {a : Addr} {t u : Tok} {x : Str × Int} {vs : List Value} {ts : List (Str × Int)} : (a, tupW x t u) ∈ news → Tol news vs ts → Tol news (.ref a :: vs) (x :: ts)
theorem Tol.mono {news news' : News'} {vs : List Value} {ts : List (Str × Int)} (h : Tol news vs ts) (hs : ∀ a t u x, (a, tupW x t u) ∈ news → (a, tupW x t u) ∈ news') : Tol news' vs ts := by
  induction h with
  | nil => exact .nil
  | cons hm _ ih => exact .cons (hs _ _ _ _ hm) ih
theorem Tol.app {news : News'} {vs vs' : List Value} {ts ts' : List (Str × Int)} (h : Tol news vs ts) (h' : Tol news vs' ts') : Tol news (vs ++ vs') (ts ++ ts') := by
  induction h with
  | nil => exact h'
  | cons hm _ ih => exact .cons hm ih
theorem Tol.len {news : News'} {vs : List Value} {ts : List (Str × Int)} (h : Tol news vs ts) : vs.length = ts.length := by
  induction h with
  | nil => rfl
  | cons hm _ ih => simp [ih]
theorem tup_ne_list {x : Str × Int} {t u : Tok} {its : Array Value} {n : Nat} : tupW x t u ≠ listOf its n := fun e => by
  have h : Value.type "tuple" = Value.type "list" := congrArg Obj.cls e
  exact absurd h (by decide)
theorem tup_ne_iter {x : Str × Int} {t u : Tok} {o : Obj} (h : o.cls = .type "list_iterator") : tupW x t u ≠ o := fun e => by
  rw [← e] at h
  have h : Value.type "tuple" = Value.type "list_iterator" := h
  exact absurd h (by decide)
theorem list_ne_iter {its : Array Value} {n : Nat} {o : Obj} (h : o.cls = .type "list_iterator") : listOf its n ≠ o := fun e => by
  rw [← e] at h
  have h : Value.type "list" = Value.type "list_iterator" := h
  exact absurd h (by decide)
def Wd.n : Wd → Int
  | .e0 => 0
  | .e1 => 1
  | .e2 => 2
  | _ => -1
/-- what stays of a word at a place -/
def Wd.out (p : Int) : Wd → Str
  | .lt => if p < 0 then Str.ofString "<" else Str.ofString "&lt;"
  | .m1 => Str.ofString "&e1;"
  | .m2 => Str.ofString "&e2;"
  | .e0 => Str.ofString "&e0;"
  | .e1 => Str.ofString "&e1;"
  | .e2 => Str.ofString "&e2;"
  | .a => Str.ofString "a"
def told1 (p : Int) (x : Wd) (rec : List (Str × Int)) : List (Str × Int) := if x.n > p then rec else [(x.out p, p)]
abbrev Rows4 := List Wd × List Wd × List Wd × List Wd
def T2 (R : Rows4) : List (Str × Int) := R.2.2.2.flatMap fun x => told1 2 x []
def T1 (R : Rows4) : List (Str × Int) := R.2.2.1.flatMap fun x => told1 1 x (T2 R)
def T0 (R : Rows4) : List (Str × Int) := R.2.1.flatMap fun x => told1 0 x (if x.n = 1 then T1 R else T2 R)
def TM (R : Rows4) : List (Str × Int) := R.1.flatMap fun x => told1 (-1) x (if x.n = 0 then T0 R else if x.n = 1 then T1 R else T2 R)
def TT (R : Rows4) (p : Int) : List (Str × Int) := if p = 2 then T2 R else if p = 1 then T1 R else if p = 0 then T0 R else TM R
def rowAt (R : Rows4) (p : Int) : List Wd := if p = 2 then R.2.2.2 else if p = 1 then R.2.2.1 else if p = 0 then R.2.1 else R.1
theorem tt_unf (R : Rows4) {p : Int} (h1 : -1 ≤ p) (h2 : p ≤ 2) : TT R p = (rowAt R p).flatMap fun x => told1 p x (TT R x.n) := by
  have : p = -1 ∨ p = 0 ∨ p = 1 ∨ p = 2 := by omega
  rcases this with rfl | rfl | rfl | rfl
  · show TM R = R.1.flatMap _
    unfold TM
    congr 1; funext x
    cases x <;> rfl
  · show T0 R = R.2.1.flatMap _
    unfold T0
    congr 1; funext x
    cases x <;> rfl
  · show T1 R = R.2.2.1.flatMap _
    unfold T1
    congr 1; funext x
    cases x <;> rfl
  · show T2 R = R.2.2.2.flatMap _
    unfold T2
    congr 1; funext x
    cases x <;> rfl
def Small (R : Rows4) : Prop := R.1.length ≤ 4 ∧ R.2.1.length ≤ 4 ∧ R.2.2.1.length ≤ 4 ∧ R.2.2.2.length ≤ 4
theorem flat_len {α β : Type} {f : α → List β} {n : Nat} : ∀ (l : List α), (∀ x, (f x).length ≤ n) → (l.flatMap f).length ≤ l.length * n
  | [], _ => by simp
  | a :: l, h => by
    rw [List.flatMap_cons, List.length_append, List.length_cons, Nat.succ_mul]
    have := flat_len l h
    have := h a
    omega
theorem told1_len {p : Int} {x : Wd} {rec : List (Str × Int)} {n : Nat} (h : rec.length ≤ n) (h1 : 1 ≤ n) : (told1 p x rec).length ≤ n := by
  unfold told1; split
  · exact h
  · simpa using h1
theorem t2_len {R : Rows4} (h : Small R) : (T2 R).length ≤ 4 := by
  have := flat_len (f := fun x => told1 2 x []) (n := 1) R.2.2.2 (fun x => told1_len (by simp) (by omega))
  have := h.2.2.2
  unfold T2; omega
theorem t1_len {R : Rows4} (h : Small R) : (T1 R).length ≤ 16 := by
  have := flat_len (f := fun x => told1 1 x (T2 R)) (n := 4) R.2.2.1 (fun x => told1_len (t2_len h) (by omega))
  have := h.2.2.1
  unfold T1; omega
theorem t0_len {R : Rows4} (h : Small R) : (T0 R).length ≤ 64 := by
  have := flat_len (f := fun x => told1 0 x (if x.n = 1 then T1 R else T2 R)) (n := 16) R.2.1 (fun x => told1_len (by split; exact t1_len h; exact Nat.le_trans (t2_len h) (by omega)) (by omega))
  have := h.2.1
  unfold T0; omega
theorem tm_len {R : Rows4} (h : Small R) : (TM R).length ≤ 256 := by
  have := flat_len (f := fun x => told1 (-1) x (if x.n = 0 then T0 R else if x.n = 1 then T1 R else T2 R)) (n := 64) R.1 (fun x => told1_len (by split; exact t0_len h; split; exact Nat.le_trans (t1_len h) (by omega); exact Nat.le_trans (t2_len h) (by omega)) (by omega))
  have := h.1
  unfold TM; omega
theorem tt_len {R : Rows4} (h : Small R) (p : Int) : (TT R p).length ≤ 256 := by
  unfold TT
  have a := t2_len h
  have b := t1_len h
  have c := t0_len h
  have d := tm_len h
  split
  · omega
  split
  · omega
  split
  · omega
  · omega
theorem flat_take_len {α β : Type} {f : α → List β} (l : List α) (i : Nat) : ((l.take i).flatMap f).length ≤ (l.flatMap f).length := by
  have e : l.flatMap f = (l.take i).flatMap f ++ (l.drop i).flatMap f := by rw [← List.flatMap_append, List.take_append_drop]
  rw [e, List.length_append]; omega
section
variable {prog : Program} {w : World} {A : Around} {E : Value → Shared → Prop} {s : Shared} {h₀ : Heap} {L : Addr} {news : News'} {m : Str → Option Value}
theorem add_N {a b : Addr} {vs ws : List Value} {na nb : Nat} {Q : Value → Shared → Prop} (F : Fr h₀ L s.heap m) (N : News h₀ L s.heap news) (ha : (a, listOf vs.toArray na) ∈ news) (hb : (b, listOf ws.toArray nb) ∈ news) (hz : vs.length + ws.length ≤ 16384)
    (h : ∀ D h', Fr h₀ L h' m → News h₀ L h' ((D, listOf (vs ++ ws).toArray 0) :: news) → (∀ p ∈ news, p.1 < D) → Q (.ref D) { s with heap := h' }) : wpAny (model prog w) A (binaryOp .Add (.ref a) (.ref b)) Q E s :=
  add_lists F N ⟨_, (N _ ha).1, rfl, na, rfl⟩ ⟨_, (N _ hb).1, rfl, nb, rfl⟩ (fun h' F' N' => h _ h' F' N' fun p hp => Heap.lt_size (N p hp).1) (by simp only [sizeLine]; omega)
end
end
section
open PySem PySem.W PyProof.Rows
theorem ws_NU : True := by
  (k_with_none; (k_with "w1" => ((refine' code_def ?k1 ?k2 ?k3 ?k4 ?k5 ?kA ?kF ?kK ?k6 ?k7 ?k8 ?k9 ?kB ?_ ?c2 ?c3 ?c4 ?c5; (case kA => exact rfl); (case kF => exact rfl); (case kK => first | (with_reducible assumption) | assumption); (case k1 => k_asm); (case k2 => k_asm); (case k3 => k_asm); (case k4 => k_asm); (case k5 => k_asm); (case k6 => k_is); (case k7 => k_is); (case k8 => ktr_room); (case k9 => first | exact BindsTo.of_eq rfl | exact binds_K (by k_in) rfl (by k_is) rfl rfl rfl); (case c5 => decide); (case kB => exact locs rfl); (case c2 => exact rfl); (case c3 => exact rfl); (case c4 => exact rfl); k_whole; intro g'zz L'zz h'zz FG'zz F'zz N'zz B'zz X'zz T'zz; (try dsimp only); (try k_fold)))); (k_with "w2" => (((case k1 => k_asm); (case k2 => k_asm); (case k3 => k_asm); (case k4 => k_asm); (case k5 => k_asm); (case kK => first | (with_reducible assumption) | exact rfl | assumption); (case kd => ktr_room); (case ku => ktr_units)))); (k_with "w3" => (first | (refine in_has (b := false) ?hh ?_; (case hh => first | assumption | decide +kernel)) | (refine in_has (b := true) ?hh ?_; (case hh => first | assumption | decide +kernel)) | (refine in_has rfl ?_))); (k_with "w4" => (first | (refine notin_has (b := false) ?hh ?_; (case hh => first | assumption | decide +kernel)) | (refine notin_has (b := true) ?hh ?_; (case hh => first | assumption | decide +kernel)))); (k_with "w5" => (first | (refine eq_b (b := false) ?hh ?_; (case hh => first | assumption | decide +kernel)) | (refine eq_b (b := true) ?hh ?_; (case hh => first | assumption | decide +kernel)))); (k_with "w6" => (((first | (refine truthy_b (b := true) ?hh ?hl ?_; (case hh => first | assumption | exact full_one _ | decide +kernel); (case hl => first | assumption | exact one_short _ | decide +kernel)) | (refine truthy_b (b := false) ?hh ?hl ?_; (case hh => first | assumption | decide +kernel); (case hl => first | assumption | decide +kernel))); intro _))); (k_with "w7" => ((refine' kp_both ?k1 ?k2 ?k3 ?k4 ?k5 ?kA ?kF ?kK ?k6 ?k7 ?k8 ?kV ?kX ?kQ ?kM ?kN ?kD ?kR ?kP ?kS ?kT ?kB ?_ ?c2 ?c3 ?c4 ?c5; (case kA => exact rfl); (case kF => exact rfl); (case kK => first | (with_reducible assumption) | assumption); (case k1 => k_asm); (case k2 => k_asm); (case k3 => k_asm); (case k4 => k_asm); (case k5 => k_asm); (case k6 => k_is); (case k7 => k_is); (case k8 => ktr_room); (case kV => kp_lit); (case kX => kp_lit); (case kQ => exact rfl); (case kM => exact rfl); (case kN => exact rfl); (case kD => kp_flats); (case kR => exact rfl); (case kP => exact rfl); (case kS => exact fun _ => rfl); (case kT => exact fun _ _ => rfl); (case kB => exact fun _ _ => locs rfl); (case c5 => decide); (case c2 => exact rfl); (case c3 => exact rfl); (case c4 => exact rfl); k_whole; intro C'zz D'zz o'zz g'zz L'zz h'zz tk'zz l1zz l2zz lo'zz hs'zz fs'zz FG'zz F'zz N'zz B'zz X'zz T'zz; (try k_lt l1zz); (try k_lt2 l2zz); (try dsimp only); (try k_fold)))); (k_with "w8" => (((with_reducible show wpAny _ _ (callWith _ (Value.builtin _) (_ :: _) (backTo _ (starEach (_ :: _) _)) []) _ _ _); refine callWith_method1 ?_))); (k_with "w9" => ((k_here; k_dflt (refine' get_own ?k1 ?k2 ?k3 ?k4 ?k5 ?k6 ?k7 ?k8 ?k9 ?_; (case k1 => k_asm); (case k2 => k_asm); (case k3 => k_inst); (case k4 => k_is); (case k5 => k_is); (case k6 => k_is); (case k7 => k_is); (case k8 => k_get); (case k9 => k_handed); k_whole)))); (k_with "w10" => (((repeat (first | (with_reducible exact List.forall_mem_nil _) | (intro pzz hpzz; (repeat (first | (with_reducible exact hpzz) | (with_reducible refine List.mem_cons_of_mem _ ?_))); done) | (refine List.forall_mem_cons.mpr ⟨by k_mem, ?_⟩))); first | done | (intro pzz hpzz; repeat (first | exact hpzz | apply List.Mem.tail))))); (k_with "w22" => ((k_here; k_dflt (first | (refine' index_words 0 ?N ?hm (.inl ⟨rfl, ?h1⟩) ?_; (case N => k_asm); (case hm => k_mem); (case h1 => decide +kernel)) | (refine' index_words 1 ?N ?hm (.inr (.inl ⟨rfl, ?h1, ?h2⟩)) ?_; (case N => k_asm); (case hm => k_mem); (case h1 => decide +kernel); (case h2 => decide +kernel)) | (refine' index_words 2 ?N ?hm (.inr (.inr ⟨rfl, ?h1, ?h2, ?h3⟩)) ?_; (case N => k_asm); (case hm => k_mem); (case h1 => decide +kernel); (case h2 => decide +kernel); (case h3 => decide +kernel)))))); trivial)
theorem index_words {prog : Program} {w : World} {A : Around} {E : Value → Shared → Prop} {s : Shared} {h₀ : Heap} {L : Addr} {news : News'} {l : Addr} {a b c k : Str} {t0 t1 t2 t : Tok} {nn : Nat} {Q : Value → Shared → Prop} (j : Nat) (N : News h₀ L s.heap news) (hm : (l, listOf #[.str a t0, .str b t1, .str c t2] nn) ∈ news)
    (hh : (j = 0 ∧ (a == k) = true) ∨ (j = 1 ∧ (a == k) = false ∧ (b == k) = true) ∨ (j = 2 ∧ (a == k) = false ∧ (b == k) = false ∧ (c == k) = true)) (h : Q (.int j s.toks) { s with toks := s.toks + 1 }) :
    wpAny (model prog w) A (call (.builtin "list.index") [.ref l, .str k t]) Q E s := by
  have ho := (N _ hm).1
  have hi : StrsAre [.str a t0, .str b t1, .str c t2] [a, b, c] := .cons _ _ (.cons _ _ (.cons _ _ .nil))
  have hj : j < 3 := by omega
  refine call_meets PySem.F.slot_list_index ⟨_, ho, rfl⟩ PySem.F.entry_list_index (PySem.F.args_list_index_2 _ _)
    (PySem.SeqAt.list_indexAt l #[.str a t0, .str b t1, .str c t2] nn none #[] (.str k t) (isStrOf k) j hj (by omega) ?_ ?_) ⟨ho, fun y hy => (eq_isStrOf k t hi y (by simpa using hy)).at _ _, h⟩
  · rcases hh with ⟨rfl, h1⟩ | ⟨rfl, h1, h2⟩ | ⟨rfl, h1, h2, h3⟩
    · exact h1
    · exact h2
    · exact h3
  · intro i hi hlt
    rcases hh with ⟨rfl, h1⟩ | ⟨rfl, h1, h2⟩ | ⟨rfl, h1, h2, h3⟩
    · exact absurd hlt (Nat.not_lt_zero _)
    · obtain rfl : i = 0 := by omega
      exact h1
    · rcases (by omega : i = 0 ∨ i = 1) with rfl | rfl
      · exact h1
      · exact h2
set_option maxRecDepth 100000 in
set_option maxHeartbeats 0 in
theorem c_num (w p loose mean mg mb) (news : News') (x : Wd) (t : Tok)
   : Ctr w p loose mean mg mb (.ref 764) [.str x.s t] [] news 4 80 (fun r news' => (∃ t', r = .int x.n t') ∧ news' = news) := by
  intro dp un gd cn cs a ccd cl outer A₀ base h₀ L m s Q E B F X N T hk hd hu hret
  cases x
  all_goals (
    dsimp only [Wd.s, Wd.n]
    refine wpAny_call ?_
    k_dflt (walk_at "mine:enter")
    k_steps)
  all_goals exact hret _ _ _ _ (by k_asm) (News.tail' (by k_asm)) ⟨⟨_, rfl⟩, rfl⟩
end
section
open PySem PySem.W PyProof.Rows
open PySem.Sem (wp)
/-- a run takes no token back -/
theorem runs_toks {M : Model} {Γ : Ctx} {p : Pos} {t : Sem Fin} {fs : List Frame} {s s' : Shared} {e : End} (h : Runs M Γ p t fs s e s') : s.toks ≤ s'.toks := by
  induction h <;> first | exact Nat.le_refl _ | assumption | (simp only [Shared.setGen] at *; omega) | omega
theorem wakes_toks {M : Model} {Γ : Ctx} {p : Pos} {g : Nat} {r : Resume} {s s' : Shared} {res : GenResult} (h : Wakes M Γ p g r s res s') : s.toks ≤ s'.toks := by
  unfold Wakes at h
  split at h
  · exact h.elim
  · split at h
    · obtain ⟨e₁, s₁, hr, _, _, rfl⟩ := h
      have := runs_toks hr
      simp only [Shared.setGen] at *; omega
    · exact h.2 ▸ Nat.le_refl _
    · exact h.2 ▸ Nat.le_refl _
  · obtain ⟨e₁, s₁, hr, _, _, rfl⟩ := h
    have := runs_toks hr
    simp only [Shared.setGen] at *; omega
  · exact h.2 ▸ Nat.le_refl _
  · exact h.2 ▸ Nat.le_refl _
theorem wp_toks {M : Model} {α : Type} : ∀ (t : Sem α) (Γ : Ctx) (T : Nat) (Q : α → Pos → Shared → Prop) (E : Value → Pos → Shared → Prop) (p : Pos) (s : Shared), T ≤ s.toks →
    wp M Γ t (fun a p s' => T ≤ s'.toks → Q a p s') (fun e p s' => T ≤ s'.toks → E e p s') p s → wp M Γ t Q E p s := by
  intro t
  induction t <;> intro Γ T Q E p s hT h <;> simp only [Sem.wp] at h ⊢
  all_goals try exact h hT
  all_goals try exact h
  case rule ih => exact ih _ _ _ _ _ _ _ hT h
  case «at» ih => exact ih _ _ _ _ _ _ _ hT h
  case load ih => obtain ⟨o, ho, h⟩ := h; exact ⟨o, ho, ih _ _ _ _ _ _ _ hT h⟩
  case update ih => exact ⟨h.1, ih _ _ _ _ _ _ _ (by exact hT) h.2⟩
  case alloc ih => exact ih _ _ _ _ _ _ _ (by exact hT) h
  case loadIfAlive ih => exact ih _ _ _ _ _ _ _ hT h
  case point ih => exact ih _ _ _ _ _ _ _ hT h
  case fresh ih => exact ih _ _ _ _ _ _ _ (by show T ≤ s.toks + 1; omega) h
  case ask ih => exact ih _ _ _ _ _ _ _ hT h
  case choose ih => exact ⟨h.1, ih _ _ _ _ _ _ _ (by exact hT) h.2⟩
  case os ih => exact ih _ _ _ _ _ _ _ (by exact hT) h
  case call ih =>
    obtain ⟨r, s', hr, h⟩ := h
    exact ⟨r, s', hr, ih _ _ _ _ _ _ _ (Nat.le_trans hT (runs_toks hr)) h⟩
  case handled ih => exact ih _ _ _ _ _ _ _ hT h
  case newGen ih => exact ih _ _ _ _ _ _ _ (by exact hT) h
  case genState ih => obtain ⟨o, ho, h⟩ := h; exact ⟨o, ho, ih _ _ _ _ _ _ _ hT h⟩
  case resume ih =>
    obtain ⟨r, s', hr, h⟩ := h
    exact ⟨r, s', hr, ih _ _ _ _ _ _ _ (Nat.le_trans hT (wakes_toks hr)) h⟩
  case stack ih => exact ih _ _ _ _ _ _ _ hT h
  case thread ih => exact ih _ _ _ _ _ _ _ hT h
/-- behind any tree the tokens are at least those ahead of it -/
theorem up {M : Model} {α : Type} {A : Around} {t : Sem α} {Q : α → Shared → Prop} {E : Value → Shared → Prop} {s : Shared}
    (h : wpAny M A t (fun v s' => s.toks ≤ s'.toks → Q v s') E s) : wpAny M A t Q E s :=
  fun Γ p hΓ => wp_toks t Γ s.toks _ _ p s (Nat.le_refl _) (Sem.wp_mono M Γ t (exc' := fun e _ s' => s.toks ≤ s'.toks → E e s') (fun _ _ _ q => q) (fun _ _ _ e _ => e) p s (h Γ p hΓ))
theorem code_up {M : Model} {A : Around} {c : Code} {R : Result → Shared → Prop} {s : Shared}
    (h : codeAny M A c (fun r s' => s.toks ≤ s'.toks → R r s') s) : codeAny M A c R s := fun Γ p hc hΓ => by
  obtain ⟨r, s', hr, h⟩ := h Γ p hc hΓ
  exact ⟨r, s', hr, h (runs_toks hr)⟩
/-- the tokens' number forgotten, but for a bound -/
theorem gen_toks {M : Model} {α : Type} {A : Around} {t : Sem α} {Q : α → Shared → Prop} {E : Value → Shared → Prop} {h : Heap} {g : Array GenState} {d os} {X : Nat}
    (H : ∀ tk, X + 1 ≤ tk → wpAny M A t Q E ⟨h, g, d, tk, os⟩) : wpAny M A t Q E ⟨h, g, d, X + 1, os⟩ := H _ (Nat.le_refl _)
theorem gen_pos {M : Model} {α : Type} {A : Around} {t : Sem α} {Q : α → Shared → Prop} {E : Value → Shared → Prop} {h : Heap} {g : Array GenState} {d os} {X : Nat}
    (hX : 1 ≤ X) (H : ∀ tk, 1 ≤ tk → wpAny M A t Q E ⟨h, g, d, tk, os⟩) : wpAny M A t Q E ⟨h, g, d, X, os⟩ := H _ hX
/-- a call by its contract, the tokens told -/
theorem ctr_up {w : World} {p : Program} {loose : List Str} {mean : ExcName → Option Value} {mg mb : Str → Option Value} {f : Value} {vs : List Value} {kw : List (Str × Value)} {news : News'} {dN uN : Nat} {post : Value → News' → Prop}
    (C : Ctr w p loose mean mg mb f vs kw news dN uN post)
    {dp un : Nat} {gd : Option (List Code)} {cn : Str} {cs : Scope} {a : Addr} {ccd : Value} {cl : List (Str × Addr)} {outer : List Env} {A₀ : Around} {base h₀ : Heap} {L : Addr} {m : Str → Option Value} {s : Shared} {Q E : Value → Shared → Prop}
    (B : Below A₀ base outer h₀) (F : Fr h₀ L s.heap m) (X : (hd.heap_1 w.params).In h₀) (N : News h₀ L s.heap news) (T : Top p loose mean mg mb h₀) (hk : cs.kind = .function)
    (hd : dp + dN < recursionLimit) (hu : un + uN < cLine)
    (ret : ∀ (r : Value) (news' : News') (h' : Heap) (tk' : Nat), s.toks ≤ tk' → Fr h₀ L h' m → News h₀ L h' news' → post r news' → Q r { s with heap := h', toks := tk' }) :
    wpAny (model PR w) (ktrTop dp un gd cn cs L a ccd cl outer) (call f vs kw) Q E s :=
  up (C _ _ _ _ _ _ _ _ _ _ _ _ _ _ _ _ _ B F X N T hk hd hu fun r n h' tk' F' N' P' hle => ret r n h' tk' hle F' N' P')
end
section
open PySem PySem.W PyProof.Rows
theorem ws_RW : True := by
  (k_with_none; (k_with "w1" => ((refine' code_def ?k1 ?k2 ?k3 ?k4 ?k5 ?kA ?kF ?kK ?k6 ?k7 ?k8 ?k9 ?kB ?_ ?c2 ?c3 ?c4 ?c5; (case kA => exact rfl); (case kF => exact rfl); (case kK => first | (with_reducible assumption) | assumption); (case k1 => k_asm); (case k2 => k_asm); (case k3 => k_asm); (case k4 => k_asm); (case k5 => k_asm); (case k6 => k_is); (case k7 => k_is); (case k8 => ktr_room); (case k9 => first | exact BindsTo.of_eq rfl | exact binds_K (by k_in) rfl (by k_is) rfl rfl rfl); (case c5 => decide); (case kB => exact locs rfl); (case c2 => exact rfl); (case c3 => exact rfl); (case c4 => exact rfl); k_whole; intro g'zz L'zz h'zz FG'zz F'zz N'zz B'zz X'zz T'zz; (try dsimp only); (try k_fold)))); (k_with "w2" => (((case k1 => k_asm); (case k2 => k_asm); (case k3 => k_asm); (case k4 => k_asm); (case k5 => k_asm); (case kK => first | (with_reducible assumption) | exact rfl | assumption); (case kd => ktr_room); (case ku => ktr_units)))); (k_with "w3" => (first | (refine in_has (b := false) ?hh ?_; (case hh => first | assumption | decide +kernel)) | (refine in_has (b := true) ?hh ?_; (case hh => first | assumption | decide +kernel)) | (refine in_has rfl ?_))); (k_with "w4" => (first | (refine notin_has (b := false) ?hh ?_; (case hh => first | assumption | decide +kernel)) | (refine notin_has (b := true) ?hh ?_; (case hh => first | assumption | decide +kernel)))); (k_with "w5" => (first | (refine eq_b (b := false) ?hh ?_; (case hh => first | assumption | decide +kernel)) | (refine eq_b (b := true) ?hh ?_; (case hh => first | assumption | decide +kernel)))); (k_with "w6" => (((first | (refine truthy_b (b := true) ?hh ?hl ?_; (case hh => first | assumption | exact full_one _ | decide +kernel); (case hl => first | assumption | exact one_short _ | decide +kernel)) | (refine truthy_b (b := false) ?hh ?hl ?_; (case hh => first | assumption | decide +kernel); (case hl => first | assumption | decide +kernel))); intro _))); (k_with "w7" => ((refine' kp_both ?k1 ?k2 ?k3 ?k4 ?k5 ?kA ?kF ?kK ?k6 ?k7 ?k8 ?kV ?kX ?kQ ?kM ?kN ?kD ?kR ?kP ?kS ?kT ?kB ?_ ?c2 ?c3 ?c4 ?c5; (case kA => exact rfl); (case kF => exact rfl); (case kK => first | (with_reducible assumption) | assumption); (case k1 => k_asm); (case k2 => k_asm); (case k3 => k_asm); (case k4 => k_asm); (case k5 => k_asm); (case k6 => k_is); (case k7 => k_is); (case k8 => ktr_room); (case kV => kp_lit); (case kX => kp_lit); (case kQ => exact rfl); (case kM => exact rfl); (case kN => exact rfl); (case kD => kp_flats); (case kR => exact rfl); (case kP => exact rfl); (case kS => exact fun _ => rfl); (case kT => exact fun _ _ => rfl); (case kB => exact fun _ _ => locs rfl); (case c5 => decide); (case c2 => exact rfl); (case c3 => exact rfl); (case c4 => exact rfl); k_whole; intro C'zz D'zz o'zz g'zz L'zz h'zz tk'zz l1zz l2zz lo'zz hs'zz fs'zz FG'zz F'zz N'zz B'zz X'zz T'zz; (try k_lt l1zz); (try k_lt2 l2zz); (try dsimp only); (try k_fold)))); (k_with "w8" => (((with_reducible show wpAny _ _ (callWith _ (Value.builtin _) (_ :: _) (backTo _ (starEach (_ :: _) _)) []) _ _ _); refine callWith_method1 ?_))); (k_with "w9" => ((k_here; k_dflt (refine' get_own ?k1 ?k2 ?k3 ?k4 ?k5 ?k6 ?k7 ?k8 ?k9 ?_; (case k1 => k_asm); (case k2 => k_asm); (case k3 => k_inst); (case k4 => k_is); (case k5 => k_is); (case k6 => k_is); (case k7 => k_is); (case k8 => k_get); (case k9 => k_handed); k_whole)))); (k_with "w10" => (((repeat (first | (with_reducible exact List.forall_mem_nil _) | (intro pzz hpzz; (repeat (first | (with_reducible exact hpzz) | (with_reducible refine List.mem_cons_of_mem _ ?_))); done) | (refine List.forall_mem_cons.mpr ⟨by k_mem, ?_⟩))); first | done | (intro pzz hpzz; repeat (first | exact hpzz | apply List.Mem.tail))))); (k_with "w23" => ((k_here; with_reducible refine gen_toks ?_; intro tkzz htkzz; clear htkzz))); (k_with "w24" => ((k_here; with_reducible refine gen_toks ?_; intro tkzz htkzz; clear htkzz))); (k_with "w25" => ((k_here; k_dflt (refine' row_item ?N ?hm ?e ?h0 ?h6 ?_; (case N => k_asm); (case hm => k_mem); (case e => assumption); (case h0 => exact Int.fmod_nonneg_of_pos _ (by decide)); (case h6 => exact Int.fmod_lt_of_pos _ (by decide)))))); (k_with "w26" => ((k_here; k_dflt (refine' menu_item ?N ?hm ?h0 ?h6 ?_; (case N => k_asm); (case hm => k_mem); (case h0 => exact Int.fmod_nonneg_of_pos _ (by decide)); (case h6 => exact Int.fmod_lt_of_pos _ (by decide))); intro x9zz t9zz))); (k_with "w27" => ((k_here; k_dflt (refine' len_listN ?N ?hm ?hz ?_; (case N => k_asm); (case hm => k_mem); (case hz => (rw [rowV_len]; omega))); (try rw [rowV_len])))); (k_with "w28" => ((k_here; k_dflt (refine' append_N ?F ?N ?U ?hz ?_; (case F => k_asm); (case N => k_asm); (case U => k_upd); (case hz => (rw [rowV_len]; omega))); intro h'zz F'zz N'zz; (try rw [rowV_push] at N'zz)))); trivial)
theorem ints_at {ws : List Value} {ns : List Int} (h : IntsAre ws ns) {i : Nat} {v : Value} (e : ws[i]? = some v) : ∃ n t, v = .int n t := by
  have hi : i < ns.length := by have h1 := (List.getElem?_eq_some_iff.mp e).1; have h2 := h.length; omega
  obtain ⟨t, hx⟩ := h.get i ns[i] (by simp [hi])
  rw [hx] at e
  exact ⟨_, t, (Option.some.inj e).symm⟩
section
variable {prog : Program} {w : World} {A : Around} {E : Value → Shared → Prop} {s : Shared} {Q : Value → Shared → Prop}
theorem menu_item {value slice : PySem.Expr} {h₀ : Heap} {L : Addr} {news : News'} {l : Addr} {t0 t1 t2 t3 t4 t5 u : Tok} {nn : Nat} {k : Int} (N : News h₀ L s.heap news) (hm : (l, listOf #[.str (Str.ofString "&e0;") t0, .str (Str.ofString "&e1;") t1, .str (Str.ofString "&e2;") t2, .str (Str.ofString "&lt;") t3, .str (Str.ofString "&amp;e1;") t4, .str (Str.ofString "a") t5] nn) ∈ news)
    (h0 : 0 ≤ k) (h6 : k < 6) (h : ∀ (x : Wd) t, Q (.str x.s t) s) (hs : subscripted slice false (.ref l) (.int k u) = operate [.ref l, .int k u] (getItem (.ref l) (.int k u)) := by with_unfolding_all rfl) :
    wpAny (model prog w) A (subscriptTail value slice (.ref l) (.int k u)) Q E s := by
  have hl : s.heap.IsList l #[.str (Str.ofString "&e0;") t0, .str (Str.ofString "&e1;") t1, .str (Str.ofString "&e2;") t2, .str (Str.ofString "&lt;") t3, .str (Str.ofString "&amp;e1;") t4, .str (Str.ofString "a") t5] := ⟨_, (N _ hm).1, rfl, nn, rfl⟩
  have hk : k = 0 ∨ k = 1 ∨ k = 2 ∨ k = 3 ∨ k = 4 ∨ k = 5 := by omega
  rcases hk with e | e | e | e | e | e <;> subst e
  · exact tail_any hl.typeIs slot_list_getitem.lookup (wpAny_getItem_list hl (by decide) (by decide) rfl (h .e0 t0)) hs
  · exact tail_any hl.typeIs slot_list_getitem.lookup (wpAny_getItem_list hl (by decide) (by decide) rfl (h .e1 t1)) hs
  · exact tail_any hl.typeIs slot_list_getitem.lookup (wpAny_getItem_list hl (by decide) (by decide) rfl (h .e2 t2)) hs
  · exact tail_any hl.typeIs slot_list_getitem.lookup (wpAny_getItem_list hl (by decide) (by decide) rfl (h .lt t3)) hs
  · exact tail_any hl.typeIs slot_list_getitem.lookup (wpAny_getItem_list hl (by decide) (by decide) rfl (h .m1 t4)) hs
  · exact tail_any hl.typeIs slot_list_getitem.lookup (wpAny_getItem_list hl (by decide) (by decide) rfl (h .a t5)) hs
end
theorem row_item {prog : Program} {w : World} {A : Around} {E : Value → Shared → Prop} {s : Shared} {Q : Value → Shared → Prop} {value slice : PySem.Expr} {h₀ : Heap} {L : Addr} {news : News'} {l : Addr} {vs : List Value} {v : Value} {u : Tok} {nn : Nat} {k : Int} (N : News h₀ L s.heap news) (hm : (l, listOf vs.toArray nn) ∈ news)
    (e : vs[k.toNat]? = some v) (h0 : 0 ≤ k) (h6 : k < 4) (h : Q v s) (hs : subscripted slice false (.ref l) (.int k u) = operate [.ref l, .int k u] (getItem (.ref l) (.int k u)) := by with_unfolding_all rfl) :
    wpAny (model prog w) A (subscriptTail value slice (.ref l) (.int k u)) Q E s := by
  have hl : s.heap.IsList l vs.toArray := ⟨_, (N _ hm).1, rfl, nn, rfl⟩
  exact tail_any hl.typeIs slot_list_getitem.lookup (wpAny_getItem_list hl h0 (by omega) (by simpa using e) h) hs
set_option maxRecDepth 100000 in
set_option maxHeartbeats 0 in
theorem c_rows (w p loose mean mg mb) (rest : News') (D : Addr) (nn : Nat) (ws : List Value) (ns : List Int) (hI : IntsAre ws ns)
   : Ctr w p loose mean mg mb (.ref 757) [.ref D] [] ((D, listOf ws.toArray nn) :: rest) 10 160
      (fun r news' => ∃ ra r0 r1 r2 r3 k k0 k1 k2 k3 q0 q1 q2 q3, r = .ref ra ∧ news' = rowsLed ra r0 r1 r2 r3 k k0 k1 k2 k3 q0 q1 q2 q3 ((D, listOf ws.toArray nn) :: rest) ∧ q0.length ≤ 4 ∧ q1.length ≤ 4 ∧ q2.length ≤ 4 ∧ q3.length ≤ 4) := by
  intro dp un gd cn cs a ccd cl outer A₀ base h₀ L m s Q E B F X N T hk hd hu hret
  refine wpAny_call ?_
  k_dflt (walk_at "mine:enter")
  (k_with_none; (k_with "w1" => ((refine' code_def ?k1 ?k2 ?k3 ?k4 ?k5 ?kA ?kF ?kK ?k6 ?k7 ?k8 ?k9 ?kB ?_ ?c2 ?c3 ?c4 ?c5; (case kA => exact rfl); (case kF => exact rfl); (case kK => first | (with_reducible assumption) | assumption); (case k1 => k_asm); (case k2 => k_asm); (case k3 => k_asm); (case k4 => k_asm); (case k5 => k_asm); (case k6 => k_is); (case k7 => k_is); (case k8 => ktr_room); (case k9 => first | exact BindsTo.of_eq rfl | exact binds_K (by k_in) rfl (by k_is) rfl rfl rfl); (case c5 => decide); (case kB => exact locs rfl); (case c2 => exact rfl); (case c3 => exact rfl); (case c4 => exact rfl); k_whole; intro g'zz L'zz h'zz FG'zz F'zz N'zz B'zz X'zz T'zz; (try dsimp only); (try k_fold)))); (k_with "w2" => (((case k1 => k_asm); (case k2 => k_asm); (case k3 => k_asm); (case k4 => k_asm); (case k5 => k_asm); (case kK => first | (with_reducible assumption) | exact rfl | assumption); (case kd => ktr_room); (case ku => ktr_units)))); (k_with "w3" => (first | (refine in_has (b := false) ?hh ?_; (case hh => first | assumption | decide +kernel)) | (refine in_has (b := true) ?hh ?_; (case hh => first | assumption | decide +kernel)) | (refine in_has rfl ?_))); (k_with "w4" => (first | (refine notin_has (b := false) ?hh ?_; (case hh => first | assumption | decide +kernel)) | (refine notin_has (b := true) ?hh ?_; (case hh => first | assumption | decide +kernel)))); (k_with "w5" => (first | (refine eq_b (b := false) ?hh ?_; (case hh => first | assumption | decide +kernel)) | (refine eq_b (b := true) ?hh ?_; (case hh => first | assumption | decide +kernel)))); (k_with "w6" => (((first | (refine truthy_b (b := true) ?hh ?hl ?_; (case hh => first | assumption | exact full_one _ | decide +kernel); (case hl => first | assumption | exact one_short _ | decide +kernel)) | (refine truthy_b (b := false) ?hh ?hl ?_; (case hh => first | assumption | decide +kernel); (case hl => first | assumption | decide +kernel))); intro _))); (k_with "w7" => ((refine' kp_both ?k1 ?k2 ?k3 ?k4 ?k5 ?kA ?kF ?kK ?k6 ?k7 ?k8 ?kV ?kX ?kQ ?kM ?kN ?kD ?kR ?kP ?kS ?kT ?kB ?_ ?c2 ?c3 ?c4 ?c5; (case kA => exact rfl); (case kF => exact rfl); (case kK => first | (with_reducible assumption) | assumption); (case k1 => k_asm); (case k2 => k_asm); (case k3 => k_asm); (case k4 => k_asm); (case k5 => k_asm); (case k6 => k_is); (case k7 => k_is); (case k8 => ktr_room); (case kV => kp_lit); (case kX => kp_lit); (case kQ => exact rfl); (case kM => exact rfl); (case kN => exact rfl); (case kD => kp_flats); (case kR => exact rfl); (case kP => exact rfl); (case kS => exact fun _ => rfl); (case kT => exact fun _ _ => rfl); (case kB => exact fun _ _ => locs rfl); (case c5 => decide); (case c2 => exact rfl); (case c3 => exact rfl); (case c4 => exact rfl); k_whole; intro C'zz D'zz o'zz g'zz L'zz h'zz tk'zz l1zz l2zz lo'zz hs'zz fs'zz FG'zz F'zz N'zz B'zz X'zz T'zz; (try k_lt l1zz); (try k_lt2 l2zz); (try dsimp only); (try k_fold)))); (k_with "w8" => (((with_reducible show wpAny _ _ (callWith _ (Value.builtin _) (_ :: _) (backTo _ (starEach (_ :: _) _)) []) _ _ _); refine callWith_method1 ?_))); (k_with "w9" => ((k_here; k_dflt (refine' get_own ?k1 ?k2 ?k3 ?k4 ?k5 ?k6 ?k7 ?k8 ?k9 ?_; (case k1 => k_asm); (case k2 => k_asm); (case k3 => k_inst); (case k4 => k_is); (case k5 => k_is); (case k6 => k_is); (case k7 => k_is); (case k8 => k_get); (case k9 => k_handed); k_whole)))); (k_with "w10" => (((repeat (first | (with_reducible exact List.forall_mem_nil _) | (intro pzz hpzz; (repeat (first | (with_reducible exact hpzz) | (with_reducible refine List.mem_cons_of_mem _ ?_))); done) | (refine List.forall_mem_cons.mpr ⟨by k_mem, ?_⟩))); first | done | (intro pzz hpzz; repeat (first | exact hpzz | apply List.Mem.tail))))); (k_with "w23" => ((k_here; with_reducible refine gen_toks ?_; intro tkzz htkzz; clear htkzz))); (k_with "w24" => ((k_here; with_reducible refine gen_toks ?_; intro tkzz htkzz; clear htkzz))); (k_with "w25" => ((k_here; k_dflt (refine' row_item ?N ?hm ?e ?h0 ?h6 ?_; (case N => k_asm); (case hm => k_mem); (case e => assumption); (case h0 => exact Int.fmod_nonneg_of_pos _ (by decide)); (case h6 => exact Int.fmod_lt_of_pos _ (by decide)))))); (k_with "w26" => ((k_here; k_dflt (refine' menu_item ?N ?hm ?h0 ?h6 ?_; (case N => k_asm); (case hm => k_mem); (case h0 => exact Int.fmod_nonneg_of_pos _ (by decide)); (case h6 => exact Int.fmod_lt_of_pos _ (by decide))); intro x9zz t9zz))); (k_with "w27" => ((k_here; k_dflt (refine' len_listN ?N ?hm ?hz ?_; (case N => k_asm); (case hm => k_mem); (case hz => (rw [rowV_len]; omega))); (try rw [rowV_len])))); (k_with "w28" => ((k_here; k_dflt (refine' append_N ?F ?N ?U ?hz ?_; (case F => k_asm); (case N => k_asm); (case U => k_upd); (case hz => (rw [rowV_len]; omega))); intro h'zz F'zz N'zz; (try rw [rowV_push] at N'zz)))); skip)
  (k_with "mine:iter" => (k_dflt (refine Held.into ?_)))
  k_steps
  refine Held.out ?_
  refine' for_word (IRows _ _ _ _ _ ((D, listOf ws.toArray nn) :: rest) _) ?hh ?hl ?F ?N ?hj ?hkeep ?turn ?done
  case F => k_asm
  case N => k_asm
  case hh => exact rfl
  case hl => k_mem
  case hj =>
    refine ⟨none, _, _, _, _, _, [(.e0, _), (.lt, _), (.e2, _)], [(.m2, _), (.e1, _)], [(.e0, _), (.e2, _)], [(.lt, _)], ?em, (by walk_at "mine:sub"), (by simp), (by simp), (by simp), (by simp)⟩
    refine frame_none ?_
    kernel_rfl
  case hkeep =>
    intro i m ns h
    obtain ⟨_, _, _, _, _, _, _, _, _, _, _, hs, _⟩ := h
    exact hs _ (by k_mem)
  all_goals refine Held.out ?_
  case turn =>
    intro i v m1 news1 h1 tk1 it ito hv hI1 hoff hcl F1 N1
    obtain ⟨n, t, ev⟩ := ints_at (by assumption) hv
    subst ev
    clear hv
    dsimp only [envOf] at F1 N1
    have g0 := Int.fmod_nonneg_of_pos n (b := 4) (by decide)
    have g4 := Int.fmod_lt_of_pos n (b := 4) (by decide)
    obtain ⟨vx, k, rj, kj, q, oth, em, hit, hq, hne1, hne2, hne3, ho1, ho2, hra, N2, hback⟩ := rows_pick hI1 N1 hoff g0 g4 (by omega) (by omega) (by omega) (by omega) (by show @LT.lt Nat _ D _ ∧ AllLt _ rest; assumption)
    subst em
    clear hI1 N1 hoff g0 g4
    (try k_fold)
    k_steps
    all_goals (
      (try dsimp only)
      refine ⟨_, (rj, listOf (rowV _).toArray _) :: (_, listOf _ k) :: oth, _, _, rfl, (by k_asm), News.perm (by k_asm) (by walk_at "mine:sub"), ?off, hback _ _ _ _ ?hl (fun p hp => hp)⟩
      case off => simp only [List.forall_mem_cons]; exact ⟨hne3, hra, ho2⟩
      case hl => first | assumption | (rw [List.length_append, List.length_singleton]; rename (_ < _ + _) => a9; split at a9 <;> omega))
  case done =>
    intro m1 news1 h1 tk1 hI1 F1 N1
    obtain ⟨vx, k, k0, k1, k2, k3, q0, q1, q2, q3, em, hs, b0, b1, b2, b3⟩ := hI1
    subst em
    dsimp only [envOf] at F1 N1
    dsimp only
    k_steps
    all_goals exact hret _ _ _ _ (by k_asm) (News.perm (by k_asm) hs) ⟨_, _, _, _, _, _, _, _, _, _, _, _, _, _, rfl, rfl, b0, b1, b2, b3⟩
end
section
open PySem PySem.W PyProof.Rows
def WkPost (news : News') (ts : List (Str × Int)) (r : Value) (news' : News') : Prop :=
  ∃ ta nn vs, r = .ref ta ∧ (ta, listOf vs.toArray nn) ∈ news' ∧ Tol news' vs ts ∧ ∀ q ∈ news, q ∈ news'
def IW (base : News') (R : Rows4) (pl : Int) (m₀ : Str → Option Value) (i : Nat) (m : Str → Option Value) (news : News') : Prop :=
  ∃ vw ta nn vs oth, m = (fun y => if y = Str.ofString "word" then vw else if y = Str.ofString "told" then some (.ref ta) else m₀ y) ∧ (∀ q ∈ (ta, listOf (List.toArray vs) nn) :: oth, q ∈ news) ∧ (∀ q ∈ oth, q.1 ≠ ta) ∧ (∀ q ∈ base, q ∈ oth) ∧
    Tol oth vs (((rowAt R pl).take i).flatMap fun x => told1 pl x (TT R x.n))
abbrev RR (q0 q1 q2 q3 : Row) : Rows4 := (q0.map (·.1), q1.map (·.1), q2.map (·.1), q3.map (·.1))
theorem row_at {ra r0 r1 r2 r3 : Addr} {k k0 k1 k2 k3 : Nat} {q0 q1 q2 q3 : Row} {pl : Int} (h1 : -1 ≤ pl) (h2 : pl ≤ 2) :
    ∃ rj kj q, ([.ref r0, .ref r1, .ref r2, .ref r3] : List Value)[(pl + 1).toNat]? = some (.ref rj) ∧ (rj, listOf (rowV q).toArray kj) ∈ rowsLed ra r0 r1 r2 r3 k k0 k1 k2 k3 q0 q1 q2 q3 [] ∧ rowAt (RR q0 q1 q2 q3) pl = q.map (·.1) := by
  have : pl = -1 ∨ pl = 0 ∨ pl = 1 ∨ pl = 2 := by omega
  rcases this with rfl | rfl | rfl | rfl
  · exact ⟨r0, k0, q0, rfl, by simp, rfl⟩
  · exact ⟨r1, k1, q1, rfl, by simp, rfl⟩
  · exact ⟨r2, k2, q2, rfl, by simp, rfl⟩
  · exact ⟨r3, k3, q3, rfl, by simp, rfl⟩
theorem rowV_at {q : Row} {i : Nat} {v : Value} (h : (rowV q)[i]? = some v) : ∃ x t, q[i]? = some (x, t) ∧ v = .str x.s t := by
  unfold rowV at h
  rw [List.getElem?_map] at h
  cases e : q[i]? with
  | none => rw [e] at h; cases h
  | some p => rw [e] at h; exact ⟨p.1, p.2, rfl, (Option.some.inj h).symm⟩
theorem take_step {q : Row} {l : List Wd} (hl : l = q.map (·.1)) {i : Nat} {x : Wd} {t : Tok} (h : q[i]? = some (x, t)) : l.take (i + 1) = l.take i ++ [x] := by
  have : l[i]? = some x := by rw [hl, List.getElem?_map, h]; rfl
  rw [List.take_add_one, this]; rfl
theorem nums_le (x : Wd) : x.n ≤ 2 := by cases x <;> decide
theorem nums_ge (x : Wd) : -1 ≤ x.n := by cases x <;> decide
theorem tol_one {news : News'} {a : Addr} {y z : Str} {t u : Tok} {p : Int} (h : (a, tupW (y, p) t u) ∈ news) (e : y = z) : Tol news [.ref a] [(z, p)] := e ▸ .cons h .nil
/-- a turn that goes into an entity's text -/
theorem iw_rec {base news9 oth old : News'} {R : Rows4} {pl : Int} {m₀ m : Str → Option Value} {i : Nat} {x : Wd} {D it ta9 ta : Addr} {ito : Obj} {vs ws : List Value} {nn9 nn : Nat} {h₀ h : Heap} {L : Addr}
    (N : News h₀ L h ((D, listOf (vs ++ ws).toArray 0) :: (ta9, listOf ws.toArray nn9) :: (ta, listOf vs.toArray nn) :: news9)) (hcl : ito.cls = .type "list_iterator")
    (hD : ∀ p ∈ (ta9, listOf ws.toArray nn9) :: (ta, listOf vs.toArray nn) :: news9, p.1 < D) (hsub : ∀ q ∈ old, q ∈ news9) (hit : (it, ito) ∈ old) (hold : ∀ q ∈ oth, q ∈ old) (hoff : ∀ q ∈ oth, q.1 ≠ it) (hb : ∀ q ∈ base, q ∈ oth)
    (htol : Tol oth vs (((rowAt R pl).take i).flatMap fun x => told1 pl x (TT R x.n))) (ht9 : Tol news9 ws (TT R x.n)) (hgt : x.n > pl) (hstep : (rowAt R pl).take (i + 1) = (rowAt R pl).take i ++ [x])
    (em : ∃ vw, m = (fun y => if y = Str.ofString "word" then vw else if y = Str.ofString "told" then some (.ref D) else m₀ y)) :
    ∃ news', News h₀ L h ((it, ito) :: news') ∧ (∀ q ∈ news', q.1 ≠ it) ∧ IW base R pl m₀ (i + 1) m news' := by
  obtain ⟨vw, em⟩ := em
  have hit9 : (it, ito) ∈ news9 := hsub _ hit
  have hDit : D ≠ it := Nat.ne_of_gt (hD _ (.tail _ (.tail _ hit9)))
  refine ⟨(D, listOf (vs ++ ws).toArray 0) :: news9.filter (fun p => decide (p.1 ≠ it)), N.perm ?_, ?_, vw, D, 0, vs ++ ws, news9.filter (fun p => decide (p.1 ≠ it)), em, fun _ z => z, ?_, ?_, ?_⟩
  · refine List.forall_mem_cons.mpr ⟨.tail _ (.tail _ (.tail _ hit9)), List.forall_mem_cons.mpr ⟨.head _, fun p hp => .tail _ (.tail _ (.tail _ (List.mem_filter.mp hp).1))⟩⟩
  · refine List.forall_mem_cons.mpr ⟨hDit, fun p hp => by simpa using (List.mem_filter.mp hp).2⟩
  · intro q hq
    exact Nat.ne_of_lt (hD q (.tail _ (.tail _ (List.mem_filter.mp hq).1)))
  · intro q hq
    exact List.mem_filter.mpr ⟨hsub _ (hold _ (hb _ hq)), by simpa using hoff _ (hb _ hq)⟩
  · rw [hstep, List.flatMap_append, List.flatMap_singleton]
    refine Tol.app (htol.mono fun a t u y hm => List.mem_filter.mpr ⟨hsub _ (hold _ hm), by simpa using hoff _ hm⟩) ?_
    unfold told1
    rw [if_pos hgt]
    refine ht9.mono fun a t u y hm => List.mem_filter.mpr ⟨hm, ?_⟩
    have : a ≠ it := ne_obj (News.perm N fun _ z => .tail _ (.tail _ (.tail _ z))) hm hit9 (tup_ne_iter hcl)
    simpa using this
/-- a turn that tells a word -/
theorem iw_out {base oth : News'} {R : Rows4} {pl : Int} {m₀ m : Str → Option Value} {i : Nat} {x : Wd} {it tp ta : Addr} {ito : Obj} {vs : List Value} {nn : Nat} {h₀ h : Heap} {L : Addr} {y : Str} {t u : Tok}
    (N : News h₀ L h ((tp, tupW (y, pl) t u) :: (it, ito) :: (ta, listOf (vs ++ [Value.ref tp]).toArray nn) :: oth)) (hcl : ito.cls = .type "list_iterator")
    (hoff : ∀ q ∈ oth, q.1 ≠ it) (hta : ta ≠ it) (hoff2 : ∀ q ∈ oth, q.1 ≠ ta) (hb : ∀ q ∈ base, q ∈ oth)
    (htol : Tol oth vs (((rowAt R pl).take i).flatMap fun x => told1 pl x (TT R x.n))) (hgt : ¬ x.n > pl) (hy : y = x.out pl) (hstep : (rowAt R pl).take (i + 1) = (rowAt R pl).take i ++ [x])
    (em : ∃ vw, m = (fun y => if y = Str.ofString "word" then vw else if y = Str.ofString "told" then some (.ref ta) else m₀ y)) :
    ∃ news', News h₀ L h ((it, ito) :: news') ∧ (∀ q ∈ news', q.1 ≠ it) ∧ IW base R pl m₀ (i + 1) m news' := by
  obtain ⟨vw, em⟩ := em
  have h1 : tp ≠ it := ne_obj N (.head _) (.tail _ (.head _)) (tup_ne_iter hcl)
  have h2 : tp ≠ ta := ne_obj N (.head _) (.tail _ (.tail _ (.head _))) tup_ne_list
  refine ⟨(ta, listOf (vs ++ [Value.ref tp]).toArray nn) :: (tp, tupW (y, pl) t u) :: oth, N.perm ?_, ?_, vw, ta, nn, vs ++ [Value.ref tp], (tp, tupW (y, pl) t u) :: oth, em, fun _ z => z, ?_, ?_, ?_⟩
  · refine List.forall_mem_cons.mpr ⟨.tail _ (.head _), List.forall_mem_cons.mpr ⟨.tail _ (.tail _ (.head _)), List.forall_mem_cons.mpr ⟨.head _, fun p hp => .tail _ (.tail _ (.tail _ hp))⟩⟩⟩
  · exact List.forall_mem_cons.mpr ⟨hta, List.forall_mem_cons.mpr ⟨h1, hoff⟩⟩
  · exact List.forall_mem_cons.mpr ⟨h2, hoff2⟩
  · exact fun q hq => .tail _ (hb q hq)
  · rw [hstep, List.flatMap_append, List.flatMap_singleton]
    refine Tol.app (htol.mono fun _ _ _ _ hm => .tail _ hm) ?_
    unfold told1
    rw [if_neg hgt]
    exact tol_one (.head _) hy
theorem fpost_of {h₀ : Heap} {L : Addr} {I : Nat → (Str → Option Value) → News' → Prop} {i : Nat} {it : Addr} {ito : Obj} {s : Shared} {Q : Flow → Shared → Prop} {h' : Heap} {tk' : Nat} {m' : Str → Option Value} (F : Fr h₀ L h' m')
    (h : ∃ news', News h₀ L h' ((it, ito) :: news') ∧ (∀ q ∈ news', q.1 ≠ it) ∧ I (i + 1) m' news') : FPost h₀ L I i it ito s Q .next { s with heap := h', toks := tk' } := by
  obtain ⟨news', N, o, hi⟩ := h
  exact ⟨m', news', h', tk', rfl, F, N, o, hi⟩
end
section
open PySem PySem.W PyProof.Rows
theorem ws_WK : True := by
  (k_with_none; (k_with "w1" => ((refine' code_def ?k1 ?k2 ?k3 ?k4 ?k5 ?kA ?kF ?kK ?k6 ?k7 ?k8 ?k9 ?kB ?_ ?c2 ?c3 ?c4 ?c5; (case kA => exact rfl); (case kF => exact rfl); (case kK => first | (with_reducible assumption) | assumption); (case k1 => k_asm); (case k2 => k_asm); (case k3 => k_asm); (case k4 => k_asm); (case k5 => k_asm); (case k6 => k_is); (case k7 => k_is); (case k8 => ktr_room); (case k9 => first | exact BindsTo.of_eq rfl | exact binds_K (by k_in) rfl (by k_is) rfl rfl rfl); (case c5 => decide); (case kB => exact locs rfl); (case c2 => exact rfl); (case c3 => exact rfl); (case c4 => exact rfl); k_whole; intro g'zz L'zz h'zz FG'zz F'zz N'zz B'zz X'zz T'zz; (try dsimp only); (try k_fold)))); (k_with "w2" => (((case k1 => k_asm); (case k2 => k_asm); (case k3 => k_asm); (case k4 => k_asm); (case k5 => k_asm); (case kK => first | (with_reducible assumption) | exact rfl | assumption); (case kd => ktr_room); (case ku => ktr_units)))); (k_with "w3" => (first | (refine in_has (b := false) ?hh ?_; (case hh => first | assumption | decide +kernel)) | (refine in_has (b := true) ?hh ?_; (case hh => first | assumption | decide +kernel)) | (refine in_has rfl ?_))); (k_with "w4" => (first | (refine notin_has (b := false) ?hh ?_; (case hh => first | assumption | decide +kernel)) | (refine notin_has (b := true) ?hh ?_; (case hh => first | assumption | decide +kernel)))); (k_with "w5" => (first | (refine eq_b (b := false) ?hh ?_; (case hh => first | assumption | decide +kernel)) | (refine eq_b (b := true) ?hh ?_; (case hh => first | assumption | decide +kernel)))); (k_with "w6" => (((first | (refine truthy_b (b := true) ?hh ?hl ?_; (case hh => first | assumption | exact full_one _ | decide +kernel); (case hl => first | assumption | exact one_short _ | decide +kernel)) | (refine truthy_b (b := false) ?hh ?hl ?_; (case hh => first | assumption | decide +kernel); (case hl => first | assumption | decide +kernel))); intro _))); (k_with "w7" => ((refine' kp_both ?k1 ?k2 ?k3 ?k4 ?k5 ?kA ?kF ?kK ?k6 ?k7 ?k8 ?kV ?kX ?kQ ?kM ?kN ?kD ?kR ?kP ?kS ?kT ?kB ?_ ?c2 ?c3 ?c4 ?c5; (case kA => exact rfl); (case kF => exact rfl); (case kK => first | (with_reducible assumption) | assumption); (case k1 => k_asm); (case k2 => k_asm); (case k3 => k_asm); (case k4 => k_asm); (case k5 => k_asm); (case k6 => k_is); (case k7 => k_is); (case k8 => ktr_room); (case kV => kp_lit); (case kX => kp_lit); (case kQ => exact rfl); (case kM => exact rfl); (case kN => exact rfl); (case kD => kp_flats); (case kR => exact rfl); (case kP => exact rfl); (case kS => exact fun _ => rfl); (case kT => exact fun _ _ => rfl); (case kB => exact fun _ _ => locs rfl); (case c5 => decide); (case c2 => exact rfl); (case c3 => exact rfl); (case c4 => exact rfl); k_whole; intro C'zz D'zz o'zz g'zz L'zz h'zz tk'zz l1zz l2zz lo'zz hs'zz fs'zz FG'zz F'zz N'zz B'zz X'zz T'zz; (try k_lt l1zz); (try k_lt2 l2zz); (try dsimp only); (try k_fold)))); (k_with "w8" => (((with_reducible show wpAny _ _ (callWith _ (Value.builtin _) (_ :: _) (backTo _ (starEach (_ :: _) _)) []) _ _ _); refine callWith_method1 ?_))); (k_with "w9" => ((k_here; k_dflt (refine' get_own ?k1 ?k2 ?k3 ?k4 ?k5 ?k6 ?k7 ?k8 ?k9 ?_; (case k1 => k_asm); (case k2 => k_asm); (case k3 => k_inst); (case k4 => k_is); (case k5 => k_is); (case k6 => k_is); (case k7 => k_is); (case k8 => k_get); (case k9 => k_handed); k_whole)))); (k_with "w10" => (((repeat (first | (with_reducible exact List.forall_mem_nil _) | (intro pzz hpzz; (repeat (first | (with_reducible exact hpzz) | (with_reducible refine List.mem_cons_of_mem _ ?_))); done) | (refine List.forall_mem_cons.mpr ⟨by k_mem, ?_⟩))); first | done | (intro pzz hpzz; repeat (first | exact hpzz | apply List.Mem.tail))))); (k_with "w29" => ((k_here; k_dflt (refine' row_item ?N ?hm ?e ?h0 ?h6 ?_; (case N => k_asm); (case hm => k_mem); (case e => assumption); (case h0 => omega); (case h6 => omega))))); (k_with "w30" => ((k_here; (rename Fr _ _ _ _ => lF'zz); (with_unfolding_all refine' For_invVF lF'zz ?k1 ?k2 ?_; (case k1 => exact rfl); (case k2 => exact rfl); k_whole)))); (k_with "w31" => ((k_here; k_dflt (refine' add_N ?F ?N ?ha ?hb ?hz ?_; (case F => k_asm); (case N => k_asm); (case ha => k_mem); (case hb => k_mem); (case hz => omega)); intro D'zz h'zz F'zz N'zz l1zz))); (k_with "w32" => ((k_here; k_dflt (refine' append_N ?F ?N ?U ?hz ?_; (case F => k_asm); (case N => k_asm); (case U => k_upd); (case hz => omega)); intro h'zz F'zz N'zz))); (k_with "w33" => ((funext y; (try dsimp only); by_cases e1 : y = Str.ofString "word" <;> by_cases e2 : y = Str.ofString "told" <;> first | exact absurd (e1.symm.trans e2) wt_ne | simp only [e1, e2, wt_ne, wt_ne.symm, if_true, if_false, ne_eq, ite_self]))); trivial)
theorem wt_ne : Str.ofString "word" ≠ Str.ofString "told" := by decide +kernel
set_option maxRecDepth 100000 in
set_option maxHeartbeats 0 in
theorem c_walk_step (w P loose mean mg mb) (ra r0 r1 r2 r3 : Addr) (k k0 k1 k2 k3 : Nat) (q0 q1 q2 q3 : Row) (hsm : Small (RR q0 q1 q2 q3)) (pl : Int) (h1 : -1 ≤ pl) (h2 : pl ≤ 2) (dN uN : Nat) (hd10 : 4 ≤ dN) (hu160 : 80 ≤ uN)
   (IH : ∀ j, pl < j → j ≤ 2 → ∀ news t, (∀ q ∈ rowsLed ra r0 r1 r2 r3 k k0 k1 k2 k3 q0 q1 q2 q3 [], q ∈ news) → Ctr w P loose mean mg mb (.ref 771) [.ref ra, .int j t] [] news dN uN (WkPost news (TT (RR q0 q1 q2 q3) j)))
   (news : News') (t : Tok) (hrows : ∀ q ∈ rowsLed ra r0 r1 r2 r3 k k0 k1 k2 k3 q0 q1 q2 q3 [], q ∈ news) :
   Ctr w P loose mean mg mb (.ref 771) [.ref ra, .int pl t] [] news (dN + 4) (uN + 60) (WkPost news (TT (RR q0 q1 q2 q3) pl)) := by
  intro dp un gd cn cs a ccd cl outer A₀ base h₀ L m s Q E B F X N T hk hd hu hret
  obtain ⟨rj, kj, q, hit, hrj, hrow⟩ := row_at (ra := ra) (k := k) (k0 := k0) (k1 := k1) (k2 := k2) (k3 := k3) (r0 := r0) (r1 := r1) (r2 := r2) (r3 := r3) (q0 := q0) (q1 := q1) (q2 := q2) (q3 := q3) h1 h2
  replace N : News h₀ L s.heap ((ra, listOf [Value.ref r0, .ref r1, .ref r2, .ref r3].toArray k) :: (rj, listOf (rowV q).toArray kj) :: news) := N.perm (List.forall_mem_cons.mpr ⟨hrows _ (.head _), List.forall_mem_cons.mpr ⟨hrows _ hrj, fun _ z => z⟩⟩)
  refine wpAny_call ?_
  k_dflt (walk_at "mine:enter")
  (k_with_none; (k_with "w1" => ((refine' code_def ?k1 ?k2 ?k3 ?k4 ?k5 ?kA ?kF ?kK ?k6 ?k7 ?k8 ?k9 ?kB ?_ ?c2 ?c3 ?c4 ?c5; (case kA => exact rfl); (case kF => exact rfl); (case kK => first | (with_reducible assumption) | assumption); (case k1 => k_asm); (case k2 => k_asm); (case k3 => k_asm); (case k4 => k_asm); (case k5 => k_asm); (case k6 => k_is); (case k7 => k_is); (case k8 => ktr_room); (case k9 => first | exact BindsTo.of_eq rfl | exact binds_K (by k_in) rfl (by k_is) rfl rfl rfl); (case c5 => decide); (case kB => exact locs rfl); (case c2 => exact rfl); (case c3 => exact rfl); (case c4 => exact rfl); k_whole; intro g'zz L'zz h'zz FG'zz F'zz N'zz B'zz X'zz T'zz; (try dsimp only); (try k_fold)))); (k_with "w2" => (((case k1 => k_asm); (case k2 => k_asm); (case k3 => k_asm); (case k4 => k_asm); (case k5 => k_asm); (case kK => first | (with_reducible assumption) | exact rfl | assumption); (case kd => ktr_room); (case ku => ktr_units)))); (k_with "w3" => (first | (refine in_has (b := false) ?hh ?_; (case hh => first | assumption | decide +kernel)) | (refine in_has (b := true) ?hh ?_; (case hh => first | assumption | decide +kernel)) | (refine in_has rfl ?_))); (k_with "w4" => (first | (refine notin_has (b := false) ?hh ?_; (case hh => first | assumption | decide +kernel)) | (refine notin_has (b := true) ?hh ?_; (case hh => first | assumption | decide +kernel)))); (k_with "w5" => (first | (refine eq_b (b := false) ?hh ?_; (case hh => first | assumption | decide +kernel)) | (refine eq_b (b := true) ?hh ?_; (case hh => first | assumption | decide +kernel)))); (k_with "w6" => (((first | (refine truthy_b (b := true) ?hh ?hl ?_; (case hh => first | assumption | exact full_one _ | decide +kernel); (case hl => first | assumption | exact one_short _ | decide +kernel)) | (refine truthy_b (b := false) ?hh ?hl ?_; (case hh => first | assumption | decide +kernel); (case hl => first | assumption | decide +kernel))); intro _))); (k_with "w7" => ((refine' kp_both ?k1 ?k2 ?k3 ?k4 ?k5 ?kA ?kF ?kK ?k6 ?k7 ?k8 ?kV ?kX ?kQ ?kM ?kN ?kD ?kR ?kP ?kS ?kT ?kB ?_ ?c2 ?c3 ?c4 ?c5; (case kA => exact rfl); (case kF => exact rfl); (case kK => first | (with_reducible assumption) | assumption); (case k1 => k_asm); (case k2 => k_asm); (case k3 => k_asm); (case k4 => k_asm); (case k5 => k_asm); (case k6 => k_is); (case k7 => k_is); (case k8 => ktr_room); (case kV => kp_lit); (case kX => kp_lit); (case kQ => exact rfl); (case kM => exact rfl); (case kN => exact rfl); (case kD => kp_flats); (case kR => exact rfl); (case kP => exact rfl); (case kS => exact fun _ => rfl); (case kT => exact fun _ _ => rfl); (case kB => exact fun _ _ => locs rfl); (case c5 => decide); (case c2 => exact rfl); (case c3 => exact rfl); (case c4 => exact rfl); k_whole; intro C'zz D'zz o'zz g'zz L'zz h'zz tk'zz l1zz l2zz lo'zz hs'zz fs'zz FG'zz F'zz N'zz B'zz X'zz T'zz; (try k_lt l1zz); (try k_lt2 l2zz); (try dsimp only); (try k_fold)))); (k_with "w8" => (((with_reducible show wpAny _ _ (callWith _ (Value.builtin _) (_ :: _) (backTo _ (starEach (_ :: _) _)) []) _ _ _); refine callWith_method1 ?_))); (k_with "w9" => ((k_here; k_dflt (refine' get_own ?k1 ?k2 ?k3 ?k4 ?k5 ?k6 ?k7 ?k8 ?k9 ?_; (case k1 => k_asm); (case k2 => k_asm); (case k3 => k_inst); (case k4 => k_is); (case k5 => k_is); (case k6 => k_is); (case k7 => k_is); (case k8 => k_get); (case k9 => k_handed); k_whole)))); (k_with "w10" => (((repeat (first | (with_reducible exact List.forall_mem_nil _) | (intro pzz hpzz; (repeat (first | (with_reducible exact hpzz) | (with_reducible refine List.mem_cons_of_mem _ ?_))); done) | (refine List.forall_mem_cons.mpr ⟨by k_mem, ?_⟩))); first | done | (intro pzz hpzz; repeat (first | exact hpzz | apply List.Mem.tail))))); (k_with "w29" => ((k_here; k_dflt (refine' row_item ?N ?hm ?e ?h0 ?h6 ?_; (case N => k_asm); (case hm => k_mem); (case e => assumption); (case h0 => omega); (case h6 => omega))))); (k_with "w30" => ((k_here; (rename Fr _ _ _ _ => lF'zz); (with_unfolding_all refine' For_invVF lF'zz ?k1 ?k2 ?_; (case k1 => exact rfl); (case k2 => exact rfl); k_whole)))); (k_with "w31" => ((k_here; k_dflt (refine' add_N ?F ?N ?ha ?hb ?hz ?_; (case F => k_asm); (case N => k_asm); (case ha => k_mem); (case hb => k_mem); (case hz => omega)); intro D'zz h'zz F'zz N'zz l1zz))); (k_with "w32" => ((k_here; k_dflt (refine' append_N ?F ?N ?U ?hz ?_; (case F => k_asm); (case N => k_asm); (case U => k_upd); (case hz => omega)); intro h'zz F'zz N'zz))); (k_with "w33" => ((funext y; (try dsimp only); by_cases e1 : y = Str.ofString "word" <;> by_cases e2 : y = Str.ofString "told" <;> first | exact absurd (e1.symm.trans e2) wt_ne | simp only [e1, e2, wt_ne, wt_ne.symm, if_true, if_false, ne_eq, ite_self]))); skip)
  (k_with "mine:iter" => (k_dflt (refine Held.into ?_)))
  k_steps
  refine Held.out ?_
  refine' for_word (IW news (RR q0 q1 q2 q3) pl _) ?hh ?hl ?F ?N ?hj ?hkeep ?turn ?done
  case F => k_asm
  case N => k_asm
  case hh => exact rfl
  case hl => k_mem
  case hj =>
    refine ⟨none, _, _, [], news, ?em, (by walk_at "mine:sub"), ?off, (fun _ z => z), .nil⟩
    case em => refine frame_none ?_; kernel_rfl
    case off => rename (_ ∧ _) => l9; exact off_allLt l9.2.2 (Nat.le_refl _)
  case hkeep =>
    intro i m ns h
    obtain ⟨_, _, _, _, _, _, hs, _, hb, _⟩ := h
    exact hs _ (.tail _ (hb _ (hrows _ hrj)))
  all_goals refine Held.out ?_
  case turn =>
    intro i v m1 news1 h9 tk1 it ito hv hI1 hoff hcl F1 N1
    obtain ⟨vw, ta, nn, vs, oth, em, hs, hoff2, hb, htol⟩ := hI1
    subst em
    obtain ⟨x, tx, hq, ev⟩ := rowV_at hv
    subst ev
    dsimp only [envOf] at F1 N1
    have hstep := take_step hrow hq
    have hra := hb _ (hrows _ (.head _))
    have hrj' := hb _ (hrows _ hrj)
    have g1 := hoff _ (hs _ (.head _))
    have g2 := hoff2 _ hra
    have g3 := hoff2 _ hrj'
    have g4 := Ne.symm g1
    have hoff3 : ∀ q ∈ oth, q.1 ≠ it := fun q hq => hoff q (hs q (.tail _ hq))
    have g5 := hoff3 _ hra
    have g6 := hoff3 _ hrj'
    have hlen : vs.length ≤ 256 := by
      rw [htol.len]
      exact Nat.le_trans (flat_take_len _ _) (by rw [← tt_unf _ h1 h2]; exact tt_len hsm _)
    replace N1 : News _ _ h9 ((it, ito) :: (ta, listOf vs.toArray nn) :: (ra, listOf [Value.ref r0, .ref r1, .ref r2, .ref r3].toArray k) :: (rj, listOf (rowV q).toArray kj) :: oth) := N1.perm (List.forall_mem_cons.mpr ⟨.head _, List.forall_mem_cons.mpr ⟨.tail _ (hs _ (.head _)), List.forall_mem_cons.mpr ⟨.tail _ (hs _ (.tail _ hra)), List.forall_mem_cons.mpr ⟨.tail _ (hs _ (.tail _ hrj')), fun p hp => .tail _ (hs _ (.tail _ hp))⟩⟩⟩⟩)
    clear hs hoff hv
    by_cases hgt : x.n > pl
    · have IH' := IH x.n hgt (nums_le x)
      (k_with_none; (k_with "w1" => ((refine' code_def ?k1 ?k2 ?k3 ?k4 ?k5 ?kA ?kF ?kK ?k6 ?k7 ?k8 ?k9 ?kB ?_ ?c2 ?c3 ?c4 ?c5; (case kA => exact rfl); (case kF => exact rfl); (case kK => first | (with_reducible assumption) | assumption); (case k1 => k_asm); (case k2 => k_asm); (case k3 => k_asm); (case k4 => k_asm); (case k5 => k_asm); (case k6 => k_is); (case k7 => k_is); (case k8 => ktr_room); (case k9 => first | exact BindsTo.of_eq rfl | exact binds_K (by k_in) rfl (by k_is) rfl rfl rfl); (case c5 => decide); (case kB => exact locs rfl); (case c2 => exact rfl); (case c3 => exact rfl); (case c4 => exact rfl); k_whole; intro g'zz L'zz h'zz FG'zz F'zz N'zz B'zz X'zz T'zz; (try dsimp only); (try k_fold)))); (k_with "w2" => (((case k1 => k_asm); (case k2 => k_asm); (case k3 => k_asm); (case k4 => k_asm); (case k5 => k_asm); (case kK => first | (with_reducible assumption) | exact rfl | assumption); (case kd => ktr_room); (case ku => ktr_units)))); (k_with "w3" => (first | (refine in_has (b := false) ?hh ?_; (case hh => first | assumption | decide +kernel)) | (refine in_has (b := true) ?hh ?_; (case hh => first | assumption | decide +kernel)) | (refine in_has rfl ?_))); (k_with "w4" => (first | (refine notin_has (b := false) ?hh ?_; (case hh => first | assumption | decide +kernel)) | (refine notin_has (b := true) ?hh ?_; (case hh => first | assumption | decide +kernel)))); (k_with "w5" => (first | (refine eq_b (b := false) ?hh ?_; (case hh => first | assumption | decide +kernel)) | (refine eq_b (b := true) ?hh ?_; (case hh => first | assumption | decide +kernel)))); (k_with "w6" => (((first | (refine truthy_b (b := true) ?hh ?hl ?_; (case hh => first | assumption | exact full_one _ | decide +kernel); (case hl => first | assumption | exact one_short _ | decide +kernel)) | (refine truthy_b (b := false) ?hh ?hl ?_; (case hh => first | assumption | decide +kernel); (case hl => first | assumption | decide +kernel))); intro _))); (k_with "w7" => ((refine' kp_both ?k1 ?k2 ?k3 ?k4 ?k5 ?kA ?kF ?kK ?k6 ?k7 ?k8 ?kV ?kX ?kQ ?kM ?kN ?kD ?kR ?kP ?kS ?kT ?kB ?_ ?c2 ?c3 ?c4 ?c5; (case kA => exact rfl); (case kF => exact rfl); (case kK => first | (with_reducible assumption) | assumption); (case k1 => k_asm); (case k2 => k_asm); (case k3 => k_asm); (case k4 => k_asm); (case k5 => k_asm); (case k6 => k_is); (case k7 => k_is); (case k8 => ktr_room); (case kV => kp_lit); (case kX => kp_lit); (case kQ => exact rfl); (case kM => exact rfl); (case kN => exact rfl); (case kD => kp_flats); (case kR => exact rfl); (case kP => exact rfl); (case kS => exact fun _ => rfl); (case kT => exact fun _ _ => rfl); (case kB => exact fun _ _ => locs rfl); (case c5 => decide); (case c2 => exact rfl); (case c3 => exact rfl); (case c4 => exact rfl); k_whole; intro C'zz D'zz o'zz g'zz L'zz h'zz tk'zz l1zz l2zz lo'zz hs'zz fs'zz FG'zz F'zz N'zz B'zz X'zz T'zz; (try k_lt l1zz); (try k_lt2 l2zz); (try dsimp only); (try k_fold)))); (k_with "w8" => (((with_reducible show wpAny _ _ (callWith _ (Value.builtin _) (_ :: _) (backTo _ (starEach (_ :: _) _)) []) _ _ _); refine callWith_method1 ?_))); (k_with "w9" => ((k_here; k_dflt (refine' get_own ?k1 ?k2 ?k3 ?k4 ?k5 ?k6 ?k7 ?k8 ?k9 ?_; (case k1 => k_asm); (case k2 => k_asm); (case k3 => k_inst); (case k4 => k_is); (case k5 => k_is); (case k6 => k_is); (case k7 => k_is); (case k8 => k_get); (case k9 => k_handed); k_whole)))); (k_with "w10" => (((repeat (first | (with_reducible exact List.forall_mem_nil _) | (intro pzz hpzz; (repeat (first | (with_reducible exact hpzz) | (with_reducible refine List.mem_cons_of_mem _ ?_))); done) | (refine List.forall_mem_cons.mpr ⟨by k_mem, ?_⟩))); first | done | (intro pzz hpzz; repeat (first | exact hpzz | apply List.Mem.tail))))); (k_with "w29" => ((k_here; k_dflt (refine' row_item ?N ?hm ?e ?h0 ?h6 ?_; (case N => k_asm); (case hm => k_mem); (case e => assumption); (case h0 => omega); (case h6 => omega))))); (k_with "w30" => ((k_here; (rename Fr _ _ _ _ => lF'zz); (with_unfolding_all refine' For_invVF lF'zz ?k1 ?k2 ?_; (case k1 => exact rfl); (case k2 => exact rfl); k_whole)))); (k_with "w31" => ((k_here; k_dflt (refine' add_N ?F ?N ?ha ?hb ?hz ?_; (case F => k_asm); (case N => k_asm); (case ha => k_mem); (case hb => k_mem); (case hz => omega)); intro D'zz h'zz F'zz N'zz l1zz))); (k_with "w32" => ((k_here; k_dflt (refine' append_N ?F ?N ?U ?hz ?_; (case F => k_asm); (case N => k_asm); (case U => k_upd); (case hz => omega)); intro h'zz F'zz N'zz))); (k_with "w33" => ((funext y; (try dsimp only); by_cases e1 : y = Str.ofString "word" <;> by_cases e2 : y = Str.ofString "told" <;> first | exact absurd (e1.symm.trans e2) wt_ne | simp only [e1, e2, wt_ne, wt_ne.symm, if_true, if_false, ne_eq, ite_self]))); skip)
      (k_with "mine:call ref" => (k_dflt (first
        | (refine' ctr_use (c_num _ _ _ _ _ _ _ _ _) ?k1 ?k2 ?k3 ?k4 ?k5 ?kK ?kd ?ku ?_; walk_at "mine:call"; intro r9 n9 h9 tk9 F9 N9 P9; obtain ⟨⟨t9, e9⟩, e9'⟩ := P9; subst e9 e9'; (try dsimp only))
        | (refine' ctr_use (IH' _ _ ?hr) ?k1 ?k2 ?k3 ?k4 ?k5 ?kK ?kd ?ku ?_; walk_at "mine:call"; (case hr => (intro q hq; refine .tail _ (.tail _ (.tail _ (.tail _ (hb q (hrows q hq))))))); intro r9 n9 h9 tk9 F9 N9 P9; obtain ⟨ta9, nn9, vs9, e9, m9, tol9, sub9⟩ := P9; subst e9; (replace N9 := N9.perm (List.forall_mem_cons.mpr ⟨m9, List.forall_mem_cons.mpr ⟨sub9 (ta, listOf vs.toArray nn) (.tail _ (.head _)), fun _ z => z⟩⟩)); (have hl9 : vs9.length ≤ 256 := (by rw [tol9.len]; exact tt_len hsm _)); (try dsimp only)))))
      (try k_fold)
      k_steps
      all_goals (
        (try dsimp only)
        refine' fpost_of ?F (iw_rec ?N hcl ?hD ?hsub ?hit ?hold hoff3 hb htol ?t9 hgt hstep ?em)
        case F => k_asm
        case N => k_asm
        case hD => assumption
        case hsub => assumption
        case t9 => assumption
        case hit => exact .head _
        case hold => exact fun _ z => .tail _ (.tail _ (.tail _ (.tail _ z)))
        case em =>
          refine' ⟨some (.str x.s tx), ?_⟩
          walk_at "mine:fr2")
    · have hoff3' : ∀ z ∈ (ra, listOf [Value.ref r0, .ref r1, .ref r2, .ref r3].toArray k) :: (rj, listOf (rowV q).toArray kj) :: oth, z.1 ≠ it := List.forall_mem_cons.mpr ⟨g5, List.forall_mem_cons.mpr ⟨g6, hoff3⟩⟩
      have hoff2' : ∀ z ∈ (ra, listOf [Value.ref r0, .ref r1, .ref r2, .ref r3].toArray k) :: (rj, listOf (rowV q).toArray kj) :: oth, z.1 ≠ ta := List.forall_mem_cons.mpr ⟨g2, List.forall_mem_cons.mpr ⟨g3, hoff2⟩⟩
      (k_with_none; (k_with "w1" => ((refine' code_def ?k1 ?k2 ?k3 ?k4 ?k5 ?kA ?kF ?kK ?k6 ?k7 ?k8 ?k9 ?kB ?_ ?c2 ?c3 ?c4 ?c5; (case kA => exact rfl); (case kF => exact rfl); (case kK => first | (with_reducible assumption) | assumption); (case k1 => k_asm); (case k2 => k_asm); (case k3 => k_asm); (case k4 => k_asm); (case k5 => k_asm); (case k6 => k_is); (case k7 => k_is); (case k8 => ktr_room); (case k9 => first | exact BindsTo.of_eq rfl | exact binds_K (by k_in) rfl (by k_is) rfl rfl rfl); (case c5 => decide); (case kB => exact locs rfl); (case c2 => exact rfl); (case c3 => exact rfl); (case c4 => exact rfl); k_whole; intro g'zz L'zz h'zz FG'zz F'zz N'zz B'zz X'zz T'zz; (try dsimp only); (try k_fold)))); (k_with "w2" => (((case k1 => k_asm); (case k2 => k_asm); (case k3 => k_asm); (case k4 => k_asm); (case k5 => k_asm); (case kK => first | (with_reducible assumption) | exact rfl | assumption); (case kd => ktr_room); (case ku => ktr_units)))); (k_with "w3" => (first | (refine in_has (b := false) ?hh ?_; (case hh => first | assumption | decide +kernel)) | (refine in_has (b := true) ?hh ?_; (case hh => first | assumption | decide +kernel)) | (refine in_has rfl ?_))); (k_with "w4" => (first | (refine notin_has (b := false) ?hh ?_; (case hh => first | assumption | decide +kernel)) | (refine notin_has (b := true) ?hh ?_; (case hh => first | assumption | decide +kernel)))); (k_with "w5" => (first | (refine eq_b (b := false) ?hh ?_; (case hh => first | assumption | decide +kernel)) | (refine eq_b (b := true) ?hh ?_; (case hh => first | assumption | decide +kernel)))); (k_with "w6" => (((first | (refine truthy_b (b := true) ?hh ?hl ?_; (case hh => first | assumption | exact full_one _ | decide +kernel); (case hl => first | assumption | exact one_short _ | decide +kernel)) | (refine truthy_b (b := false) ?hh ?hl ?_; (case hh => first | assumption | decide +kernel); (case hl => first | assumption | decide +kernel))); intro _))); (k_with "w7" => ((refine' kp_both ?k1 ?k2 ?k3 ?k4 ?k5 ?kA ?kF ?kK ?k6 ?k7 ?k8 ?kV ?kX ?kQ ?kM ?kN ?kD ?kR ?kP ?kS ?kT ?kB ?_ ?c2 ?c3 ?c4 ?c5; (case kA => exact rfl); (case kF => exact rfl); (case kK => first | (with_reducible assumption) | assumption); (case k1 => k_asm); (case k2 => k_asm); (case k3 => k_asm); (case k4 => k_asm); (case k5 => k_asm); (case k6 => k_is); (case k7 => k_is); (case k8 => ktr_room); (case kV => kp_lit); (case kX => kp_lit); (case kQ => exact rfl); (case kM => exact rfl); (case kN => exact rfl); (case kD => kp_flats); (case kR => exact rfl); (case kP => exact rfl); (case kS => exact fun _ => rfl); (case kT => exact fun _ _ => rfl); (case kB => exact fun _ _ => locs rfl); (case c5 => decide); (case c2 => exact rfl); (case c3 => exact rfl); (case c4 => exact rfl); k_whole; intro C'zz D'zz o'zz g'zz L'zz h'zz tk'zz l1zz l2zz lo'zz hs'zz fs'zz FG'zz F'zz N'zz B'zz X'zz T'zz; (try k_lt l1zz); (try k_lt2 l2zz); (try dsimp only); (try k_fold)))); (k_with "w8" => (((with_reducible show wpAny _ _ (callWith _ (Value.builtin _) (_ :: _) (backTo _ (starEach (_ :: _) _)) []) _ _ _); refine callWith_method1 ?_))); (k_with "w9" => ((k_here; k_dflt (refine' get_own ?k1 ?k2 ?k3 ?k4 ?k5 ?k6 ?k7 ?k8 ?k9 ?_; (case k1 => k_asm); (case k2 => k_asm); (case k3 => k_inst); (case k4 => k_is); (case k5 => k_is); (case k6 => k_is); (case k7 => k_is); (case k8 => k_get); (case k9 => k_handed); k_whole)))); (k_with "w10" => (((repeat (first | (with_reducible exact List.forall_mem_nil _) | (intro pzz hpzz; (repeat (first | (with_reducible exact hpzz) | (with_reducible refine List.mem_cons_of_mem _ ?_))); done) | (refine List.forall_mem_cons.mpr ⟨by k_mem, ?_⟩))); first | done | (intro pzz hpzz; repeat (first | exact hpzz | apply List.Mem.tail))))); (k_with "w29" => ((k_here; k_dflt (refine' row_item ?N ?hm ?e ?h0 ?h6 ?_; (case N => k_asm); (case hm => k_mem); (case e => assumption); (case h0 => omega); (case h6 => omega))))); (k_with "w30" => ((k_here; (rename Fr _ _ _ _ => lF'zz); (with_unfolding_all refine' For_invVF lF'zz ?k1 ?k2 ?_; (case k1 => exact rfl); (case k2 => exact rfl); k_whole)))); (k_with "w31" => ((k_here; k_dflt (refine' add_N ?F ?N ?ha ?hb ?hz ?_; (case F => k_asm); (case N => k_asm); (case ha => k_mem); (case hb => k_mem); (case hz => omega)); intro D'zz h'zz F'zz N'zz l1zz))); (k_with "w32" => ((k_here; k_dflt (refine' append_N ?F ?N ?U ?hz ?_; (case F => k_asm); (case N => k_asm); (case U => k_upd); (case hz => omega)); intro h'zz F'zz N'zz))); (k_with "w33" => ((funext y; (try dsimp only); by_cases e1 : y = Str.ofString "word" <;> by_cases e2 : y = Str.ofString "told" <;> first | exact absurd (e1.symm.trans e2) wt_ne | simp only [e1, e2, wt_ne, wt_ne.symm, if_true, if_false, ne_eq, ite_self]))); skip)
      (k_with "mine:call ref" => (k_dflt
        (refine' ctr_use (c_num _ _ _ _ _ _ _ _ _) ?k1 ?k2 ?k3 ?k4 ?k5 ?kK ?kd ?ku ?_; walk_at "mine:call"; intro r9 n9 h9 tk9 F9 N9 P9; obtain ⟨⟨t9, e9⟩, e9'⟩ := P9; subst e9 e9'; (try dsimp only))))
      cases x
      all_goals (
        (try k_fold)
        k_steps
        all_goals (
          (try dsimp only)
          refine' fpost_of ?F (iw_out ?N hcl hoff3' g1 hoff2' (fun q hq => .tail _ (.tail _ (hb q hq))) (htol.mono fun _ _ _ _ hm => .tail _ (.tail _ hm)) hgt ?hy hstep ?em)
          case F => k_asm
          case N => k_asm
          case hy => first | exact rfl | (simp only [Wd.out]; rw [if_pos (by omega)]; kernel_rfl) | (simp only [Wd.out]; rw [if_neg (by omega)]; kernel_rfl)
          case em => exact ⟨_, frame_put⟩))
  case done =>
    intro m1 news1 h9 tk1 hI1 F1 N1
    obtain ⟨vw, ta, nn, vs, oth, em, hs, hoff2, hb, htol⟩ := hI1
    subst em
    dsimp only [envOf] at F1 N1
    have hfull : (rowAt (RR q0 q1 q2 q3) pl).take (rowV q).length = rowAt (RR q0 q1 q2 q3) pl := by
      rw [rowV_len, List.take_of_length_le]
      rw [hrow, List.length_map]; exact Nat.le_refl _
    rw [hfull, ← tt_unf _ h1 h2] at htol
    dsimp only
    k_steps
    all_goals (
      refine' hret _ _ _ _ ?F ?N ⟨_, _, _, rfl, hs _ (.head _), htol.mono fun _ _ _ _ hm => hs _ (.tail _ hm), fun q hq => hs _ (.tail _ (hb _ hq))⟩
      case F => k_asm
      case N => k_asm)
theorem c_walk_all (w P loose mean mg mb) (ra r0 r1 r2 r3 : Addr) (k k0 k1 k2 k3 : Nat) (q0 q1 q2 q3 : Row) (hsm : Small (RR q0 q1 q2 q3)) : ∀ (f : Nat) (pl : Int), -1 ≤ pl → pl ≤ 2 → 2 - pl ≤ f → ∀ (news : News') (t : Tok), (∀ q ∈ rowsLed ra r0 r1 r2 r3 k k0 k1 k2 k3 q0 q1 q2 q3 [], q ∈ news) →
    Ctr w P loose mean mg mb (.ref 771) [.ref ra, .int pl t] [] news (8 + 4 * f) (140 + 60 * f) (WkPost news (TT (RR q0 q1 q2 q3) pl)) := by
  intro f
  induction f with
  | zero =>
    intro pl h1 h2 h3 news t hr
    exact c_walk_step w P loose mean mg mb ra r0 r1 r2 r3 k k0 k1 k2 k3 q0 q1 q2 q3 hsm pl h1 h2 4 80 (by omega) (by omega) (fun j hj hj2 => by exfalso; omega) news t hr
  | succ f ih =>
    intro pl h1 h2 h3 news t hr
    have h := c_walk_step w P loose mean mg mb ra r0 r1 r2 r3 k k0 k1 k2 k3 q0 q1 q2 q3 hsm pl h1 h2 (8 + 4 * f) (140 + 60 * f) (by omega) (by omega) (fun j hj hj2 => ih j (by omega) hj2 (by omega)) news t hr
    rwa [show 8 + 4 * f + 4 = 8 + 4 * (f + 1) by omega, show 140 + 60 * f + 60 = 140 + 60 * (f + 1) by omega] at h
end
section
open PySem PySem.W PyProof.Rows PySem.Calls
theorem strs_snoc {y : Str} {t : Tok} : ∀ {vs : List Value} {ys : List Str}, StrsAre vs ys → StrsAre (vs ++ [.str y t]) (ys ++ [y])
  | _, _, .nil => .cons y t .nil
  | _, _, .cons z u r => .cons z u (strs_snoc r)
/-- behind an element of a comprehension that makes nothing -/
def CEl (h₀ : Heap) (L : Addr) (m : Str → Option Value) (s : Shared) (all : News') (z : Str) (y : Value) (s₂ : Shared) : Prop :=
  ∃ h' tk' t', s₂ = { s with heap := h', toks := tk' } ∧ Fr h₀ L h' m ∧ News h₀ L h' all ∧ y = .str z t'
section
variable {prog : Program} {w : World} {A : Around} {h₀ : Heap} {L : Addr} {m : Str → Option Value} {env : Env} {elt : PySem.Expr} {x : Str} {scope : Scope} {cl : List (Str × Addr)} {s : Shared} {S : News' → Prop} {Fin : List Value → News' → Prop} {news : News'}
theorem comp_row {q : Row} (g : Str → Str) (hS : S news)
    (turn : Held (∀ (xw : Wd) t I oI C oC D m₂ ys h tk (E' : Value → Shared → Prop), LCg.NsObj oC m₂ → m₂ x = some (.str xw.s t) → Fr h₀ L h m → News h₀ L h ((I, oI) :: (C, oC) :: (D, LCg.lst ys) :: news) →
      wpAny (model prog w) A (eval elt (compEnvC scope cl C env)) (CEl h₀ L m { s with heap := h, toks := tk } ((I, oI) :: (C, oC) :: (D, LCg.lst ys) :: news) (g xw.s)) E' { s with heap := h, toks := tk }))
    (fin : Held (∀ ys, StrsAre ys (q.map fun p => g p.1.s) → Fin ys news)) : LCg.CompRest prog w A h₀ L m env elt x scope cl s S (fun i v => (rowV q).toArray[i]? = some v) Fin (rowV q).toArray.size 0 [] news := by
  have key : ∀ (j i : Nat) (ys : List Value), i + j = q.length → StrsAre ys ((q.take i).map fun p => g p.1.s) → LCg.CompRest prog w A h₀ L m env elt x scope cl s S (fun i v => (rowV q).toArray[i]? = some v) Fin j i ys news := by
    intro j
    induction j with
    | zero =>
      intro i ys hi hy
      have e : i = q.length := by omega
      subst e
      rw [List.take_length] at hy
      exact LCg.CompRest.zero (fin ys hy)
    | succ j ih =>
      intro i ys hi hy
      refine LCg.CompRest.succ ?_
      intro v I oI C oC D m₂ h tk E' hv hC hx F N off ne
      obtain ⟨xw, t, hq, ev⟩ := rowV_at (by simpa using hv)
      subst ev
      refine wpAny_mono (turn xw t I oI C oC D m₂ ys h tk E' hC hx F N) (fun y s₂ hq' => ?_) fun _ _ e => e
      obtain ⟨h', tk', t', e, F', N', hy'⟩ := hq'
      subst hy'
      refine ⟨h', tk', news, e, F', N', off, hS, ?_⟩
      refine ih (i + 1) _ (by omega) ?_
      rw [List.take_add_one, hq]
      simpa using strs_snoc hy
  have e : (rowV q).toArray.size = q.length := by rw [List.size_toArray, rowV_len]
  rw [e]
  exact key q.length 0 [] (by omega) (by simp only [List.take_zero, List.map_nil]; exact .nil)
end
end
section
open PySem PySem.W PyProof.Rows PySem.Calls
/-- a word's signs -/
def Wd.c : Wd → List Nat
  | .e0 => [38, 101, 48, 59]
  | .e1 => [38, 101, 49, 59]
  | .e2 => [38, 101, 50, 59]
  | .lt => [38, 108, 116, 59]
  | .m1 => [38, 97, 109, 112, 59, 101, 49, 59]
  | .m2 => [38, 97, 109, 112, 59, 101, 50, 59]
  | .a => [97]
theorem wd_s (x : Wd) : x.s = ⟨x.c.toArray⟩ := by cases x <;> decide +kernel
theorem wd_len (x : Wd) : x.s.length ≤ 8 := by cases x <;> decide +kernel
theorem blank_s : Str.ofString " " = ⟨[32].toArray⟩ := by decide +kernel
theorem empty_s : Str.ofString "" = ⟨#[]⟩ := by decide +kernel
theorem str_app (a b : List Nat) : (⟨a.toArray⟩ : Str) ++ ⟨b.toArray⟩ = ⟨(a ++ b).toArray⟩ := by
  show (⟨a.toArray ++ b.toArray⟩ : Str) = _
  simp
/-- the text of a row -/
def tx (ws : List Wd) : List Nat := ws.flatMap fun x => x.c ++ [32]
theorem tx_len (ws : List Wd) : (tx ws).length ≤ 9 * ws.length := by
  induction ws with
  | nil => simp [tx]
  | cons x ws ih =>
    have : (x.c ++ [32]).length ≤ 9 := by cases x <;> decide
    unfold tx at ih ⊢
    rw [List.flatMap_cons, List.length_append, List.length_cons]
    omega
theorem join_tx : ∀ q : Row, Str.join (Str.ofString "") (q.map fun p => p.1.s ++ Str.ofString " ") = ⟨(tx (q.map (·.1))).toArray⟩
  | [] => rfl
  | [p] => by
    show p.1.s ++ Str.ofString " " = _
    rw [wd_s, blank_s, str_app]
    show _ = (⟨(List.flatMap _ [p.1]).toArray⟩ : Str)
    rw [List.flatMap_singleton]
  | p :: p' :: q => by
    have ih := join_tx (p' :: q)
    show p.1.s ++ Str.ofString " " ++ Str.ofString "" ++ Str.join (Str.ofString "") ((p' :: q).map fun p => p.1.s ++ Str.ofString " ") = _
    rw [ih, wd_s, blank_s, str_app, empty_s, str_app _ [], str_app, List.append_nil]
    unfold tx
    rw [List.map_cons (l := p' :: q), List.flatMap_cons]
theorem sum_le {l : List Nat} {n : Nat} (h : ∀ x ∈ l, x ≤ n) : l.sum ≤ n * l.length := by
  induction l with
  | nil => simp
  | cons a l ih =>
    rw [List.sum_cons, List.length_cons, Nat.mul_succ]
    have := ih fun x hx => h x (List.mem_cons_of_mem _ hx)
    have := h a (List.mem_cons_self ..)
    omega
section
variable {prog : Program} {w : World} {A : Around} {E : Value → Shared → Prop} {s : Shared} {h₀ : Heap} {L : Addr} {news : News'} {Q : Value → Shared → Prop}
theorem join_row {D : Addr} {ys : List Value} {q : Row} {t : Tok} {n : Nat} (N : News h₀ L s.heap news) (hm : (D, listOf ys.toArray n) ∈ news) (hys : StrsAre ys (q.map fun p => p.1.s ++ Str.ofString " ")) (hq : q.length ≤ 4)
    (h : ∀ t' k, Q (.str ⟨(tx (q.map (·.1))).toArray⟩ t') { s with toks := k }) : wpAny (model prog w) A (call (.builtin "str.join") [.str (Str.ofString "") t, .ref D]) Q E s := by
  refine join_listW (items := ys.toArray) ⟨_, (N _ hm).1, rfl, n, rfl⟩ hys (by decide +kernel) ?_ fun t' k => ?_
  · rw [List.length_map, List.map_map]
    have := sum_le (l := List.map ((fun x : Str => x.length) ∘ fun p : Wd × Tok => p.1.s ++ Str.ofString " ") q) (n := 9) (by
      intro x hx
      obtain ⟨p, _, rfl⟩ := List.mem_map.mp hx
      show (p.1.s ++ Str.ofString " ").length ≤ 9
      cases p.1 <;> decide +kernel)
    rw [List.length_map] at this
    omega
  · rw [eq_of_beq (join_plain_closes _ _), join_tx]
    exact h t' k
theorem add_word {x : Wd} {t u : Tok} (h : ∀ t' k, Q (.str (x.s ++ Str.ofString " ") t') { s with toks := k }) : wpAny (model prog w) A (binaryOp .Add (.str x.s t) (.str (Str.ofString " ") u)) Q E s :=
  add_str (fun t' k => h t' k) (by have := wd_len x; have e : (Str.ofString " ").length = 1 := (by decide +kernel); rw [e]; simp only [sizeLine]; omega)
end
end
section
open PySem PySem.W PyProof.Rows PySem.Calls
section
variable {prog : Program} {w : World} {A : Around} {E : Value → Shared → Prop} {s : Shared} {h₀ : Heap} {L : Addr} {m : Str → Option Value} {env : Env}
/-- the source of a comprehension and what holds of it, turn by turn, the tokens told -/
def CSrcT (prog : Program) (w : World) (A : Around) (h₀ : Heap) (L : Addr) (m : Str → Option Value) (env : Env) (elt : PySem.Expr) (x : Str) (scope : Scope) (cl : List (Str × Addr)) (Q : Value → Shared → Prop) (xv : Value) (s : Shared) : Prop :=
  ∃ (ax : Addr) (vs : List Value) (k : Nat) (news : News') (J : Nat → List Value → Nat → Prop), xv = .ref ax ∧ A.handled = none ∧ Fr h₀ L s.heap m ∧ News h₀ L s.heap news ∧ (ax, listOf vs.toArray k) ∈ news ∧ vs.length ≤ sizeLine ∧ J 0 [] s.toks ∧
    (∀ i ys tk tk', tk ≤ tk' → J i ys tk → J i ys tk') ∧
    (∀ i v ys I oI C oC D m₂ h tk (E' : Value → Shared → Prop), vs[i]? = some v → J i ys tk → LCg.NsObj oC m₂ → m₂ x = some v → Fr h₀ L h m → News h₀ L h ((I, oI) :: (C, oC) :: (D, LCg.lst ys) :: news) →
      wpAny (model prog w) A (eval elt (compEnvC scope cl C env)) (fun y s₂ => ∃ h' tk', s₂ = { s with heap := h', toks := tk' } ∧ Fr h₀ L h' m ∧ News h₀ L h' ((I, oI) :: (C, oC) :: (D, LCg.lst ys) :: news) ∧ J (i + 1) (ys ++ [y]) tk') E' { s with heap := h, toks := tk }) ∧
    ∀ D ys h tk, J vs.length ys tk → Fr h₀ L h m → News h₀ L h ((D, LCg.lst ys) :: news) → (∀ p ∈ news, p.1 < D) → Q (.ref D) { s with heap := h, toks := tk }
def CSrcA (prog : Program) (w : World) (A : Around) (h₀ : Heap) (L : Addr) (m : Str → Option Value) (env : Env) (elt : PySem.Expr) (x : Str) (scope : Scope) (cl : List (Str × Addr)) (y : Str) (Q : Flow → Shared → Prop) (xv : Value) (s : Shared) : Prop :=
  ∃ (ax : Addr) (vs : List Value) (k : Nat) (news : News') (J : Nat → List Value → Nat → Prop), xv = .ref ax ∧ A.handled = none ∧ Fr h₀ L s.heap m ∧ News h₀ L s.heap news ∧ (ax, listOf vs.toArray k) ∈ news ∧ vs.length ≤ sizeLine ∧ J 0 [] s.toks ∧
    (∀ i ys tk tk', tk ≤ tk' → J i ys tk → J i ys tk') ∧
    (∀ i v ys I oI C oC D m₂ h tk (E' : Value → Shared → Prop), vs[i]? = some v → J i ys tk → LCg.NsObj oC m₂ → m₂ x = some v → Fr h₀ L h m → News h₀ L h ((I, oI) :: (C, oC) :: (D, LCg.lst ys) :: news) →
      wpAny (model prog w) A (eval elt (compEnvC scope cl C env)) (fun yv s₂ => ∃ h' tk', s₂ = { s with heap := h', toks := tk' } ∧ Fr h₀ L h' m ∧ News h₀ L h' ((I, oI) :: (C, oC) :: (D, LCg.lst ys) :: news) ∧ J (i + 1) (ys ++ [yv]) tk') E' { s with heap := h, toks := tk }) ∧
    ∀ D ys h tk, J vs.length ys tk → Fr h₀ L h (fun z => if z = y then some (.ref D) else m z) → News h₀ L h ((D, LCg.lst ys) :: news) → (∀ p ∈ news, p.1 < D) → Q .next { s with heap := h, toks := tk }
theorem comp_core {elt iter : PySem.Expr} {x : Str} {px : Pos} {scope : Scope} {cl : List (Str × Addr)} {pos : Pos} {Q : Value → Shared → Prop} {use : Option (Value → Sem Unit)} {ax : Addr} {vs : List Value} {k : Nat} {news : News'} {J : Nat → List Value → Nat → Prop} {s₁ : Shared}
    (hcell : ∀ y ∈ scope.names, y.2 ≠ .cell) (hkind : scope.kind = .function) (hx : scope.names.lookup x = some .local)
    (hh : A.handled = none) (F : Fr h₀ L s₁.heap m) (N : News h₀ L s₁.heap news) (hm : (ax, listOf vs.toArray k) ∈ news) (hz : vs.length ≤ sizeLine) (j0 : J 0 [] s₁.toks)
    (jm : ∀ i ys tk tk', tk ≤ tk' → J i ys tk → J i ys tk')
    (turn : ∀ i v ys I oI C oC D m₂ h tk (E' : Value → Shared → Prop), vs[i]? = some v → J i ys tk → LCg.NsObj oC m₂ → m₂ x = some v → Fr h₀ L h m → News h₀ L h ((I, oI) :: (C, oC) :: (D, LCg.lst ys) :: news) →
      wpAny (model prog w) A (eval elt (compEnvC scope cl C env)) (fun y s₂ => ∃ h' tk', s₂ = { s₁ with heap := h', toks := tk' } ∧ Fr h₀ L h' m ∧ News h₀ L h' ((I, oI) :: (C, oC) :: (D, LCg.lst ys) :: news) ∧ J (i + 1) (ys ++ [y]) tk') E' { s₁ with heap := h, toks := tk })
    (fin : ∀ D C oC m' ys h tk, J vs.length ys tk → Fr h₀ L h m → LCg.NsObj oC m' → News h₀ L h ((C, oC) :: (D, LCg.lst ys) :: news) → (∀ p ∈ news, p.1 < D) → D < C → compPost (model prog w) A E use Q (.ref D) C (.ok .next) { s₁ with heap := h, toks := tk }) :
    wpAny (model prog w) A (pyIter (.ref ax)) (fun it s₂ => wpAny (model prog w) A (newList []) (fun acc s₃ =>
      wpAny (model prog w) A (newFunctionEnv scope env.globals cl [] env.qual none .none (some env)) (fun cenv s₄ =>
        codeAny (model prog w) A (.compStart (.ListComp elt [⟨.Name x px, iter, [], 0⟩] scope pos) 0 it acc { cenv with scope := relabel scope env }) (compPost (model prog w) A E use Q acc cenv.locals) s₄) E s₃) E s₂) E s₁ := by
  have hax := (N _ hm).1
  refine wpAny_pyIter_list (items := vs.toArray) ⟨_, hax, rfl, k, rfl⟩ ?_
  -- the iterator, the list, the block's frame
  have F1 := F.push { cls := .type "list_iterator", data := .fields #[.ref ax, .int 0 0] }
  have N1 := N.push F { cls := .type "list_iterator", data := .fields #[.ref ax, .int 0 0] }
  have lt1 : ∀ p ∈ news, p.1 < s₁.heap.objs.size := fun p hp => Heap.lt_size (N p hp).1
  refine wpAny_newObj_type (wpAny_newFunctionEnv hcell (by intro y hy; simp at hy) (fun h₁ hns₁ hsb₁ => ?_) hkind)
  dsimp only at hns₁ hsb₁ ⊢
  have e1 : (s₁.heap.push { cls := .type "list_iterator", data := .fields #[.ref ax, .int 0 0] }).objs.size = s₁.heap.objs.size + 1 := Heap.size_push ..
  have F2 := F1.push (LCg.lst [])
  have N2 := N1.push F1 (LCg.lst [])
  have e2 : ((s₁.heap.push { cls := .type "list_iterator", data := .fields #[.ref ax, .int 0 0] }).push (LCg.lst [])).objs.size = s₁.heap.objs.size + 1 + 1 := by rw [Heap.size_push, e1]
  rw [e1] at N2 ⊢
  generalize hH : ((s₁.heap.push { cls := .type "list_iterator", data := .fields #[.ref ax, .int 0 0] }).push (LCg.lst [])) = H at *
  have F3 := F2.filled hsb₁
  obtain ⟨oC0, hC0, nC0⟩ := LCg.ns_obj hns₁
  have N3 := N2.filled F2 hsb₁ hC0
  generalize hI : s₁.heap.objs.size = I at *
  rw [e2] at N3 hns₁ ⊢
  have lD : ∀ p ∈ news, p.1 < I + 1 := fun p hp => Nat.lt_succ_of_lt (lt1 p hp)
  have lC : ∀ p ∈ news, p.1 < I + 1 + 1 := fun p hp => Nat.lt_succ_of_lt (lD p hp)
  have nLI : I ≠ L := (N3 (I, _) (.tail _ (.tail _ (.head _)))).2.1
  have h0I := (N3 (I, _) (.tail _ (.tail _ (.head _)))).2.2
  have nLD : I + 1 ≠ L := (N3 (I + 1, _) (.tail _ (.head _))).2.1
  have h0D := (N3 (I + 1, _) (.tail _ (.head _))).2.2
  have nLC : I + 1 + 1 ≠ L := (N3 (I + 1 + 1, _) (.head _)).2.1
  have h0C := (N3 (I + 1 + 1, _) (.head _)).2.2
  have loop : ∀ s₃ : Shared, s₃ = { s₁ with heap := h₁, toks := s₁.toks + ([] : List (Str × Value)).length } →
      codeAny (model prog w) A (.compLoop (.ListComp elt [⟨.Name x px, iter, [], 0⟩] scope pos) 0 (.ref I) (.ref (I + 1)) (compEnvC scope cl (I + 1 + 1) env))
        (compPost (model prog w) A E use Q (.ref (I + 1)) (I + 1 + 1)) s₃ := by
    rintro s₃ rfl
    refine codeAny_compLoop_tests
      (fun n s' => ∃ h' tk i ys oI oC m', s' = { s₁ with heap := h', toks := tk } ∧ i ≤ vs.length ∧ n = vs.length + 1 - i ∧ List.length ys = i ∧ (oI.cls = .type "list_iterator" ∧ oI.data = .fields #[.ref ax, .int i 0]) ∧ LCg.NsObj oC m' ∧
        Fr h₀ L h' m ∧ News h₀ L h' ((I, oI) :: (I + 1 + 1, oC) :: (I + 1, LCg.lst ys) :: news) ∧ J i ys tk) ?_ (vs.length + 1)
      ⟨h₁, _, 0, [], { cls := .type "list_iterator", data := .fields #[.ref ax, .int 0 0] }, oC0, _, rfl, Nat.zero_le _, rfl, rfl, ⟨rfl, rfl⟩, nC0, F3, N3.perm ?_, jm _ _ _ _ (Nat.le_add_right _ _) j0⟩
    · rintro n s' ⟨h', tk, i, ys, oI, oC, m', rfl, hi, rfl, hyl, ⟨hIc, hId⟩, hoC, F', N', j⟩
      have gI := (N' (I, oI) (.head _)).1
      have gax := (N' _ (.tail _ (.tail _ (.tail _ hm)))).1
      by_cases hlt : i < vs.length
      · refine wpAny_pyNext_list_item (l := ax) (i := i) (items := vs.toArray) (x := vs[i]) ⟨oI, gI, hIc, hId⟩ ⟨_, gax, rfl, k, rfl⟩ (by simp [hlt]) (fun h₂ hit₂ hs₂ => ?_)
        obtain ⟨oI', gI', hIc', hId'⟩ := hit₂
        have F2' := F'.change hs₂ nLI h0I
        have N2' : News h₀ L h₂ ((I, oI') :: (I + 1 + 1, oC) :: (I + 1, LCg.lst ys) :: news) := news_set (pre := []) N' (by intro p hp; cases hp) (by
          intro p hp
          rcases List.mem_cons.mp hp with rfl | hp
          · exact Nat.ne_of_gt (by omega)
          rcases List.mem_cons.mp hp with rfl | hp
          · exact Nat.ne_of_gt (by omega)
          · exact Nat.ne_of_lt (lt1 p hp)) hs₂ gI'
        have gC := (N2' _ (.tail _ (.head _))).1
        refine wpAny_assign_Name (wpAny_storeName_local (lookup_relabel_local hx) (hoC.ns gC) (fun h₃ hn₃ hs₃ => ?_) (by simp [compEnvC, relabel, hkind]))
        refine wpAny_tests_nil ?_
        simp only [if_true]
        obtain ⟨oC', gC', hoC'⟩ := LCg.ns_obj hn₃
        have F4 := F2'.change hs₃ nLC h0C
        have N4 : News h₀ L h₃ ((I, oI') :: (I + 1 + 1, oC') :: (I + 1, LCg.lst ys) :: news) := news_set (pre := [(I, oI')]) N2' (by
          intro p hp
          rw [List.mem_singleton.mp hp]
          exact Nat.ne_of_lt (by omega)) (by
          intro p hp
          rcases List.mem_cons.mp hp with rfl | hp
          · exact Nat.ne_of_lt (by omega)
          · exact Nat.ne_of_lt (lC p hp)) hs₃ gC'
        refine wpAny_mono (turn i vs[i] ys I oI' (I + 1 + 1) oC' (I + 1) _ h₃ (tk + 1) _ (by simp [hlt]) (jm _ _ _ _ (Nat.le_succ _) j) hoC' (by simp) F4 N4) (fun y s₄ h₄ => ?_) fun _ _ e => e
        obtain ⟨h₅, tk₅, rfl, F5, N5, j5⟩ := h₄
        have gD := (N5 (I + 1, LCg.lst ys) (.tail _ (.tail _ (.head _)))).1
        refine append_at (hsz := by rw [List.size_toArray, hyl]; exact Nat.le_trans hi hz) gD fun h₆ hs₆ hD₆ => ?_
        have F6 := F5.change hs₆ nLD h0D
        have N6 : News h₀ L h₆ ((I, oI') :: (I + 1 + 1, oC') :: (I + 1, LCg.lst (ys ++ [y])) :: news) := news_set (pre := [(I, oI'), (I + 1 + 1, oC')]) N5 (by
          intro p hp
          rcases List.mem_cons.mp hp with rfl | hp
          · exact Nat.ne_of_lt (by omega)
          · rw [List.mem_singleton.mp hp]
            exact Nat.ne_of_gt (by omega)) (fun p hp => Nat.ne_of_lt (lD p hp)) hs₆ (hD₆.trans (congrArg some (LCg.lst_snoc ys y)))
        exact ⟨vs.length + 1 - (i + 1), by omega, h₆, tk₅, i + 1, ys ++ [y], oI', oC', _, rfl, hlt, rfl, by rw [List.length_append, List.length_singleton, hyl], ⟨hIc', hId'⟩, hoC', F6, N6, j5⟩
      · obtain rfl : i = vs.length := Nat.le_antisymm hi (Nat.not_lt.mp hlt)
        refine wpAny_pyNext_list_end hh (l := ax) (i := vs.length) (items := vs.toArray) ⟨oI, gI, hIc, hId⟩ ⟨_, gax, rfl, k, rfl⟩ (by simp) (fun h₂ he => ?_)
        have keepNews : ∀ p ∈ (I + 1 + 1, oC) :: (I + 1, LCg.lst ys) :: news, h₂.get? p.1 = some p.2 := fun p hp => he p.1 p.2 (by
          rcases List.mem_cons.mp hp with rfl | hp
          · exact Nat.ne_of_gt (by omega)
          rcases List.mem_cons.mp hp with rfl | hp
          · exact Nat.ne_of_gt (by omega)
          · exact Nat.ne_of_lt (lt1 p hp)) (N' p (.tail _ hp)).1
        have N7 : News h₀ L h₂ ((I + 1 + 1, oC) :: (I + 1, LCg.lst ys) :: news) := fun p hp => ⟨keepNews p hp, (N' p (.tail _ hp)).2⟩
        have F7 : Fr h₀ L h₂ m := LCg.fr_but (I := I) F' (fun b o hb e => he b o (by simpa using hb) e) (Ne.symm nLI) h0I
        exact fin (I + 1) (I + 1 + 1) oC m' ys h₂ tk j F7 hoC N7 lD (Nat.lt_succ_self _)
    · intro p hp
      rcases List.mem_cons.mp hp with rfl | hp
      · exact .tail _ (.tail _ (.head _))
      rcases List.mem_cons.mp hp with rfl | hp
      · exact .head _
      rcases List.mem_cons.mp hp with rfl | hp
      · exact .tail _ (.head _)
      · exact .tail _ (.tail _ (.tail _ hp))
  have hself : ∀ h', h' = h₁ → h'.IsListIter I ax 0 := fun h' e => e ▸ ⟨_, (N3 (I, _) (.tail _ (.tail _ (.head _)))).1, rfl, rfl⟩
  exact codeAny_compStart_list (loop _ rfl) (wpAny_pyIter_listiter (hself _ rfl) (loop _ rfl))
theorem comp_T {elt iter : PySem.Expr} {x : Str} {px : Pos} {scope : Scope} {cl : List (Str × Addr)} {pos : Pos} {Q : Value → Shared → Prop} (_F₀ : Fr h₀ L s.heap m)
    (hclos : closureFor scope env = pure cl) (hcell : ∀ y ∈ scope.names, y.2 ≠ .cell) (hkind : scope.kind = .function)
    (hnames : ∀ y ∈ scope.names, y.2 = .local → scope.names.lookup y.1 = some .local) (hx : scope.names.lookup x = some .local)
    (h : wpAny (model prog w) A (eval iter env) (CSrcT prog w A h₀ L m env elt x scope cl Q) E s)
    (hs : ∀ x, foldedSetIterable iter env x = pure x := by intro _; rfl) :
    wpAny (model prog w) A (eval (.ListComp elt [⟨.Name x px, iter, [], 0⟩] scope pos) env) Q E s := by
  rw [eval_ListComp]
  refine wpAny_comprehension_free (use := none) rfl hs hclos hkind hnames (wpAny_mono h (fun xv s₁ h₁ => ?_) fun _ _ e => e)
  obtain ⟨ax, vs, k, news, J, rfl, hh, F, N, hm, hz, j0, jm, turn, fin⟩ := h₁
  refine comp_core hcell hkind hx hh F N hm hz j0 jm turn fun D C oC m' ys h' tk j F' hoC N' lD lC => ?_
  have eC := N' (C, oC) (.head _)
  refine ⟨m', hoC.ns eC.1, fun h'' hs'' => fin D ys h'' tk j (F'.change hs'' eC.2.1 eC.2.2) (fun p hp => ?_) lD⟩
  refine ⟨(hs''.2 p.1 ?_).trans (N' p (.tail _ hp)).1, (N' p (.tail _ hp)).2⟩
  rcases List.mem_cons.mp hp with rfl | hp
  · exact Nat.ne_of_lt lC
  · exact Nat.ne_of_lt (Nat.lt_trans (lD p hp) lC)
theorem comp_A {elt iter : PySem.Expr} {x y : Str} {px py : Pos} {scope : Scope} {cl : List (Str × Addr)} {pos spos : Pos} {Q : Flow → Shared → Prop} (_F₀ : Fr h₀ L s.heap m) (hLe : env.locals = L)
    (hsw : swapsWith (.ListComp elt [⟨.Name x px, iter, [], 0⟩] scope pos) (some (.Name y py)) spos.line env = pure true)
    (hclos : closureFor scope env = pure cl) (hcell : ∀ z ∈ scope.names, z.2 ≠ .cell) (hkind : scope.kind = .function)
    (hnames : ∀ z ∈ scope.names, z.2 = .local → scope.names.lookup z.1 = some .local) (hx : scope.names.lookup x = some .local)
    (hy : env.kindOf y = some .local) (hp : (env.scope.kind == .class || (env.scope.kind == .module && env.locals != env.globals)) = false)
    (h : wpAny (model prog w) A (eval iter env) (CSrcA prog w A h₀ L m env elt x scope cl y Q) E s)
    (hs : ∀ x, foldedSetIterable iter env x = pure x := by intro _; rfl) :
    wpAny (model prog w) A (exec (.Assign [.Name y py] (.ListComp elt [⟨.Name x px, iter, [], 0⟩] scope pos) spos) env) Q E s := by
  subst hLe
  rw [exec_Assign_Name_used _ _ _ _ hsw]
  refine wpAny_bind (wpAny_standAt (wpAny_bind ?_))
  show wpAny _ A (do let _ ← comprehension (.ListComp elt [⟨.Name x px, iter, [], 0⟩] scope pos) scope env _ (newList []) false (eval iter env) (some (assign (.Name y py) env))) _ _ s
  refine wpAny_bind (wpAny_mono (wpAny_comprehension_free (use := some (assign (.Name y py) env)) (Q := fun _ s' => Q .next s') rfl hs hclos hkind hnames
    (wpAny_mono h (fun xv s₁ h₁ => ?_) fun _ _ e => e)) (fun _ s' hq => wpAny_pure (wpAny_pure hq)) fun _ _ e => e)
  obtain ⟨ax, vs, k, news, J, rfl, hh, F, N, hm, hz, j0, jm, turn, fin⟩ := h₁
  refine comp_core hcell hkind hx hh F N hm hz j0 jm turn fun D C oC m' ys h' tk j F' hoC N' lD lC => ?_
  show wpAny _ A (assign (.Name y py) env (.ref D)) _ _ _
  refine wpAny_assign_Name (wpAny_storeName_local hy F'.ns (fun h₂ hn₂ hs₂ => ?_) hp)
  have eC := N' (C, oC) (.head _)
  have F2 := F'.set hn₂ hs₂
  have N2 := N'.set hs₂
  have eC2 := N2 (C, oC) (.head _)
  refine ⟨m', hoC.ns eC2.1, fun h'' hs'' => fin D ys h'' (tk + 1) (jm _ _ _ _ (Nat.le_succ _) j) (F2.change hs'' eC.2.1 eC.2.2) (fun p hp => ?_) lD⟩
  refine ⟨(hs''.2 p.1 ?_).trans (N2 p (.tail _ hp)).1, (N2 p (.tail _ hp)).2⟩
  rcases List.mem_cons.mp hp with rfl | hp
  · exact Nat.ne_of_lt lC
  · exact Nat.ne_of_lt (Nat.lt_trans (lD p hp) lC)
end
end
section
open PySem PySem.W PyProof.Rows PySem.Calls PySem.Builtin.Str
/-- texts with tokens of their own below tk -/
def StrsT (tk : Nat) (ys : List Value) (zs : List Str) : Prop := 1 ≤ tk ∧ ∃ l : List (Str × Tok), ys = strValues l ∧ l.map (·.1) = zs ∧ ∀ p ∈ l, 1 ≤ p.2 ∧ p.2 < tk
theorem StrsT.mono {tk tk' : Nat} {ys : List Value} {zs : List Str} (h : StrsT tk ys zs) (hle : tk ≤ tk') : StrsT tk' ys zs := by
  obtain ⟨h1, l, a, b, c⟩ := h
  exact ⟨Nat.le_trans h1 hle, l, a, b, fun p hp => ⟨(c p hp).1, Nat.lt_of_lt_of_le (c p hp).2 hle⟩⟩
theorem StrsT.snoc {tk tk' : Nat} {ys : List Value} {zs : List Str} {z : Str} {t : Tok} (h : StrsT tk ys zs) (hle : tk ≤ tk') (h1 : 1 ≤ t) (h2 : t < tk') : StrsT tk' (ys ++ [.str z t]) (zs ++ [z]) := by
  obtain ⟨hk, l, a, b, c⟩ := h
  refine ⟨Nat.le_trans hk hle, l ++ [(z, t)], ?_, ?_, ?_⟩
  · rw [a]; unfold strValues; simp
  · rw [List.map_append, b]; rfl
  · intro p hp
    rcases List.mem_append.mp hp with hp | hp
    · exact ⟨(c p hp).1, Nat.lt_of_lt_of_le (c p hp).2 hle⟩
    · rw [List.mem_singleton.mp hp]; exact ⟨h1, h2⟩
theorem StrsT.nil {tk : Nat} (h : 1 ≤ tk) : StrsT tk [] [] := ⟨h, [], rfl, rfl, by intro p hp; cases hp⟩
theorem StrsT.len {tk : Nat} {ys : List Value} {zs : List Str} (h : StrsT tk ys zs) : ys.length = zs.length := by
  obtain ⟨_, l, a, b, _⟩ := h
  rw [a, ← b]; unfold strValues; simp
theorem strsT4 {tk : Nat} {ys : List Value} {a b c d : Str} (h : StrsT tk ys [a, b, c, d]) : ∃ t0 t1 t2 t3 : Tok, ys = [.str a t0, .str b t1, .str c t2, .str d t3] ∧ (1 ≤ t0 ∧ t0 < tk) ∧ (1 ≤ t1 ∧ t1 < tk) ∧ (1 ≤ t2 ∧ t2 < tk) ∧ (1 ≤ t3 ∧ t3 < tk) := by
  obtain ⟨_, l, rfl, hl, hb⟩ := h
  match l, hl with
  | [p0, p1, p2, p3], hl =>
    simp only [List.map_cons, List.map_nil, List.cons.injEq, and_true] at hl
    obtain ⟨rfl, rfl, rfl, rfl⟩ := hl
    exact ⟨p0.2, p1.2, p2.2, p3.2, rfl, hb _ (by simp), hb _ (by simp), hb _ (by simp), hb _ (by simp)⟩
/-- the text of a row -/
def rowT (q : Row) : Str := ⟨(tx (q.map (·.1))).toArray⟩
section
variable {prog : Program} {w : World} {A : Around} {E : Value → Shared → Prop} {s : Shared} {h₀ : Heap} {L : Addr} {news : News'} {Q : Value → Shared → Prop}
theorem add_wordT {x : Wd} {t u : Tok} (h : Q (.str (x.s ++ Str.ofString " ") s.toks) { s with toks := s.toks + 1 }) : wpAny (model prog w) A (binaryOp .Add (.str x.s t) (.str (Str.ofString " ") u)) Q E s := by
  refine P.add_str ?_
  have e1 : (x.s.length == 0) = false := by cases x <;> decide +kernel
  have e2 : ((Str.ofString " ").length == 0) = false := by decide +kernel
  rw [e1, e2]
  refine ⟨?_, h⟩
  cases x <;> decide +kernel
theorem join_rowT {D : Addr} {ys : List Value} {q : Row} {t : Tok} {n : Nat} (N : News h₀ L s.heap news) (hm : (D, listOf ys.toArray n) ∈ news) (hys : StrsT s.toks ys (q.map fun p => p.1.s ++ Str.ofString " ")) (hq : q.length ≤ 4)
    (h : ∀ t' k, s.toks ≤ k → 1 ≤ t' → t' < k → Q (.str (rowT q) t') { s with toks := k }) : wpAny (model prog w) A (call (.builtin "str.join") [.str (Str.ofString "") t, .ref D]) Q E s := by
  obtain ⟨h1, l, a, b, c⟩ := hys
  have hsum : ((q.map fun p => p.1.s ++ Str.ofString " ").map (fun x : Str => x.length)).sum + (q.map fun p => p.1.s ++ Str.ofString " ").length * (Str.ofString "").length ≤ 16777216 := by
    rw [List.length_map, List.map_map]
    have := sum_le (l := List.map ((fun x : Str => x.length) ∘ fun p : Wd × Tok => p.1.s ++ Str.ofString " ") q) (n := 9) (by
      intro x hx
      obtain ⟨p, _, rfl⟩ := List.mem_map.mp hx
      show (p.1.s ++ Str.ofString " ").length ≤ 9
      cases p.1 <;> decide +kernel)
    rw [List.length_map] at this
    have e : (Str.ofString "").length = 0 := by decide +kernel
    rw [e]; omega
  have hok := joinOk_of hsum
  rw [← b] at hok
  have ej : Str.join (Str.ofString "") (l.map (·.1)) = (rowT q) := by rw [b, join_tx]; rfl
  have eg : Txt.join (Str.ofString "") (l.map (·.1)) = (rowT q) := by rw [eq_of_beq (join_plain_closes _ _), ej]
  unfold JoinOk at hok
  rw [Bool.not_eq_true'] at hok
  have hl : s.heap.IsList D (strValues l).toArray := ⟨_, (N _ hm).1, rfl, n, by rw [a]⟩
  refine call_meets F.slot_str_join (typeIs_str _ _ _) F.entry_str_join (F.args_str_join_2 _ _) (meets_str_join_list (Str.ofString "") t D l hok) ⟨hl, ?_⟩
  have hfit := joinFit_length hok
  match l, c, eg, hfit, ej with
  | [], c, eg, hfit, _ =>
    refine ⟨hfit, ?_⟩
    have := h s.toks (s.toks + 1) (Nat.le_succ _) h1 (Nat.lt_succ_self _)
    rw [← eg] at this; exact this
  | [p], c, eg, hfit, ej =>
    have := h p.2 s.toks (Nat.le_refl _) (c p (.head _)).1 (c p (.head _)).2
    rw [← ej] at this; exact this
  | p :: p' :: l, c, eg, hfit, _ =>
    refine ⟨hfit, ?_⟩
    have := h s.toks (s.toks + 1) (Nat.le_succ _) h1 (Nat.lt_succ_self _)
    rw [← eg] at this; exact this
/-- behind an element: a text with a token of its own -/
def CElT (h₀ : Heap) (L : Addr) (m : Str → Option Value) (s : Shared) (all : News') (z : Str) (y : Value) (s₂ : Shared) : Prop :=
  ∃ h' tk' t', s₂ = { s with heap := h', toks := tk' } ∧ Fr h₀ L h' m ∧ News h₀ L h' all ∧ y = .str z t' ∧ s.toks ≤ tk' ∧ 1 ≤ t' ∧ t' < tk'
variable {m : Str → Option Value} {env : Env} {elt : PySem.Expr} {x : Str} {scope : Scope} {cl : List (Str × Addr)}
theorem csrc_row {ax : Addr} {k : Nat} {q : Row} (hh : A.handled = none) (F : Fr h₀ L s.heap m) (N : News h₀ L s.heap news) (hm : (ax, listOf (rowV q).toArray k) ∈ news) (hq : q.length ≤ 4) (h1 : 1 ≤ s.toks)
    (turn : Held (∀ (xw : Wd) t I oI C oC D m₂ ys h tk (E' : Value → Shared → Prop), 1 ≤ tk → LCg.NsObj oC m₂ → m₂ x = some (.str xw.s t) → Fr h₀ L h m → News h₀ L h ((I, oI) :: (C, oC) :: (D, LCg.lst ys) :: news) →
      wpAny (model prog w) A (eval elt (compEnvC scope cl C env)) (CElT h₀ L m { s with heap := h, toks := tk } ((I, oI) :: (C, oC) :: (D, LCg.lst ys) :: news) (xw.s ++ Str.ofString " ")) E' { s with heap := h, toks := tk }))
    (fin : Held (∀ D ys h tk, s.toks ≤ tk → StrsT tk ys (q.map fun p => p.1.s ++ Str.ofString " ") → Fr h₀ L h m → News h₀ L h ((D, LCg.lst ys) :: news) → (∀ p ∈ news, p.1 < D) → Q (.ref D) { s with heap := h, toks := tk })) :
    CSrcT prog w A h₀ L m env elt x scope cl Q (.ref ax) s := by
  refine ⟨ax, rowV q, k, news, fun i ys tk => StrsT tk ys ((q.take i).map fun p => p.1.s ++ Str.ofString " ") ∧ s.toks ≤ tk, rfl, hh, F, N, hm, by rw [rowV_len, sizeLine_eq]; omega, ⟨StrsT.nil h1, Nat.le_refl _⟩, fun i ys tk tk' hle h => ⟨h.1.mono hle, Nat.le_trans h.2 hle⟩, ?_, ?_⟩
  · intro i v ys I oI C oC D m₂ h tk E' hv hJ hC hx F' N'
    obtain ⟨xw, t, hqi, ev⟩ := rowV_at hv
    subst ev
    obtain ⟨hJ, hJ2⟩ := hJ
    refine wpAny_mono (turn xw t I oI C oC D m₂ ys h tk E' hJ.1 hC hx F' N') (fun y s₂ hy => ?_) fun _ _ e => e
    obtain ⟨h', tk', t', rfl, F2, N2, rfl, hle, ht1, ht2⟩ := hy
    refine ⟨h', tk', rfl, F2, N2, ?_, Nat.le_trans hJ2 hle⟩
    show StrsT tk' _ ((q.take (i + 1)).map fun p => p.1.s ++ Str.ofString " ")
    rw [List.take_add_one, hqi, List.map_append]
    exact hJ.snoc hle ht1 ht2
  · intro D ys h tk hJ F' N' lD
    obtain ⟨hJ, hJ2⟩ := hJ
    refine fin D ys h tk hJ2 ?_ F' N' lD
    have e : (q.take (rowV q).length) = q := by rw [rowV_len, List.take_length]
    rw [e] at hJ
    exact hJ
theorem csrc_rows {ax r0 r1 r2 r3 : Addr} {k k0 k1 k2 k3 : Nat} {q0 q1 q2 q3 : Row} {y : Str} {Qf : Flow → Shared → Prop} (hh : A.handled = none) (F : Fr h₀ L s.heap m) (N : News h₀ L s.heap news) (hrows : ∀ p ∈ rowsLed ax r0 r1 r2 r3 k k0 k1 k2 k3 q0 q1 q2 q3 [], p ∈ news)
    (hq : Small (RR q0 q1 q2 q3)) (h1 : 1 ≤ s.toks)
    (turn : Held (∀ (r : Addr) (kk : Nat) (q : Row) I oI C oC D m₂ ys h tk (E' : Value → Shared → Prop), (r, listOf (rowV q).toArray kk) ∈ news → q.length ≤ 4 → 1 ≤ tk → LCg.NsObj oC m₂ → m₂ x = some (.ref r) → Fr h₀ L h m → News h₀ L h ((I, oI) :: (C, oC) :: (D, LCg.lst ys) :: (r, listOf (rowV q).toArray kk) :: news) →
      wpAny (model prog w) A (eval elt (compEnvC scope cl C env)) (CElT h₀ L m { s with heap := h, toks := tk } ((I, oI) :: (C, oC) :: (D, LCg.lst ys) :: news) (rowT q)) E' { s with heap := h, toks := tk }))
    (fin : Held (∀ D ys h tk, s.toks ≤ tk → StrsT tk ys [rowT q0, rowT q1, rowT q2, rowT q3] → Fr h₀ L h (fun z => if z = y then some (.ref D) else m z) → News h₀ L h ((D, LCg.lst ys) :: news) → (∀ p ∈ news, p.1 < D) → Qf .next { s with heap := h, toks := tk })) :
    CSrcA prog w A h₀ L m env elt x scope cl y Qf (.ref ax) s := by
  refine ⟨ax, [.ref r0, .ref r1, .ref r2, .ref r3], k, news, fun i ys tk => StrsT tk ys (([q0, q1, q2, q3].map rowT).take i) ∧ s.toks ≤ tk, rfl, hh, F, N, hrows _ (.head _), by rw [sizeLine_eq]; simp, ⟨StrsT.nil h1, Nat.le_refl _⟩, fun i ys tk tk' hle h => ⟨h.1.mono hle, Nat.le_trans h.2 hle⟩, ?_, ?_⟩
  · intro i v ys I oI C oC D m₂ h tk E' hv hJ hC hx F' N'
    have hi : ∃ r kk q, v = .ref r ∧ (r, listOf (rowV q).toArray kk) ∈ news ∧ q.length ≤ 4 ∧ [q0, q1, q2, q3][i]? = some q := by
      have l1 : q0.length ≤ 4 := by have := hq.1; simpa using this
      have l2 : q1.length ≤ 4 := by have := hq.2.1; simpa using this
      have l3 : q2.length ≤ 4 := by have := hq.2.2.1; simpa using this
      have l4 : q3.length ≤ 4 := by have := hq.2.2.2; simpa using this
      match i, hv with
      | 0, hv => exact ⟨r0, k0, q0, (Option.some.inj hv).symm, hrows _ (by simp), l1, rfl⟩
      | 1, hv => exact ⟨r1, k1, q1, (Option.some.inj hv).symm, hrows _ (by simp), l2, rfl⟩
      | 2, hv => exact ⟨r2, k2, q2, (Option.some.inj hv).symm, hrows _ (by simp), l3, rfl⟩
      | 3, hv => exact ⟨r3, k3, q3, (Option.some.inj hv).symm, hrows _ (by simp), l4, rfl⟩
      | i + 4, hv => simp at hv
    obtain ⟨r, kk, q, rfl, hr, hq4, hqi⟩ := hi
    obtain ⟨hJ, hJ2⟩ := hJ
    refine wpAny_mono (turn r kk q I oI C oC D m₂ ys h tk E' hr hq4 hJ.1 hC hx F' (N'.perm ?_)) (fun y s₂ hy => ?_) fun _ _ e => e
    · intro p hp
      simp only [List.mem_cons] at hp ⊢
      rcases hp with e | e | e | e | e
      · exact .inl e
      · exact .inr (.inl e)
      · exact .inr (.inr (.inl e))
      · exact .inr (.inr (.inr (e ▸ hr)))
      · exact .inr (.inr (.inr e))
    obtain ⟨h', tk', t', rfl, F2, N2, rfl, hle, ht1, ht2⟩ := hy
    refine ⟨h', tk', rfl, F2, N2, ?_, Nat.le_trans hJ2 hle⟩
    show StrsT tk' _ (([q0, q1, q2, q3].map rowT).take (i + 1))
    rw [List.take_add_one, List.getElem?_map, hqi]
    exact hJ.snoc hle ht1 ht2
  · intro D ys h tk hJ F' N' lD
    exact fin D ys h tk hJ.2 hJ.1 F' N' lD
end
end
section
open PySem PySem.W PyProof.Rows PySem.Calls
section
variable {prog : Program} {w : World} {A : Around} {E : Value → Shared → Prop} {s : Shared} {h₀ : Heap} {L : Addr} {news : News'} {m : Str → Option Value}
abbrev ent (w : World) (k : Str) (t : Tok) (v : Value) : DictEntry := ⟨hashStr w k, .str k t, v⟩
theorem dictSet_new {d : Addr} {es : List DictEntry} {n : Nat} {k : Str} {t : Tok} {v : Value} {Q : Unit → Shared → Prop} (ho : s.heap.get? d = some (dictOf es n)) (hk : PySem.KeysOf (PySem.strKind prog w) es.toArray) (hnot : ∀ e ∈ es, Value.isStrOf k e.key = false) (hz : es.length ≤ 100)
    (hQ : ∀ h', Heap.SameBut d s.heap h' → h'.get? d = some (dictOf (es ++ [ent w k t v]) (n + 1)) → Q () { s with heap := h', toks := s.toks + 1 }) :
    wpAny (model prog w) A (dictSet d (.str k t) v) Q E s := by
  have hkey : (PySem.strKind prog w).is k (.str k t) = true := by show Value.isStrOf k (.str k t) = true; simp [Value.isStrOf]
  unfold dictSet
  try with_reducible refine wpAny_holding ?_
  refine wpAny_bind ((PySem.strKind prog w).pyHash hkey ?_)
  unfold dictSetHashed
  try with_reducible refine wpAny_holding ?_
  refine wpAny_bind (wpAny_dictFind_of (s := { s with toks := s.toks + 1 }) hkey ho rfl hk ?_)
  have hi : (es.toArray.findIdx? fun e => (PySem.strKind prog w).is k e.key) = none := by
    rw [List.findIdx?_toArray, List.findIdx?_eq_none_iff]
    exact hnot
  rw [hi]
  refine wpAny_bind (wpAny_rule (wpAny_updateDictKeys (hz := by rw [List.size_toArray, sizeLine_eq]; omega) (s := { s with toks := s.toks + 1 }) ho rfl (hQ _ (Heap.SameBut.update ..) ?_)))
  rw [Heap.get?_update_self _ ho (by rfl)]
  show some (Obj.mapDictKeys _ (dictOf es n)) = _
  simp [Obj.mapDictKeys]
  rfl
/-- behind the pairs of a display of three written texts -/
def D3 (w : World) (d : Addr) (Q : Value → Shared → Prop) (vs : List (Value × Value)) (s₁ : Shared) : Prop :=
  ∃ k0 k1 k2 t0 t1 t2 v0 v1 v2, vs = [(.str k0 t0, v0), (.str k1 t1, v1), (.str k2 t2, v2)] ∧ (k0 == k1) = false ∧ (k0 == k2) = false ∧ (k1 == k2) = false ∧ s₁.heap.get? d = some (dictOf [] 0) ∧
    ∀ h', Heap.SameBut d s₁.heap h' → h'.get? d = some (dictOf [ent w k0 t0 v0, ent w k1 t1 v1, ent w k2 t2 v2] 3) → Q (.ref d) { s₁ with heap := h', toks := s₁.toks + 3 }
theorem dict3 {env : Env} {keys : List (Option PySem.Expr)} {values : List PySem.Expr} {pos : Pos} {Q : Value → Shared → Prop} (F : Fr h₀ L s.heap m) (N : News h₀ L s.heap news)
    (hbig : h₀.NoLimit) (hall : keys.all (·.isSome) = true) (hl : keys.length = values.length) (h3 : keys.length = 3)
    (h : ∀ (d : Addr) h', Fr h₀ L h' m → News h₀ L h' ((d, dictOf [] 0) :: news) → (∀ p ∈ news, p.1 < d) → (d == sysModules) = false →
      wpAny (model prog w) A (evalPairs (pairTrees keys values env pos)) (fun vs s₁ => D3 w d Q vs s₁) E { s with heap := h' }) :
    wpAny (model prog w) A (eval (.Dict keys values pos) env) Q E s := by
  have hn := pairTrees_length keys values env pos hall hl
  have hne : pairTrees keys values env pos ≠ [] := fun he => by rw [he, h3] at hn; exact absurd hn (by decide)
  rw [arm_eval_Dict, zip_pairTrees keys values env pos hall hl, dictDisplay_pairs _ hne (by rw [hn, h3]; decide)]
  refine wpAny_bind (wpAny_standAt (wpAny_bind ?_))
  unfold subDict
  refine wpAny_bind (wpAny_alloc ?_)
  refine wpAny_bind (wpAny_holding ?_)
  rw [if_pos (show (pairTrees keys values env pos).length ≤ 15 by rw [hn, h3]; decide)]
  have N1 := N.push F (dictOf [] 0)
  refine wpAny_bind (wpAny_mono (h s.heap.objs.size _ (F.push _) N1 (fun p hp => Heap.lt_size (N p hp).1) (F.notModules (modules_low hbig))) (fun vs s₁ h₁ => ?_) fun _ _ e => e)
  obtain ⟨k0, k1, k2, t0, t1, t2, v0, v1, v2, rfl, n01, n02, n12, hd, hQ⟩ := h₁
  refine wpAny_holding ?_
  rw [List.forIn_cons, ]
  have ks : ∀ (k : Str) (t : Tok) (v : Value) (es : List DictEntry), PySem.KeysOf (PySem.strKind prog w) es.toArray → PySem.KeysOf (PySem.strKind prog w) (es ++ [ent w k t v]).toArray := fun k t v es hk => by
    have := PySem.KeysOf.push hk (k := k) (key := .str k t) (by show Value.isStrOf k (.str k t) = true; simp [Value.isStrOf]) v
    rw [List.push_toArray] at this
    exact this
  have k0' : PySem.KeysOf (PySem.strKind prog w) (List.toArray []) := by intro e he; simp at he
  refine wpAny_bind (wpAny_bind (wpAny_bind (dictSet_new hd k0' (by simp) (by simp) fun h1 s1 g1 => wpAny_pure ?_)))
  dsimp only
  rw [List.forIn_cons]
  refine wpAny_bind (wpAny_bind (dictSet_new (s := { s₁ with heap := h1, toks := s₁.toks + 1 }) g1 (ks _ _ _ _ k0') (by intro e he; simp at he; subst he; exact n01) (by simp) fun h2 s2 g2 => wpAny_pure ?_))
  dsimp only
  rw [List.forIn_cons]
  refine wpAny_bind (wpAny_bind (dictSet_new (s := { s₁ with heap := h2, toks := s₁.toks + 1 + 1 }) g2 (ks _ _ _ _ (ks _ _ _ _ k0')) (by intro e he; simp at he; rcases he with rfl | rfl; exact n02; exact n12) (by simp) fun h3' s3 g3 => wpAny_pure ?_))
  dsimp only
  rw [List.forIn_nil]
  exact wpAny_pure (wpAny_pure (wpAny_pure (wpAny_pure (hQ h3' ((s1.trans s2).trans s3) g3))))
theorem d3_led {d : Addr} {Q : Value → Shared → Prop} {k0 k1 k2 : Str} {t0 t1 t2 : Tok} {v0 v1 v2 : Value} {news' : News'} (F : Fr h₀ L s.heap m) (N : News h₀ L s.heap news) (U : Upd d (dictOf [] 0) (dictOf [ent w k0 t0 v0, ent w k1 t1 v1, ent w k2 t2 v2] 3) news news')
    (n01 : (k0 == k1) = false) (n02 : (k0 == k2) = false) (n12 : (k1 == k2) = false) (h : ∀ h', Fr h₀ L h' m → News h₀ L h' news' → Q (.ref d) { s with heap := h', toks := s.toks + 3 }) :
    D3 w d Q [(.str k0 t0, v0), (.str k1 t1, v1), (.str k2 t2, v2)] s := by
  obtain ⟨pre, post, rfl, rfl, a, b⟩ := U.split
  have z := N (d, dictOf [] 0) (List.mem_append.mpr (.inr (.head _)))
  exact ⟨k0, k1, k2, t0, t1, t2, v0, v1, v2, rfl, n01, n02, n12, z.1, fun h' hs g => h h' (F.change hs z.2.1 z.2.2) (news_set N a b hs g)⟩
end
end
section
open PySem PySem.W PyProof.Rows PySem.Calls
section
variable {prog : Program} {w : World} {A : Around} {E : Value → Shared → Prop} {s : Shared}
/-- the next pair of a dict that stands entry by entry: the very key, the very value -/
theorem next_pair {it d : Addr} {i n : Nat} {es : List DictEntry} {e : DictEntry} {ok ov : Value} {Q : Option Value → Shared → Prop} (hit : IsItemIter s.heap it d i es.length n ok ov) (hod : s.heap.get? d = some (dictOf es n)) (hx : es[i]? = some e)
    (hQ : ∀ h', IsItemIterOut h' it d (i + 1) es.length n e.key e.val s.heap.objs.size → h'.get? s.heap.objs.size = some { cls := .type "tuple", data := .seq #[e.key, e.val] } →
      (∀ b o, b ≠ it → s.heap.get? b = some o → h'.get? b = some o) → Q (some (.ref s.heap.objs.size)) { s with heap := h' }) :
    wpAny (model prog w) A (pyNext (.ref it)) Q E s := by
  obtain ⟨hp, g, dr, tk, os⟩ := s
  have hlt : i < es.length := (List.getElem?_eq_some_iff.mp hx).1
  have hT : Shared.TypeIs ⟨hp, g, dr, tk, os⟩ (.ref it) "dict_itemiterator" := ⟨_, hit, rfl⟩
  unfold pyNext
  refine wpAny_bind (wpAny_attempt (wpAny_callSpecial?_slot (name := Str.ofString "__next__") hT F.slot_dict_itemiterator_next
    (wpAny_call_entry F.slot_dict_itemiterator_next hT F.entry_dict_itemiterator_next ?_ (F.args_dict_itemiterator_next_1 _))))
  refine wpAny_bind (wpAny_pure (wpAny_bind (wpAny_bind ?_)))
  first | refine wpAny_bind (wpAny_typeNameOfWhole_itemiter hT (wpAny_pure ?_)) | refine wpAny_bind (wpAny_typeNameOf_itemiter hT (wpAny_pure ?_))
  refine wpAny_bind (wpAny_fieldsOf hit rfl ?_)
  simp only [show Builtin.Dict_items.ownsTuple "dict_itemiterator" = true by decide, if_true]
  show wpAny _ _ (if (Value.ref d == Value.none) = true then _ else _) _ _ _
  rw [if_neg (show ¬ ((Value.ref d == Value.none) = true) from Bool.false_ne_true)]
  refine wpAny_bind (wpAny_pure (wpAny_bind (wpAny_dictEntries hod rfl ?_)))
  rw [if_neg (by simp)]
  refine wpAny_bind (wpAny_pure (wpAny_bind (wpAny_dictEpoch hod rfl ?_)))
  rw [if_neg (by simp)]
  refine wpAny_pure ?_
  simp only [show ¬ ((i : Int) < 0) from by omega, if_false, Int.toNat_natCast, List.getElem?_toArray, hx]
  refine wpAny_bind ?_
  first | refine wpAny_bind (wpAny_typeNameOfWhole_itemiter hT (wpAny_pure ?_)) | refine wpAny_bind (wpAny_typeNameOf_itemiter hT (wpAny_pure ?_))
  refine wpAny_bind (wpAny_isOneOf_itemiter hT ?_)
  show wpAny _ _ (setField (.ref it) 3 (rawInt ((i : Int) + 1)) >>= _) _ _ ⟨hp, g, dr, tk, os⟩
  refine wpAny_bind (wpAny_setField_rec hit (by simp) fun h₁ he₁ hs₁ => ?_)
  have he₂ : IsItemIter h₁ it d (i + 1) es.length n ok ov := by
    unfold IsItemIter
    rw [show ((i + 1 : Nat) : Int) = (i : Int) + 1 by omega]
    simpa [rawInt] using he₁
  have hT₁ : Shared.TypeIs ⟨h₁, g, dr, tk, os⟩ (.ref it) "dict_itemiterator" := ⟨_, he₂, rfl⟩
  refine wpAny_bind (wpAny_holding (wpAny_bind (wpAny_isOneOf_itemiter hT₁ (wpAny_bind (wpAny_isOneOf_itemiter hT₁ ?_)))))
  show wpAny _ _ (Builtin.Dict_items.pairFromOwner (.ref it) 6 e.key e.val) _ _ ⟨h₁, g, dr, tk, os⟩
  unfold Builtin.Dict_items.pairFromOwner
  refine wpAny_bind (wpAny_newTuple ?_)
  have sz : h₁.objs.size = hp.objs.size := hs₁.1
  have lt : it < hp.objs.size := Heap.lt_size hit
  have g3 : IsItemIter (h₁.push { cls := .type "tuple", data := .seq #[e.key, e.val] }) it d (i + 1) es.length n ok ov := Heap.get?_push_of_some _ he₂
  have t3 : (h₁.push { cls := .type "tuple", data := .seq #[e.key, e.val] }).get? hp.objs.size = some { cls := .type "tuple", data := .seq #[e.key, e.val] } := by rw [← sz]; exact Heap.get?_push_size _ rfl
  have k3 : ∀ b o, b ≠ it → hp.get? b = some o → (h₁.push { cls := .type "tuple", data := .seq #[e.key, e.val] }).get? b = some o := fun b o hb x => Heap.get?_push_of_some _ (hs₁.extBut b o hb x)
  rw [sz]
  generalize h₁.push { cls := .type "tuple", data := .seq #[e.key, e.val] } = h3 at g3 t3 k3
  show wpAny _ _ (Builtin.Dict_items.ownedTupleIsFree (.ref it) >>= _) _ _ ⟨h3, g, dr, tk, os⟩
  refine wpAny_bind ?_
  unfold Builtin.Dict_items.ownedTupleIsFree
  refine wpAny_bind (wpAny_field g3 rfl (x := .none) rfl (wpAny_pure ?_))
  simp only [if_true]
  refine wpAny_bind (wpAny_field g3 rfl (x := ok) rfl (wpAny_bind (wpAny_field g3 rfl (x := ov) rfl ?_)))
  refine wpAny_bind (wpAny_setField_rec g3 (by simp) fun h4 e4 s4 => ?_)
  have g4 : IsItemIter h4 it d (i + 1) es.length n e.key ov := e4
  refine wpAny_bind (wpAny_setField_rec g4 (by simp) fun h5 e5 s5 => ?_)
  have g5 : IsItemIter h5 it d (i + 1) es.length n e.key e.val := e5
  refine wpAny_bind (wpAny_setField_rec g5 (by simp) fun h6 e6 s6 => ?_)
  have g6 : IsItemIterOut h6 it d (i + 1) es.length n e.key e.val hp.objs.size := e6
  refine wpAny_bind (wpAny_setField_rec g6 (by simp) fun h7 e7 s7 => ?_)
  have g7 : IsItemIterOut h7 it d (i + 1) es.length n e.key e.val hp.objs.size := e7
  have up : ∀ b o, b ≠ it → h3.get? b = some o → h7.get? b = some o := fun b o hb x => Heap.SameBut.extBut s7 b o hb (Heap.SameBut.extBut s6 b o hb (Heap.SameBut.extBut s5 b o hb (Heap.SameBut.extBut s4 b o hb x)))
  exact wpAny_bind (wpAny_letGo (wpAny_pure (wpAny_pure ⟨_, rfl, wpAny_pure (hQ h7 g7 (up _ _ (Nat.ne_of_gt lt) t3) fun b o hb x => up b o hb (k3 b o hb x))⟩)))
theorem dictAt3 {h : Heap} {d : Addr} {k0 k1 k2 : Str} {t0 t1 t2 : Tok} {v0 v1 v2 : Value} {n : Nat} (hd : h.get? d = some (dictOf [ent w k0 t0 v0, ent w k1 t1 v1, ent w k2 t2 v2] n)) (n01 : (k0 == k1) = false) (n02 : (k0 == k2) = false) (n12 : (k1 == k2) = false) :
    h.DictAt (PySem.strKind prog w) d [(k0, v0), (k1, v1), (k2, v2)] n := by
  have is : ∀ (k : Str) (t : Tok), (PySem.strKind prog w).is k (.str k t) = true := fun k t => by show Value.isStrOf k (.str k t) = true; simp [Value.isStrOf]
  refine ⟨_, _, hd, ⟨rfl, rfl, rfl⟩, rfl, ?_, ?_, ?_⟩
  · intro e he
    have : e = ent w k0 t0 v0 ∨ e = ent w k1 t1 v1 ∨ e = ent w k2 t2 v2 := by simpa using he
    rcases this with rfl | rfl | rfl
    · exact ⟨k0, is _ _, rfl⟩
    · exact ⟨k1, is _ _, rfl⟩
    · exact ⟨k2, is _ _, rfl⟩
  · exact .cons (is _ _) rfl (.cons (is _ _) rfl (.cons (is _ _) rfl .nil))
  · have a := beq_eq_false_iff_ne.mp n01
    have b := beq_eq_false_iff_ne.mp n02
    have c := beq_eq_false_iff_ne.mp n12
    simp [a, b, c]
variable {env : Env} {h₀ : Heap} {m₀ : Str → Option Value} {news : News'} {body : List Stmt}
theorem pairs_turns {elts : List PySem.Expr} {kk : Nat} {pos : Pos} (hh : A.handled = none) (I d : Addr) (hne : d ≠ I) {k0 k1 k2 : Str} {t0 t1 t2 : Tok} {v0 v1 v2 : Value} (n : Nat) (n01 : (k0 == k1) = false) (n02 : (k0 == k2) = false) (n12 : (k1 == k2) = false) :
    KTurns prog w A (.Tuple elts kk pos) I [I, d] [I] 3
      (fun i v h => ∃ T e, v = .ref T ∧ [ent w k0 t0 v0, ent w k1 t1 v1, ent w k2 t2 v2][i]? = some e ∧ h.get? T = some { cls := .type "tuple", data := .seq #[e.key, e.val] } ∧ I < T)
      (fun i v h => ∃ T e, v = .ref T ∧ [ent w k0 t0 v0, ent w k1 t1 v1, ent w k2 t2 v2][i]? = some e ∧ h.get? T = some { cls := .type "tuple", data := .seq #[e.key, e.val] } ∧ I < T ∧ IsItemIterOut h I d (i + 1) 3 n e.key e.val T ∧ h.get? d = some (dictOf [ent w k0 t0 v0, ent w k1 t1 v1, ent w k2 t2 v2] n))
      (fun i h => (∃ ok ov, IsItemIter h I d i 3 n ok ov) ∧ h.get? d = some (dictOf [ent w k0 t0 v0, ent w k1 t1 v1, ent w k2 t2 v2] n)) where
  sub := fun b hb => by simp at hb; simp [hb]
  frame := fun i h h' st hk => by
    obtain ⟨⟨ok, ov, he⟩, hm⟩ := st
    exact ⟨⟨ok, ov, hk I (by simp) _ he⟩, hk d (by simp) _ hm⟩
  item := fun i s Q E hi st hQ => by
    obtain ⟨⟨ok, ov, he⟩, hm⟩ := st
    obtain ⟨e, hx⟩ : ∃ e, [ent w k0 t0 v0, ent w k1 t1 v1, ent w k2 t2 v2][i]? = some e := ⟨_, List.getElem?_eq_getElem (show i < 3 from hi)⟩
    refine next_pair (es := [ent w k0 t0 v0, ent w k1 t1 v1, ent w k2 t2 v2]) he hm hx fun h' ho hT hk => ?_
    exact hQ (.ref s.heap.objs.size) h' s.toks ⟨s.heap.objs.size, e, rfl, hx, hT, Heap.lt_size he, ho, hk d _ hne hm⟩ fun b o hb e => hk b o (fun h => hb (by simp [h])) e
  go := fun i v s Q E hm hQ => by
    obtain ⟨T, e, rfl, hx, hT, hlt, ho, hd⟩ := hm
    refine wpAny_letOwnedTupleGo_items ho fun h' he hs => ?_
    exact hQ h' ⟨T, e, rfl, hx, hs.extBut T _ (Nat.ne_of_gt hlt) hT, hlt⟩ ⟨⟨_, _, he⟩, hs.extBut d _ hne hd⟩ fun b o hb e => hs.extBut b o (fun h => hb (by simp [h])) e
  done := fun s Q E st hQ => by
    obtain ⟨⟨ok, ov, he⟩, hm⟩ := st
    exact wpAny_pyNext_items_end (knd := PySem.strKind prog w) (kvs := [(k0, v0), (k1, v1), (k2, v2)]) hh he (dictAt3 hm n01 n02 n12) rfl fun h' hx => hQ h' s.toks fun b o hb e => hx b o (fun h => hb (by simp [h])) e
/-- behind a turn over the pairs -/
def PPost (h₀ : Heap) (L : Addr) (news : News') (I : Addr) (itO : Obj) (J : (Str → Option Value) → Prop) (s : Shared) (f : Flow) (s₂ : Shared) : Prop :=
  f = .next ∧ ∃ h' tk' m', s₂ = { s with heap := h', toks := tk' } ∧ Fr h₀ L h' m' ∧ News h₀ L h' ((I, itO) :: news) ∧ J m'
theorem iter_pairs {elts : List PySem.Expr} {kk : Nat} {pos px py : Pos} {x y : Str} {d vw : Addr} {Q : Flow → Shared → Prop} {k0 k1 k2 : Str} {t0 t1 t2 : Tok} {v0 v1 v2 : Value} {n : Nat} (J : Nat → (Str → Option Value) → Prop)
    (hel : elts = [.Name x px, .Name y py]) (hkx : env.kindOf x = some .local) (hky : env.kindOf y = some .local) (hp : (env.scope.kind == .class || (env.scope.kind == .module && env.locals != env.globals)) = false)
    (hh : A.handled = none) (F : Fr h₀ env.locals s.heap m₀) (N : News h₀ env.locals s.heap news) (hvw : ∃ ov, s.heap.get? vw = some ov ∧ ov.cls = .type "dict_items" ∧ ov.data = .fields #[.ref d]) (hm : (d, dictOf [ent w k0 t0 v0, ent w k1 t1 v1, ent w k2 t2 v2] n) ∈ news)
    (n01 : (k0 == k1) = false) (n02 : (k0 == k2) = false) (n12 : (k1 == k2) = false) (hj : J 0 m₀)
    (turn : Held (∀ i e m₁ h tk I (itO : Obj) T, [ent w k0 t0 v0, ent w k1 t1 v1, ent w k2 t2 v2][i]? = some e → J i m₁ → Fr h₀ env.locals h (fun z => if z = y then some e.val else if z = x then some e.key else m₁ z) →
      News h₀ env.locals h ((I, itO) :: (T, ({ cls := .type "tuple", data := .seq #[e.key, e.val] } : Obj)) :: news) →
      wpAny (model prog w) A (execs body env) (PPost h₀ env.locals news I itO (J (i + 1)) s) E { s with heap := h, toks := tk }))
    (done : Held (∀ m h tk, J 3 m → Fr h₀ env.locals h m → News h₀ env.locals h news → Q .next { s with heap := h, toks := tk })) :
    wpAny (model prog w) A (pyIter (.ref vw)) (fun it s₂ => TurnsAt prog w A h₀ env (.Tuple elts kk pos) body Q E it s₂) E s := by
  subst hel
  have hax := N _ hm
  have hat := dictAt3 (prog := prog) hax.1 n01 n02 n12
  have hne : d ≠ s.heap.objs.size := Nat.ne_of_lt (Heap.lt_size hax.1)
  refine wpAny_pyIter_items hvw hat ?_
  have lt0 : ∀ p ∈ news, p.1 < s.heap.objs.size := fun p hp => Heap.lt_size (N p hp).1
  refine ⟨s.heap.objs.size, _, _, 3, _, _, _, m₀, news, fun i m nx => nx = news ∧ J i m, rfl, pairs_turns (t0 := t0) (t1 := t1) (t2 := t2) (v0 := v0) (v1 := v1) (v2 := v2) hh s.heap.objs.size d hne n n01 n02 n12, ?_, ?_, ?_, ⟨⟨.none, .none, Heap.get?_push_size _ rfl⟩, Heap.get?_push_of_some _ hax.1⟩, F.push _, fun p hp => ⟨Heap.get?_push_of_some _ (N p hp).1, (N p hp).2⟩, ⟨rfl, hj⟩, ?_, ?_⟩
  · intro hm'
    rcases List.mem_cons.mp hm' with e | hm'
    · exact absurd F.ns.lt (e ▸ Nat.lt_irrefl _)
    · exact hax.2.1 ((List.mem_singleton.mp hm').symm)
  · intro b hb
    rw [List.mem_singleton.mp hb]
    exact next_is_new F
  · intro p hp hI
    exact absurd (lt0 p hp) ((List.mem_singleton.mp hI) ▸ Nat.lt_irrefl _)
  · rintro i v m₁ news₁ h₁ tk₁ own hi ⟨T, e, rfl, hx, hT, hlt⟩ ⟨rfl, hJ⟩ hoff hown hget hfp hst F₁ N₁
    obtain ⟨⟨ok, ov, hit⟩, hdd⟩ := hst
    have hnew : h₀.get? s.heap.objs.size = none := next_is_new F
    have hmem := hfp s.heap.objs.size (by simp) hnew _ hit
    have lL : env.locals < s.heap.objs.size := F.ns.lt
    have hT0 : h₀.get? T = none := by
      cases eT : h₀.get? T with
      | none => rfl
      | some o => exact absurd (Heap.lt_size (F.keep T o eT)) (Nat.not_lt.mpr (Nat.le_of_lt hlt))
    have N₂ : News h₀ env.locals h₁ ((s.heap.objs.size, _) :: (T, ({ cls := .type "tuple", data := .seq #[e.key, e.val] } : Obj)) :: news₁) := fun p hp => by
      rcases List.mem_cons.mp hp with e | hp
      · exact N₁ p (List.mem_append.mpr (.inl (e ▸ hmem)))
      rcases List.mem_cons.mp hp with e | hp
      · rw [e]; exact ⟨hT, Nat.ne_of_gt (Nat.lt_trans lL hlt), hT0⟩
      · exact N₁ p (List.mem_append.mpr (.inr hp))
    refine wpAny_assign_Tuple hh ⟨_, hT, rfl, _, rfl⟩ rfl rfl fun h₂ ext => ?_
    have up : ∀ b o, h₁.get? b = some o → h₂.get? b = some o := fun b o e => ext b o (Nat.ne_of_lt (Heap.lt_size e)) e
    have F3 := F₁.keeps up
    have N3 := N₂.grown up
    refine wpAny_assignInOrder_more (wpAny_assign_Name (wpAny_storeName_local hkx F3.ns (fun h₃ hn₃ hs₃ => ?_) hp))
    have F4 := F3.set hn₃ hs₃
    have N4 := N3.set hs₃
    refine wpAny_assignInOrder_more (wpAny_assign_Name (wpAny_storeName_local hky F4.ns (fun h₄ hn₄ hs₄ => ?_) hp))
    have F5 := F4.set hn₄ hs₄
    have N5 := N4.set hs₄
    refine wpAny_assignInOrder_none ?_
    have W := turn i e m₁ h₄ (tk₁ + 1 + 1) s.heap.objs.size _ T hx hJ F5 N5
    refine wpAny_mono W (fun f s₂ hf => ?_) fun _ _ e => e
    obtain ⟨rfl, h', tk', m', rfl, F', N', hJ'⟩ := hf
    refine .next ⟨rfl, h', tk', m', news₁, rfl, F', fun p hp => ?_, hoff, rfl, hJ'⟩
    rcases List.mem_append.mp hp with hp | hp
    · have g := hget p hp
      have hp' : p.1 = s.heap.objs.size ∨ p.1 = d := by simpa using hown p hp
      rcases hp' with e1 | e1
      · rw [e1, hit] at g
        have : p = (s.heap.objs.size, _) := Prod.ext e1 (Option.some.inj g).symm
        rw [this]; exact N' _ (.head _)
      · rw [e1, hdd] at g
        have : p = (d, _) := Prod.ext e1 (Option.some.inj g).symm
        rw [this]; exact N' _ (.tail _ hm)
    · exact N' p (.tail _ hp)
  · rintro h' tk m' news' F' N' _ ⟨rfl, hJ⟩
    exact done m' h' tk hJ F' N'
theorem call_items3 {d : Addr} {Q : Value → Shared → Prop} {L : Addr} {m : Str → Option Value} {k0 k1 k2 : Str} {t0 t1 t2 : Tok} {v0 v1 v2 : Value} {n : Nat} (F : Fr h₀ L s.heap m) (N : News h₀ L s.heap news) (hm : (d, dictOf [ent w k0 t0 v0, ent w k1 t1 v1, ent w k2 t2 v2] n) ∈ news) (lo : (d == sysModules) = false)
    (n01 : (k0 == k1) = false) (n02 : (k0 == k2) = false) (n12 : (k1 == k2) = false)
    (h : ∀ vw h', (∃ ov, h'.get? vw = some ov ∧ ov.cls = .type "dict_items" ∧ ov.data = .fields #[.ref d]) → Fr h₀ L h' m → News h₀ L h' news → Q (.ref vw) { s with heap := h' }) :
    wpAny (model prog w) A (call (.builtin "dict.items") [.ref d]) Q E s := by
  have hat := dictAt3 (prog := prog) (N _ hm).1 n01 n02 n12
  have hd : s.heap.DictOf (PySem.strKind prog w) d [(k0, v0), (k1, v1), (k2, v2)] := hat.dictOf
  exact call_meetsIn PySem.F.slot_dict_items hd.typeIs PySem.F.entry_dict_items (PySem.F.args_dict_items_1 _) (meets_dict_items (PySem.strKind prog w) d lo)
    ⟨⟨_, hd⟩, h _ _ ⟨_, Heap.get?_push_size _ rfl, rfl, rfl⟩ (F.push _) (News.tail' (News.push F N _))⟩
theorem get_items3 {d : Addr} {Q : Value × List Value → Shared → Prop} {pl : Sem Bool} {L : Addr} {es : List DictEntry} {n : Nat} (N : News h₀ L s.heap news) (hm : (d, dictOf es n) ∈ news)
    (h : Q (.builtin "dict.items", [.ref d]) s) : wpAny (model prog w) A (getMethod (.ref d) "items" pl) Q E s :=
  getMethod_builtin ⟨_, (N _ hm).1, rfl⟩ PySem.F.plainAttrs_dict PySem.F.slot_dict_items PySem.F.type_dict_items (fun a e => by cases e; exact ⟨_, (N _ hm).1, rfl⟩) h
theorem truthy3 {d : Addr} {Q : Bool → Shared → Prop} {L : Addr} {k0 k1 k2 : Str} {t0 t1 t2 : Tok} {v0 v1 v2 : Value} {n : Nat} (N : News h₀ L s.heap news) (hm : (d, dictOf [ent w k0 t0 v0, ent w k1 t1 v1, ent w k2 t2 v2] n) ∈ news) (lo : (d == sysModules) = false)
    (n01 : (k0 == k1) = false) (n02 : (k0 == k2) = false) (n12 : (k1 == k2) = false) (h : Q true { s with toks := s.toks + 1 + 1 }) : wpAny (model prog w) A (truthy (.ref d)) Q E s :=
  wpAny_truthy_dict (knd := PySem.strKind prog w) lo (dictAt3 (prog := prog) (N _ hm).1 n01 n02 n12).dictOf (by simp) h
end
end
section
open PySem PySem.W PyProof.Rows PySem.Builtin.Str PySem.StrLaws
/-- replace, sign by sign; the number: signs to skip -/
def rep (y z : List Nat) : List Nat → Nat → List Nat
  | [], _ => []
  | _ :: r, k + 1 => rep y z r k
  | c :: r, 0 => if y.isPrefixOf (c :: r) = true then z ++ rep y z r (y.length - 1) else c :: rep y z r 0
theorem rep_skip (y z : List Nat) : ∀ (l : List Nat) (k : Nat), rep y z l k = rep y z (l.drop k) 0
  | [], k => by rw [List.drop_nil]; cases k <;> rfl
  | c :: r, 0 => rfl
  | c :: r, k + 1 => by
    show rep y z r k = rep y z (r.drop k) 0
    exact rep_skip y z r k
theorem at_iff (l y : List Nat) (k : Nat) : At ⟨l.toArray⟩ ⟨y.toArray⟩ l.length k ↔ k ≤ l.length ∧ y.isPrefixOf (l.drop k) = true := by
  unfold At subAt
  have e1 : (⟨y.toArray⟩ : Str).length = y.length := List.size_toArray
  rw [e1]
  show k + y.length ≤ l.length ∧ (l.toArray.extract k (k + y.length) == y.toArray) = true ↔ _
  rw [beq_toList, List.isPrefixOf_iff_prefix]
  simp only [Array.toList_extract, List.extract_eq_take_drop, beq_iff_eq, Nat.add_sub_cancel_left]
  constructor
  · rintro ⟨h1, h2⟩
    exact ⟨by omega, ⟨(l.drop k).drop y.length, by rw [← h2, List.length_take, List.length_drop, Nat.min_eq_left (by omega)]; exact List.take_append_drop _ _⟩⟩
  · rintro ⟨h0, ⟨t, ht⟩⟩
    have hlen := congrArg List.length ht
    rw [List.length_append, List.length_drop] at hlen
    exact ⟨by omega, by rw [← ht]; simp⟩
theorem rep_none {y z l : List Nat} (hy : y ≠ []) (h : ∀ k, y.isPrefixOf (l.drop k) = false) : rep y z l 0 = l := by
  induction l with
  | nil => rfl
  | cons c r ih =>
    have h0 := h 0
    rw [List.drop_zero] at h0
    simp only [rep, h0]
    rw [if_neg Bool.false_ne_true, ih fun k => h (k + 1)]
theorem rep_first {y z : List Nat} (hy : y ≠ []) : ∀ (n : Nat) (l : List Nat), (∀ k, k < n → y.isPrefixOf (l.drop k) = false) → y.isPrefixOf (l.drop n) = true → rep y z l 0 = l.take n ++ z ++ rep y z (l.drop (n + y.length)) 0
  | 0, l, _, h => by
    rw [List.drop_zero] at h
    cases l with
    | nil => cases y with
      | nil => exact absurd rfl hy
      | cons a y => cases h
    | cons c r =>
      simp only [rep, h, if_true]
      rw [rep_skip]
      have e : 0 + y.length = (y.length - 1) + 1 := by cases y with
        | nil => exact absurd rfl hy
        | cons a y => simp
      rw [e, List.drop_succ_cons]
      rfl
  | n + 1, l, hn, h => by
    cases l with
    | nil =>
      rw [List.drop_nil] at h
      cases y with
      | nil => exact absurd rfl hy
      | cons a y => cases h
    | cons c r =>
      have h0 := hn 0 (Nat.succ_pos _)
      rw [List.drop_zero] at h0
      simp only [rep, h0]
      rw [if_neg Bool.false_ne_true]
      have ih := rep_first (z := z) hy n r (fun k hk => by have := hn (k + 1) (Nat.succ_lt_succ hk); rwa [List.drop_succ_cons] at this) (by rwa [List.drop_succ_cons] at h)
      rw [ih, List.take_succ_cons, show n + 1 + y.length = (n + y.length) + 1 by omega, List.drop_succ_cons]
      rfl
theorem join_rep {l y z : List Nat} (hy : y ≠ []) : ∀ (cuts : List Nat) (a f : Nat), a ≤ l.length → ChainG ⟨l.toArray⟩ ⟨y.toArray⟩ l.length a cuts f → (∀ k, f ≤ k → ¬ At ⟨l.toArray⟩ ⟨y.toArray⟩ l.length k) →
    Str.join ⟨z.toArray⟩ (partsFrom ⟨l.toArray⟩ y.length a cuts) = ⟨(rep y z (l.drop a) 0).toArray⟩
  | [], a, f, ha, hc, hf => by
    obtain rfl : f = a := hc
    show strSub ⟨l.toArray⟩ f l.toArray.size = _
    have e : strSub ⟨l.toArray⟩ f l.toArray.size = ⟨(l.drop f).toArray⟩ := by
      unfold strSub
      congr 1
      apply Array.toList_inj.mp
      simp
      exact List.take_of_length_le (by simp)
    rw [e, rep_none hy]
    intro k
    rw [List.drop_drop]
    cases hp : y.isPrefixOf (l.drop (f + k)) with
    | false => rfl
    | true =>
      by_cases hk : f + k ≤ l.length
      · exact absurd ((at_iff l y (f + k)).mpr ⟨hk, hp⟩) (hf (f + k) (Nat.le_add_right _ _))
      · rw [List.drop_eq_nil_of_le (by omega)] at hp
        cases y with
        | nil => exact absurd rfl hy
        | cons a y => cases hp
  | c :: r, a, f, ha, hc, hf => by
    obtain ⟨hac, hat, hno, hr⟩ := hc
    obtain ⟨hcl, hpre⟩ := (at_iff l y c).mp hat
    have hlen : c + y.length ≤ l.length := by
      have := hat.1
      have e1 : (⟨y.toArray⟩ : Str).length = y.length := List.size_toArray
      rw [e1] at this; exact this
    have e1 : (⟨y.toArray⟩ : Str).length = y.length := List.size_toArray
    rw [e1] at hr
    have ih := join_rep (z := z) hy r (c + y.length) f hlen hr hf
    obtain ⟨p, q, e⟩ := partsFrom_ne ⟨l.toArray⟩ y.length (c + y.length) r
    show Str.join _ (strSub ⟨l.toArray⟩ a c :: partsFrom ⟨l.toArray⟩ y.length (c + y.length) r) = _
    rw [e] at ih ⊢
    show strSub ⟨l.toArray⟩ a c ++ ⟨z.toArray⟩ ++ Str.join _ (p :: q) = _
    rw [ih]
    have e2 : strSub ⟨l.toArray⟩ a c = ⟨((l.drop a).take (c - a)).toArray⟩ := by
      unfold strSub
      congr 1
      apply Array.toList_inj.mp
      simp [List.extract_eq_take_drop]
    rw [e2, str_app, str_app]
    have := rep_first (z := z) hy (c - a) (l.drop a) (fun k hk => by
      rw [List.drop_drop]
      cases hp : y.isPrefixOf (l.drop (a + k)) with
      | false => rfl
      | true => exact absurd ((at_iff l y (a + k)).mpr ⟨by omega, hp⟩) (hno (a + k) (by omega) (by omega))) (by rw [List.drop_drop, show a + (c - a) = c by omega]; exact hpre)
    rw [this, List.drop_drop, show a + (c - a + y.length) = c + y.length by omega]
theorem replace_rep {l y z : List Nat} (hy : y ≠ []) : Txt.replace ⟨l.toArray⟩ ⟨y.toArray⟩ ⟨z.toArray⟩ = ⟨(rep y z l 0).toArray⟩ := by
  have hy1 : 1 ≤ (⟨y.toArray⟩ : Str).length := by
    have e1 : (⟨y.toArray⟩ : Str).length = y.length := List.size_toArray
    rw [e1]
    exact List.length_pos_iff.mpr hy
  have hl : (⟨l.toArray⟩ : Str).length = l.length := List.size_toArray
  obtain ⟨f, hc, hf⟩ := occ_tight ⟨l.toArray⟩ ⟨y.toArray⟩ hy1
  have key : Str.join ⟨z.toArray⟩ (partsBetween ⟨l.toArray⟩ (occurrences ⟨l.toArray⟩ ⟨y.toArray⟩ 0 (⟨l.toArray⟩ : Str).length ((⟨l.toArray⟩ : Str).length + 1)) (⟨y.toArray⟩ : Str).length) = ⟨(rep y z l 0).toArray⟩ := by
    rw [partsBetween_eq]
    have e1 : (⟨y.toArray⟩ : Str).length = y.length := List.size_toArray
    rw [e1]
    rw [hl] at hc hf ⊢
    have := join_rep (z := z) hy _ 0 f (Nat.zero_le _) hc hf
    rw [List.drop_zero] at this
    exact this
  unfold Txt.replace
  split
  · rename_i h
    rw [Bool.or_eq_true] at h
    rcases h with h | h
    · have h0 : occurrences ⟨l.toArray⟩ ⟨y.toArray⟩ 0 (⟨l.toArray⟩ : Str).length ((⟨l.toArray⟩ : Str).length + 1) = [] := List.isEmpty_iff.mp h
      rw [h0] at key
      rw [← key, partsBetween_eq]
      show _ = strSub ⟨l.toArray⟩ 0 l.toArray.size
      unfold strSub
      congr 1
      simp
    · rw [Bool.and_eq_true] at h
      have : (⟨y.toArray⟩ : Str).length = 0 := by simpa using h.1
      omega
  · rw [glued_eq_join]; exact key
end
section
open PySem PySem.W PyProof.Rows
/-- a token of the page: a word, the sign <, nothing -/
inductive Tk where
  | w (x : Wd)
  | l
  | b
def Tk.c : Tk → List Nat
  | .w x => x.c
  | .l => [60]
  | .b => []
def Tk.d : Tk → List Nat
  | .w .m1 => Wd.e1.c
  | .w .m2 => Wd.e2.c
  | t => t.c
def cTx (ts : List Tk) : List Nat := ts.flatMap fun t => t.c ++ [32]
def dTx (ts : List Tk) : List Nat := ts.flatMap fun t => t.d ++ [32]
theorem tx_c (ws : List Wd) : tx ws = cTx (ws.map .w) := by
  unfold tx cTx
  rw [List.flatMap_map]
  rfl
theorem rep_text {y z : List Nat} {f : Tk → List Nat} (h : ∀ t rest, rep y z (t.c ++ 32 :: rest) 0 = f t ++ 32 :: rep y z rest 0) : ∀ ts : List Tk, rep y z (cTx ts) 0 = ts.flatMap fun t => f t ++ [32]
  | [] => rfl
  | t :: ts => by
    have ih := rep_text h ts
    show rep y z ((t.c ++ [32]) ++ cTx ts) 0 = (f t ++ [32]) ++ ts.flatMap (fun t => f t ++ [32])
    rw [List.append_assoc, List.append_assoc]
    show rep y z (t.c ++ 32 :: cTx ts) 0 = f t ++ 32 :: ts.flatMap (fun t => f t ++ [32])
    rw [h, ih]
def fLt : Tk → Tk
  | .w .lt => .l
  | t => t
theorem rep_lt (ts : List Tk) : rep [38, 108, 116, 59] [60] (cTx ts) 0 = cTx (ts.map fLt) := by
  rw [rep_text (f := fun t => (fLt t).c) (fun t rest => by cases t with | w x => cases x <;> rfl | l => rfl | b => rfl)]
  unfold cTx
  rw [List.flatMap_map]
theorem rep_gt (ts : List Tk) : rep [38, 103, 116, 59] [62] (cTx ts) 0 = cTx ts := by
  rw [rep_text (f := fun t => t.c) (fun t rest => by cases t with | w x => cases x <;> rfl | l => rfl | b => rfl)]
  rfl
def isE (e : Wd) : Tk → Bool
  | .w x => x == e
  | _ => false
def fE (e : Wd) (r : List Wd) (t : Tk) : List Tk := match t with
  | .w x => if x = e then r.map .w ++ [.b] else [t]
  | _ => [t]
theorem fE_hit (e : Wd) (r : List Wd) : fE e r (.w e) = r.map Tk.w ++ [Tk.b] := if_pos rfl
theorem fE_miss {e x : Wd} (r : List Wd) (h : ¬ x = e) : fE e r (.w x) = [.w x] := if_neg h
theorem rep_e (e : Wd) (he : e = .e0 ∨ e = .e1 ∨ e = .e2) (r : List Wd) (ts : List Tk) : rep e.c (tx r) (cTx ts) 0 = cTx (ts.flatMap (fE e r)) := by
  rw [rep_text (f := fun t => match t with | .w x => if x = e then tx r else x.c | t => t.c) (fun t rest => by
    rcases he with rfl | rfl | rfl <;> (cases t with | w x => cases x <;> rfl | l => rfl | b => rfl))]
  unfold cTx
  rw [List.flatMap_assoc]
  congr 1
  funext t
  cases t with
  | w x =>
    show (if x = e then tx r else x.c) ++ [32] = (if x = e then r.map Tk.w ++ [Tk.b] else [Tk.w x]).flatMap (fun t => t.c ++ [32])
    split
    · rw [List.flatMap_append, tx_c]; rfl
    · rw [List.flatMap_singleton]; rfl
  | l => rfl
  | b => rfl
theorem rep_amp (ts : List Tk) : rep [38, 97, 109, 112, 59] [38] (cTx ts) 0 = dTx ts := by
  rw [rep_text (f := fun t => t.d) (fun t rest => by cases t with | w x => cases x <;> rfl | l => rfl | b => rfl)]
  rfl
/-- the tokens of the page behind unescape -/
def pageF (R : Rows4) : List Tk := (((R.1.map Tk.w).map fLt).flatMap (fE .e0 R.2.1)).flatMap (fE .e1 R.2.2.1) |>.flatMap (fE .e2 R.2.2.2)
def sd (t : Tk) : Str := ⟨t.d.toArray⟩
/-- the words -/
def wds (ts : List Tk) : List Str := ts.flatMap fun t => match t with | .b => [] | t => [sd t]
theorem out_sd (p : Int) (hp : 0 ≤ p) (x : Wd) : x.out p = sd (.w x) := by
  have hn : ¬ p < 0 := by omega
  cases x <;> simp only [Wd.out, if_neg hn] <;> decide +kernel
theorem out_page (x : Wd) : x.out (-1) = sd (fLt (.w x)) := by cases x <;> decide +kernel
def H2 (R : Rows4) (t : Tk) : List Str := wds (fE .e2 R.2.2.2 t)
def H1 (R : Rows4) (t : Tk) : List Str := (fE .e1 R.2.2.1 t).flatMap (H2 R)
def H0 (R : Rows4) (t : Tk) : List Str := (fE .e0 R.2.1 t).flatMap (H1 R)
theorem wds_flat {α : Type} (l : List α) (g : α → List Tk) : wds (l.flatMap g) = l.flatMap fun a => wds (g a) := by
  unfold wds; rw [List.flatMap_assoc]
theorem wds_words (r : List Wd) : wds (r.map Tk.w) = r.map fun x => sd (.w x) := by
  unfold wds
  rw [List.flatMap_map]
  induction r with
  | nil => rfl
  | cons a r ih => rw [List.flatMap_cons, List.map_cons, ih]; rfl
theorem t2_words (R : Rows4) : (T2 R).map (·.1) = R.2.2.2.map fun x => sd (.w x) := by
  unfold T2
  rw [List.map_flatMap]
  induction R.2.2.2 with
  | nil => rfl
  | cons a r ih =>
    rw [List.flatMap_cons, List.map_cons, ih]
    have : (told1 2 a []).map (·.1) = [sd (.w a)] := by
      unfold told1
      rw [if_neg (by have := nums_le a; omega)]
      show [a.out 2] = _
      rw [out_sd 2 (by decide)]
    rw [this]; rfl
theorem H2_word (R : Rows4) (x : Wd) : H2 R (.w x) = (told1 1 x (T2 R)).map (·.1) := by
  unfold H2 told1
  by_cases h : x = .e2
  · subst h
    rw [fE_hit, if_pos (by decide), t2_words]
    show wds (R.2.2.2.map Tk.w ++ [Tk.b]) = _
    unfold wds
    rw [List.flatMap_append]
    show wds (R.2.2.2.map Tk.w) ++ [] = _
    rw [List.append_nil, wds_words]
  · rw [fE_miss _ h, if_neg (by intro hh; cases x <;> first | exact h rfl | revert hh; decide)]
    show [sd (.w x)] = [x.out 1]
    rw [out_sd 1 (by decide)]
theorem t1_words (R : Rows4) : (T1 R).map (·.1) = R.2.2.1.flatMap fun x => H2 R (.w x) := by
  unfold T1
  rw [List.map_flatMap]
  congr 1; funext x
  exact (H2_word R x).symm
theorem H1_word (R : Rows4) (x : Wd) : H1 R (.w x) = (told1 0 x (if x.n = 1 then T1 R else T2 R)).map (·.1) := by
  unfold H1 told1
  by_cases h : x = .e1
  · subst h
    rw [fE_hit, if_pos (by decide), if_pos (by decide), t1_words, List.flatMap_append, List.flatMap_map]
    show _ ++ H2 R .b = _
    show _ ++ [] = _
    rw [List.append_nil]
  · rw [fE_miss _ h, List.flatMap_singleton, H2_word]
    unfold told1
    cases x <;> first | exact absurd rfl h | rfl | (rw [if_neg (by decide), if_neg (by decide)]; show [Wd.out 1 _] = [Wd.out 0 _]; rw [out_sd 1 (by decide), out_sd 0 (by decide)])
theorem t0_words (R : Rows4) : (T0 R).map (·.1) = R.2.1.flatMap fun x => H1 R (.w x) := by
  unfold T0
  rw [List.map_flatMap]
  congr 1; funext x
  exact (H1_word R x).symm
theorem H0_word (R : Rows4) (x : Wd) : H0 R (fLt (.w x)) = (told1 (-1) x (if x.n = 0 then T0 R else if x.n = 1 then T1 R else T2 R)).map (·.1) := by
  by_cases h : x = .e0
  · subst h
    show (fE .e0 R.2.1 (.w .e0)).flatMap (H1 R) = _
    unfold told1
    rw [fE_hit, if_pos (by decide), if_pos (by decide), t0_words, List.flatMap_append, List.flatMap_map]
    show _ ++ H1 R .b = _
    show _ ++ [] = _
    rw [List.append_nil]
  · by_cases hl : x = .lt
    · subst hl
      rfl
    · have e : fLt (.w x) = .w x := by cases x <;> first | rfl | exact absurd rfl hl
      rw [e]
      have e2 : H0 R (.w x) = H1 R (.w x) := by
        unfold H0
        rw [fE_miss _ h, List.flatMap_singleton]
      rw [e2, H1_word]
      unfold told1
      cases x <;> first | exact absurd rfl h | exact absurd rfl hl | rfl
/-- the words of the page behind unescape are the walk's -/
theorem page_words (R : Rows4) : wds (pageF R) = (TM R).map (·.1) := by
  unfold pageF TM
  rw [List.map_flatMap, wds_flat, List.flatMap_assoc, List.flatMap_assoc, List.flatMap_map, List.flatMap_map]
  congr 1; funext x
  exact H0_word R x
end
section
open PySem PySem.W PyProof.Rows
/-- the words of a text, w: what is read of the word at hand -/
def lexW : List Nat → List Nat → List (List Nat)
  | w, [] => if w = [] then [] else [w]
  | w, c :: r => if c = 32 then (if w = [] then lexW [] r else w :: lexW [] r) else lexW (w ++ [c]) r
theorem wordS_lex : ∀ (l w : List Nat) (p : Nat), w ≠ [] → ∃ x p', wordS w l p = .word x p' ∧ p ≤ p' ∧ p' ≤ p + l.length ∧ x ≠ [] ∧ lexW w l = x :: lexW [] (l.drop (p' - p))
  | [], w, p, hw => ⟨w, p, rfl, Nat.le_refl _, Nat.le_refl _, hw, by simp only [lexW, if_neg hw, List.drop_nil, if_true]⟩
  | c :: r, w, p, hw => by
    by_cases hc : c = 32
    · refine ⟨w, p + 1, by simp only [wordS, if_pos hc], Nat.le_succ _, by simp only [List.length_cons]; omega, hw, ?_⟩
      simp only [lexW, if_pos hc, if_neg hw]
      rw [Nat.add_sub_cancel_left]; rfl
    · obtain ⟨x, p', e, h1, h2, h3, h4⟩ := wordS_lex r (w ++ [c]) (p + 1) (by simp)
      refine ⟨x, p', by simp only [wordS, if_neg hc]; exact e, by omega, by simp only [List.length_cons]; omega, h3, ?_⟩
      simp only [lexW, if_neg hc]
      rw [h4, show p' - p = (p' - (p + 1)) + 1 by omega, List.drop_succ_cons]
theorem skipS_lex : ∀ (l : List Nat) (p : Nat), (∃ p', skipS l p = .end_ p' ∧ lexW [] l = []) ∨ ∃ x p', skipS l p = .word x p' ∧ p < p' ∧ p' ≤ p + l.length ∧ x ≠ [] ∧ lexW [] l = x :: lexW [] (l.drop (p' - p))
  | [], p => .inl ⟨p, rfl, rfl⟩
  | c :: r, p => by
    by_cases hc : c = 32
    · rcases skipS_lex r (p + 1) with ⟨p', e, h⟩ | ⟨x, p', e, h1, h2, h3, h4⟩
      · refine .inl ⟨p', by simp only [skipS, if_pos hc]; exact e, by simp only [lexW, if_pos hc, if_true]; exact h⟩
      · refine .inr ⟨x, p', by simp only [skipS, if_pos hc]; exact e, by omega, by simp only [List.length_cons]; omega, h3, ?_⟩
        simp only [lexW, if_pos hc, if_true]
        rw [h4, show p' - p = (p' - (p + 1)) + 1 by omega, List.drop_succ_cons]
    · obtain ⟨x, p', e, h1, h2, h3, h4⟩ := wordS_lex r [c] (p + 1) (by simp)
      refine .inr ⟨x, p', by simp only [skipS, if_neg hc]; exact e, by omega, by simp only [List.length_cons]; omega, h3, ?_⟩
      simp only [lexW, if_neg hc, List.nil_append]
      rw [h4, show p' - p = (p' - (p + 1)) + 1 by omega, List.drop_succ_cons]
theorem lexW_word : ∀ (cs w r : List Nat), 32 ∉ cs → lexW w (cs ++ 32 :: r) = if w ++ cs = [] then lexW [] r else (w ++ cs) :: lexW [] r
  | [], w, r, _ => by simp only [List.nil_append, List.append_nil, lexW, if_true]
  | c :: cs, w, r, h => by
    have hc : ¬ c = 32 := fun e => h (e ▸ List.mem_cons_self ..)
    simp only [List.cons_append, lexW, if_neg hc]
    rw [lexW_word cs (w ++ [c]) r fun hh => h (List.mem_cons_of_mem _ hh)]
    simp
theorem d_no (t : Tk) : 32 ∉ t.d := by cases t with | w x => cases x <;> decide | l => decide | b => decide
theorem lex_dTx : ∀ ts : List Tk, (lexW [] (dTx ts)).map (fun x => (⟨x.toArray⟩ : Str)) = wds ts
  | [] => rfl
  | t :: ts => by
    have ih := lex_dTx ts
    show (lexW [] ((t.d ++ [32]) ++ dTx ts)).map _ = _
    rw [List.append_assoc]
    show (lexW [] (t.d ++ 32 :: dTx ts)).map _ = _
    rw [lexW_word _ _ _ (d_no t), List.nil_append]
    cases t with
    | b => rw [if_pos (show Tk.b.d = [] from rfl), ih]; rfl
    | l => rw [if_neg (by decide), List.map_cons, ih]; rfl
    | w x => rw [if_neg (by cases x <;> decide), List.map_cons, ih]; rfl
theorem d_ok (t : Tk) : ∀ c ∈ t.d, c ∈ okC := by cases t with | w x => cases x <;> decide | l => decide | b => decide
theorem okr_dTx (ts : List Tk) : Okr (dTx ts) := by
  constructor
  · intro c hc
    obtain ⟨t, _, ht⟩ := List.mem_flatMap.mp hc
    rcases List.mem_append.mp ht with h | h
    · exact .inr (d_ok t c h)
    · exact .inl (List.mem_singleton.mp h)
  · intro hne
    induction ts with
    | nil => exact absurd rfl hne
    | cons t ts ih =>
      show ((t.d ++ [32]) ++ dTx ts).getLast? = some 32
      by_cases h : dTx ts = []
      · rw [h]; simp
      · rw [List.getLast?_append, ih h]; rfl
theorem okr_drop {l : List Nat} (h : Okr l) (k : Nat) : Okr (l.drop k) := by
  refine ⟨fun c hc => h.1 c (List.mem_of_mem_drop hc), fun hne => ?_⟩
  have hl : l ≠ [] := fun e => hne (by rw [e]; simp)
  have hk : k < l.length := by
    apply Nat.lt_of_not_le; intro hle; exact hne (List.drop_eq_nil_of_le hle)
  have := h.2 hl
  rw [← List.take_append_drop k l, List.getLast?_append] at this
  cases e : (l.drop k).getLast? with
  | none => rw [List.getLast?_eq_none_iff] at e; exact absurd e hne
  | some v => rw [e] at this; exact this
/-- a row's text, word by word -/
theorem tx_cons (x : Wd) (ws : List Wd) : tx (x :: ws) = x.c ++ 32 :: tx ws := by
  show (x.c ++ [32]) ++ tx ws = _
  rw [List.append_assoc]; rfl
theorem wordS_run : ∀ (cs w r : List Nat) (p : Nat), 32 ∉ cs → wordS w (cs ++ 32 :: r) p = .word (w ++ cs) (p + cs.length + 1)
  | [], w, r, p, _ => by simp only [List.nil_append, List.append_nil, wordS, if_true]; rfl
  | c :: cs, w, r, p, h => by
    have hc : ¬ c = 32 := fun e => h (e ▸ List.mem_cons_self ..)
    simp only [List.cons_append, wordS, if_neg hc]
    rw [wordS_run cs (w ++ [c]) r (p + 1) fun hh => h (List.mem_cons_of_mem _ hh), List.length_cons]
    congr 1
    · simp
    · omega
theorem c_no (x : Wd) : 32 ∉ x.c := by cases x <;> decide
theorem skip_tx (x : Wd) (ws : List Wd) (p : Nat) : skipS (tx (x :: ws)) p = .word x.c (p + x.c.length + 1) := by
  rw [tx_cons]
  have h := c_no x
  obtain ⟨c, cs, e⟩ : ∃ c cs, x.c = c :: cs := by cases x <;> exact ⟨_, _, rfl⟩
  rw [e] at h ⊢
  have hc : ¬ c = 32 := fun e => h (e ▸ List.mem_cons_self ..)
  simp only [List.cons_append, skipS, if_neg hc]
  rw [wordS_run cs [c] _ (p + 1) fun hh => h (List.mem_cons_of_mem _ hh), List.length_cons]
  congr 1; omega
theorem drop_tx {l : List Nat} {p : Nat} {x : Wd} {ws : List Wd} (h : l.drop p = tx (x :: ws)) : l.drop (p + x.c.length + 1) = tx ws := by
  rw [Nat.add_assoc, ← List.drop_drop, h, tx_cons]
  rw [show x.c.length + 1 = (x.c ++ [32]).length by simp, show x.c ++ 32 :: tx ws = (x.c ++ [32]) ++ tx ws by simp, List.drop_left]
theorem okr_tx (ws : List Wd) : Okr (tx ws) := by
  constructor
  · intro c hc
    obtain ⟨t, _, ht⟩ := List.mem_flatMap.mp hc
    rcases List.mem_append.mp ht with h | h
    · have : ∀ c ∈ t.c, c ∈ okC := by cases t <;> decide
      exact .inr (this c h)
    · exact .inl (List.mem_singleton.mp h)
  · intro hne
    induction ws with
    | nil => exact absurd rfl hne
    | cons t ts ih =>
      rw [tx_cons, show t.c ++ 32 :: tx ts = (t.c ++ [32]) ++ tx ts by simp]
      by_cases h : tx ts = []
      · rw [h]; simp
      · rw [List.getLast?_append, ih h]; rfl
end
section
open PySem PySem.W PyProof.Rows PySem.Calls
/-- behind an item of an own iterator -/
def NxOk (h₀ : Heap) (L : Addr) (m : Str → Option Value) (D : Addr) (oD : Obj) (P : News' → Prop) (w : Str) (s : Shared) (r : Option Value) (s₂ : Shared) : Prop :=
  ∃ t h' tk' news', r = some (.str w t) ∧ s₂ = { s with heap := h', toks := tk' } ∧ Fr h₀ L h' m ∧ News h₀ L h' ((D, oD) :: news') ∧ (∀ p ∈ news', p.1 ≠ D) ∧ P news'
theorem upd_D {h₀ h : Heap} {L : Addr} {m : Str → Option Value} {D : Addr} {xs : Array Value} {c : Nat} {news : News'} (f : Array Value → Array Value) (F : Fr h₀ L h m) (N : News h₀ L h ((D, listOf xs c) :: news)) (hD : ∀ p ∈ news, p.1 ≠ D) :
    ∃ c', Fr h₀ L (h.update D (Obj.mapSeq f)) m ∧ News h₀ L (h.update D (Obj.mapSeq f)) ((D, listOf (f xs) c') :: news) := by
  have z := N _ (.head _)
  have hs := Heap.SameBut.update h D (Obj.mapSeq f)
  have ho : (h.update D (Obj.mapSeq f)).get? D = some (Obj.mapSeq f (listOf xs c)) := Heap.get?_update_self _ z.1 rfl
  refine ⟨if (f xs).size == xs.size then c else c + 1, F.change hs z.2.1 z.2.2, ?_⟩
  exact news_set (pre := []) N (fun p hp => nomatch hp) hD hs ho
section
variable {prog : Program} {w : World} {A : Around} {s : Shared} {K : Frag} {C x dx fi fn D : Addr} {h₀ : Heap} {L : Addr} {m : Str → Option Value}
theorem extend_own {R : Result → Shared → Prop} (X₀ : K.In h₀) (P : List Str → News' → Prop) (s₀ : Shared) (Z : Addr → Obj → Shared → Prop) (hx : ∀ rem news, P rem news → (x, instObj C dx) ∈ news ∧ ∃ od, (dx, od) ∈ news)
    (hnext : findIn K (.ref C) "__next__" = some (some (.ref fn))) (hfn : isFn K (.ref fn) = true)
    (step : ∀ oD z rem news s' (E' : Value → Shared → Prop), P (z :: rem) news → Fr h₀ L s'.heap m → News h₀ L s'.heap ((D, oD) :: news) → (∀ p ∈ news, p.1 ≠ D) →
      wpAny (model prog w) A.in1 (call (.ref fn) [.ref x]) (fun v s₂ => NxOk h₀ L m D oD (P rem) z s' (some v) s₂) E' s')
    (stop : ∀ oD news s' (Q' : Value → Shared → Prop) (E' : Value → Shared → Prop), (∃ h t, s' = { s₀ with heap := h, toks := t }) → P [] news → Fr h₀ L s'.heap m → News h₀ L s'.heap ((D, oD) :: news) → (∀ p ∈ news, p.1 ≠ D) →
      wpAny (model prog w) A.in1 (call (.ref fn) [.ref x]) Q' (OwitStop (model prog w) A.in1 (fun r s₂ => r = none ∧ Z D oD s₂) E') s') :
    ∀ (rem : List Str) (acc : List Value) (done : List Str) (c : Nat) (news : News') (s : Shared), (∃ h t, s = { s₀ with heap := h, toks := t }) → P rem news → Fr h₀ L s.heap m → News h₀ L s.heap ((D, listOf acc.toArray c) :: news) → (∀ p ∈ news, p.1 ≠ D) → StrsAre acc done → acc.length + rem.length ≤ 16384 →
      (∀ acc' c' s₂, StrsAre acc' (done ++ rem) → Z D (listOf (List.toArray acc') c') s₂ → R (.ok (.ret .none)) s₂) →
      codeAny (model prog w) A (.builtin "list.extend.loop" ⟨[.ref D, .ref x, .none], []⟩) R s := by
  intro rem
  induction rem with
  | nil =>
    intro acc done c news s hs hP F N hD hacc hz hR
    refine codeAny_builtin PySem.F.entry_extend_loop ?_
    rw [Around.under_plainId PySem.F.plain_extend_loop _]
    show wpAny _ A.in1 (pyNext (.ref x) >>= _) _ _ s
    obtain ⟨a1, od, a2⟩ := hx _ _ hP
    have I := InstAt.of_news N (.tail _ a1) (.tail _ a2)
    refine wpAny_bind (wpAny_mono (owit_next F X₀ I hnext hfn (stop _ news s _ _ hs hP F N hD)) (fun r s₂ hr => ?_) fun _ _ z => z)
    obtain ⟨rfl, hZ⟩ := hr
    exact wpAny_pure (by simpa using hR acc c s₂ (by simpa using hacc) hZ)
  | cons z rem ih =>
    intro acc done c news s hs hP F N hD hacc hz hR
    refine codeAny_builtin PySem.F.entry_extend_loop ?_
    rw [Around.under_plainId PySem.F.plain_extend_loop _]
    show wpAny _ A.in1 (pyNext (.ref x) >>= _) _ _ s
    obtain ⟨a1, od, a2⟩ := hx _ _ hP
    have I := InstAt.of_news N (.tail _ a1) (.tail _ a2)
    refine wpAny_bind (wpAny_mono (owit_next F X₀ I hnext hfn (Q := NxOk h₀ L m D _ (P rem) z s) (wpAny_mono (step _ z rem news s _ hP F N hD) (fun _ _ z => z) fun e s' he => he)) (fun r s₂ hr => ?_) fun _ _ z => z)
    obtain ⟨t, h', tk', news', rfl, rfl, F', N', hD', hP'⟩ := hr
    show wpAny _ A.in1 (updateSeq D (·.push _) >>= _) _ _ _
    refine wpAny_bind (wpAny_updateSeq (N' _ (.head _)).1 rfl ?_ (by rw [List.size_toArray]; simp only [sizeLine]; simp at hz; omega) (by simp only [List.push_toArray, List.size_toArray, List.length_append, List.length_singleton, sizeLine]; simp at hz; omega))
    obtain ⟨c', F2, N2⟩ := upd_D (·.push (Value.str z t)) F' N' hD'
    rw [List.push_toArray] at N2
    refine wpAny_pure ⟨plainId_quiet PySem.F.plain_extend_loop _, ih (acc ++ [.str z t]) (done ++ [z]) c' news' _ (by obtain ⟨h, t, rfl⟩ := hs; exact ⟨_, _, rfl⟩) hP' F2 N2 hD' (strs_snoc hacc) (by simp at hz ⊢; omega) ?_⟩
    intro acc' c'' s₂ hacc' hZ
    exact hR acc' c'' s₂ (by simpa using hacc') hZ
theorem call_list_own {E : Value → Shared → Prop} {Q : Value → Shared → Prop} {news : News'} {rem : List Str} (X₀ : K.In h₀) (P : List Str → News' → Prop) (s₀ : Shared) (Z : Addr → Obj → Shared → Prop) (hx : ∀ rem news, P rem news → (x, instObj C dx) ∈ news ∧ ∃ od, (dx, od) ∈ news)
    (hnext : findIn K (.ref C) "__next__" = some (some (.ref fn))) (hfn : isFn K (.ref fn) = true) (hiter : findIn K (.ref C) "__iter__" = some (some (.ref fi))) (hfi : isFn K (.ref fi) = true)
    (hlen : findIn K (.ref C) "__len__" = some none) (hhint : findIn K (.ref C) "__length_hint__" = some none)
    (F : Fr h₀ L s.heap m) (N : News h₀ L s.heap news) (hP : P rem news) (hz : rem.length ≤ 16384)
    (it : ∀ news s' (Q' : Value → Shared → Prop) (E' : Value → Shared → Prop), Fr h₀ L s'.heap m → News h₀ L s'.heap news → (∀ h' tk', Fr h₀ L h' m → News h₀ L h' news → Q' (.ref x) { s' with heap := h', toks := tk' }) → wpAny (model prog w) A.in1.in1 (call (.ref fi) [.ref x]) Q' E' s')
    (step : ∀ D oD z rem news s' (E' : Value → Shared → Prop), P (z :: rem) news → Fr h₀ L s'.heap m → News h₀ L s'.heap ((D, oD) :: news) → (∀ p ∈ news, p.1 ≠ D) →
      wpAny (model prog w) A.in1.in1 (call (.ref fn) [.ref x]) (fun v s₂ => NxOk h₀ L m D oD (P rem) z s' (some v) s₂) E' s')
    (stop : ∀ D oD news s' (Q' : Value → Shared → Prop) (E' : Value → Shared → Prop), (∃ h t, s' = { s₀ with heap := h, toks := t }) → P [] news → Fr h₀ L s'.heap m → News h₀ L s'.heap ((D, oD) :: news) → (∀ p ∈ news, p.1 ≠ D) →
      wpAny (model prog w) A.in1.in1 (call (.ref fn) [.ref x]) Q' (OwitStop (model prog w) A.in1.in1 (fun r s₂ => r = none ∧ Z D oD s₂) E') s')
    (hs₀ : ∃ h t, s = { s₀ with heap := h, toks := t }) (hQ : ∀ D acc' c' s₂, StrsAre acc' rem → Z D (listOf (List.toArray acc') c') s₂ → Q (.ref D) s₂) :
    wpAny (model prog w) A (call (.type "list") [.ref x]) Q E s := by
  refine callType_codes (Q₁ := fun obj s₁ => obj = .ref s.heap.objs.size ∧ s₁ = { s with heap := s.heap.push { cls := .type "list", data := .seq #[] } }) PySem.F.called_list (PySem.F.typeCall_list_1 _) PySem.F.entry_list_init
    (code_list_new _ ⟨rfl, rfl⟩) fun obj s₁ h₁ => ?_
  obtain ⟨rfl, rfl⟩ := h₁
  have hS : (s.heap.push { cls := .type "list", data := .seq #[] }).get? s.heap.objs.size = some { cls := .type "list", data := .seq #[] } := Heap.get?_push_size _ rfl
  refine ⟨⟨_, hS, rfl⟩, PySem.F.args_list_init_2 _ _, ?_⟩
  have hD : ∀ p ∈ news, p.1 ≠ s.heap.objs.size := fun p hp => Nat.ne_of_lt (Heap.lt_size (N p hp).1)
  have N1 : News h₀ L (s.heap.push (listOf #[] 0)) ((s.heap.objs.size, listOf #[] 0) :: news) := News.push F N _
  have F1 : Fr h₀ L (s.heap.push (listOf #[] 0)) m := F.push _
  generalize hDe : s.heap.objs.size = D at *
  show wpAny _ A.in1.in1 (do let old ← Builtin.List.listItems (.ref D); Builtin.List.listUpdate (.ref D) (fun _ => #[]); letGo old.toList.reverse; Builtin.List.listExtendWith (.ref D) (.ref x) .none) _ _ _
  refine wpAny_bind ?_
  unfold Builtin.List.listItems
  refine wpAny_bind (wpAny_seqItems hS rfl (wpAny_pure ?_))
  show wpAny _ A.in1.in1 (updateSeq D (fun _ => #[]) >>= fun _ => letGo (#[] : Array Value).toList.reverse >>= fun _ => Builtin.List.listExtendWith (.ref D) (.ref x) .none) _ _ _
  refine wpAny_bind (wpAny_updateSeq hS rfl ?_)
  obtain ⟨c2, F2, N2⟩ := upd_D (fun _ => #[]) F1 N1 hD
  refine wpAny_bind (wpAny_letGo ?_)
  obtain ⟨a1, od, a2⟩ := hx _ _ hP
  have I2 := InstAt.of_news N2 (.tail _ a1) (.tail _ a2)
  unfold Builtin.List.listExtendWith
  refine wpAny_bind (I2.type.here ?_)
  have hne : D ≠ x := fun e => hD _ a1 e.symm
  have h1 : Builtin.List.listSameRef (.ref D) (.ref x) = false := by simp [Builtin.List.listSameRef, hne]
  have h2 : (Value.ref C == Value.type "list") = false := rfl
  have h3 : (Value.ref C == Value.type "tuple") = false := rfl
  simp only [h1, h2, h3, Bool.or_false, Bool.false_eq_true, if_false]
  refine wpAny_bind (owit_iter F2 X₀ I2 hiter hfi (it _ _ _ _ F2 N2 fun h3 tk3 F3 N3 => ?_))
  have I3 := InstAt.of_news N3 (.tail _ a1) (.tail _ a2)
  refine owit_it F3 X₀ I3 hnext ?_
  refine wpAny_bind (wpAny_holding ?_)
  unfold Builtin.List.listLengthHint
  refine wpAny_bind (wpAny_bind (I3.type.here ((looks_findIn (X₀.keeps F3.keep) hlen).here ?_)))
  show wpAny _ A.in1.in1 (specialOf (Value.ref x) (Str.ofString "__length_hint__") >>= _) _ _ _
  refine wpAny_bind (wpAny_bind (I3.type.here ((looks_findIn (X₀.keeps F3.keep) hhint).here ?_)))
  refine wpAny_pure ?_
  show wpAny _ A.in1.in1 (rule "list.extend.makes-room" >>= fun _ => Builtin.List.listTouch (.ref D) >>= fun _ =>
    again (.builtin "list.extend.loop" ⟨[.ref D, .ref x, .none], []⟩)) _ _ _
  refine wpAny_bind (wpAny_rule ?_)
  refine wpAny_bind ?_
  show wpAny _ A.in1.in1 (updateSeq D (·.push .none) >>= fun _ => updateSeq D (·.pop)) _ _ _
  refine wpAny_bind (wpAny_updateSeq (N3 _ (.head _)).1 rfl ?_)
  obtain ⟨c4, F4, N4⟩ := upd_D (·.push .none) F3 N3 hD
  refine wpAny_updateSeq (N4 _ (.head _)).1 rfl ?_ (by decide) (by decide)
  obtain ⟨c5, F5, N5⟩ := upd_D (·.pop) F4 N4 hD
  refine wpAny_pure ⟨plainId_quiet PySem.F.plain_extend_loop _, extend_own (A := A.in1) (acc := []) (done := []) (rem := rem) X₀ P s₀ Z hx hnext hfn (step D) (stop D) c5 news _ (by obtain ⟨h, t, e⟩ := hs₀; subst e; exact ⟨_, _, rfl⟩) hP F5 N5 hD .nil (by simpa using hz) fun acc' c' s₂ a b => ?_⟩
  exact ⟨rfl, hQ D acc' c' s₂ (by simpa using a) b⟩
end
end
section
open PySem PySem.W PyProof.Rows PySem.Calls
theorem own_stop {M : Model} {A A₀ : Around} {base G g : Heap} {L a e t : Addr} {name : Str} {scope : Scope} {cd : Value} {cl : List (Str × Addr)} {outer : List Env} {X : String} {vs : List Value} {news : News'} {m : Str → Option Value} {s : Shared} {Q : Option Value → Shared → Prop} {E : Value → Shared → Prop}
    (R : RaisedS base G (envX name scope L a cd cl :: outer) e (.type X) t vs news s.heap) (K : Below A₀ base outer g) (hsm : G.UpToSlots s.heap) (F : Fr g L G m) (hsub : isSubtype (.type X) (.type "StopIteration") = pure true)
    (k : ∀ g₂, KtsTurn (outer.filterMap (·.frame)) g g₂ → Fr g₂ L s.heap m → Below A₀ base outer g₂ → News g₂ L s.heap news → Q none s) : OwitStop M A Q E (.ref e) s := by
  obtain ⟨⟨B, hB, hBG, hl, hfl, _⟩, _⟩ := R
  have hL : B.get? L = none := by
    obtain ⟨_, ⟨L', _, hf, hn', _⟩, _⟩ := hfl.2.2.1
    obtain rfl : L = L' := Option.some.inj hf
    exact hn'
  have hf' := flyingW_base hB hfl
  obtain ⟨ob, hob, hobc⟩ := hf'.there
  have hT : s.TypeIs (.ref e) X := (show ∃ o, s.heap.get? e = some o ∧ o.cls = .type X from ⟨ob, hob, hobc⟩)
  unfold OwitStop
  refine wpAny_isInstance hT hsub ?_
  show (if true = true then Q none s else E (.ref e) s)
  rw [if_pos rfl]
  have hBG' : ∀ b o, G.get? b = some o → b ∉ (envOf name scope L a cd :: outer).filterMap (·.frame) → B.get? b = some o := hBG
  obtain ⟨g₂, T, F₂, K₂⟩ := kts_ground K F hBG' hfl.1 hsm
  exact k g₂ T F₂ K₂ fun q hq => ⟨hfl.1 _ _ (hl q hq).1, (fun z => by have := (hl q hq).1; rw [z, hL] at this; cases this), T.none_ _ (kts_none F.keep (hl q hq).2.1)⟩
end
section
local macro_rules | `(tactic| ktr_units) => `(tactic| k_extra "w48")
local macro_rules | `(tactic| ktr_room) => `(tactic| k_extra "w49")
section
open PySem PySem.W PyProof.Rows
theorem ws_NX : True := by
  (k_with_none; (k_with "w1" => ((refine' code_def ?k1 ?k2 ?k3 ?k4 ?k5 ?kA ?kF ?kK ?k6 ?k7 ?k8 ?k9 ?kB ?_ ?c2 ?c3 ?c4 ?c5; (case kA => exact rfl); (case kF => exact rfl); (case kK => first | (with_reducible assumption) | assumption); (case k1 => k_asm); (case k2 => k_asm); (case k3 => k_asm); (case k4 => k_asm); (case k5 => k_asm); (case k6 => k_is); (case k7 => k_is); (case k8 => ktr_room); (case k9 => first | exact BindsTo.of_eq rfl | exact binds_K (by k_in) rfl (by k_is) rfl rfl rfl); (case c5 => decide); (case kB => exact locs rfl); (case c2 => exact rfl); (case c3 => exact rfl); (case c4 => exact rfl); k_whole; intro g'zz L'zz h'zz FG'zz F'zz N'zz B'zz X'zz T'zz; (try dsimp only); (try k_fold)))); (k_with "w2" => (((case k1 => k_asm); (case k2 => k_asm); (case k3 => k_asm); (case k4 => k_asm); (case k5 => k_asm); (case kK => first | (with_reducible assumption) | exact rfl | assumption); (case kd => ktr_room); (case ku => ktr_units)))); (k_with "w3" => (first | (refine in_has (b := false) ?hh ?_; (case hh => first | assumption | decide +kernel)) | (refine in_has (b := true) ?hh ?_; (case hh => first | assumption | decide +kernel)) | (refine in_has rfl ?_))); (k_with "w4" => (first | (refine notin_has (b := false) ?hh ?_; (case hh => first | assumption | decide +kernel)) | (refine notin_has (b := true) ?hh ?_; (case hh => first | assumption | decide +kernel)))); (k_with "w5" => (first | (refine eq_b (b := false) ?hh ?_; (case hh => first | assumption | decide +kernel)) | (refine eq_b (b := true) ?hh ?_; (case hh => first | assumption | decide +kernel)))); (k_with "w6" => (((first | (refine truthy_b (b := true) ?hh ?hl ?_; (case hh => first | assumption | exact full_one _ | decide +kernel); (case hl => first | assumption | exact one_short _ | decide +kernel)) | (refine truthy_b (b := false) ?hh ?hl ?_; (case hh => first | assumption | decide +kernel); (case hl => first | assumption | decide +kernel))); intro _))); (k_with "w7" => ((refine' kp_both ?k1 ?k2 ?k3 ?k4 ?k5 ?kA ?kF ?kK ?k6 ?k7 ?k8 ?kV ?kX ?kQ ?kM ?kN ?kD ?kR ?kP ?kS ?kT ?kB ?_ ?c2 ?c3 ?c4 ?c5; (case kA => exact rfl); (case kF => exact rfl); (case kK => first | (with_reducible assumption) | assumption); (case k1 => k_asm); (case k2 => k_asm); (case k3 => k_asm); (case k4 => k_asm); (case k5 => k_asm); (case k6 => k_is); (case k7 => k_is); (case k8 => ktr_room); (case kV => kp_lit); (case kX => kp_lit); (case kQ => exact rfl); (case kM => exact rfl); (case kN => exact rfl); (case kD => kp_flats); (case kR => exact rfl); (case kP => exact rfl); (case kS => exact fun _ => rfl); (case kT => exact fun _ _ => rfl); (case kB => exact fun _ _ => locs rfl); (case c5 => decide); (case c2 => exact rfl); (case c3 => exact rfl); (case c4 => exact rfl); k_whole; intro C'zz D'zz o'zz g'zz L'zz h'zz tk'zz l1zz l2zz lo'zz hs'zz fs'zz FG'zz F'zz N'zz B'zz X'zz T'zz; (try k_lt l1zz); (try k_lt2 l2zz); (try dsimp only); (try k_fold)))); (k_with "w8" => (((with_reducible show wpAny _ _ (callWith _ (Value.builtin _) (_ :: _) (backTo _ (starEach (_ :: _) _)) []) _ _ _); refine callWith_method1 ?_))); (k_with "w9" => ((k_here; k_dflt (refine' get_own ?k1 ?k2 ?k3 ?k4 ?k5 ?k6 ?k7 ?k8 ?k9 ?_; (case k1 => k_asm); (case k2 => k_asm); (case k3 => k_inst); (case k4 => k_is); (case k5 => k_is); (case k6 => k_is); (case k7 => k_is); (case k8 => k_get); (case k9 => k_handed); k_whole)))); (k_with "w10" => (((repeat (first | (with_reducible exact List.forall_mem_nil _) | (intro pzz hpzz; (repeat (first | (with_reducible exact hpzz) | (with_reducible refine List.mem_cons_of_mem _ ?_))); done) | (refine List.forall_mem_cons.mpr ⟨by k_mem, ?_⟩))); first | done | (intro pzz hpzz; repeat (first | exact hpzz | apply List.Mem.tail))))); (k_with "w48" => ((have hcL9zz := cLine_is; (try simp only [units_make, units_in1, units_deeper, Around.mark_units, units_caller] at *); (try dsimp only [ktrTop] at *); omega))); (k_with "w49" => (((try simp only [depth_make, depth_in1, depth_deeper, depth_caller] at *); (try dsimp only [ktrTop] at *); (try simp only [recursionLimit] at *); omega))); (k_with "w34" => ((k_here; (refine' leave_raiseS ?k1 ?k0 ?k2 ?k3 ?_; (case k0 => exact Heap.MadeExc.of (by assumption)); (case k2 => assumption); (case k1 => assumption); (case k3 => k_asm); k_whole; intro h'zz t'zz S'zz R'zz U'zz; (try dsimp only at S'zz R'zz U'zz ⊢))))); trivial)
set_option maxRecDepth 100000 in
set_option maxHeartbeats 0 in
theorem c_nextW (w p loose mean mg mb) (rest : News') (lx dlx pb fs : Addr) (ks vs : Nat → Tok) (cm : Str) (hcm : ∀ c ∈ okC, has cm ⟨#[c]⟩ = false) (n : Int) (x : Fm) (s1 s2 : Tok) (hx : FmOk x) (hnd : ND 6 (gLed w.params lx dlx pb fs rest ks vs cm n x [] (.str (Str.ofString " ") s1) (.str (Str.ofString "") s2))) (wd : List Nat) (x' : Fm) (st' : List Fm) (hG : getS [] x = some (wd, x', st')) :
   Ctr w p loose mean mg mb (.ref 735) [.ref lx] [] (gLed w.params lx dlx pb fs rest ks vs cm n x [] (.str (Str.ofString " ") s1) (.str (Str.ofString "") s2)) 12 200
      (fun r news' => GPost w.params lx dlx pb fs rest ks vs cm x [] r news') := by
  intro dp un gd cn cs a ccd cl outer A₀ base h₀ L m s Q E B F X N T hk hd hu hret
  refine wpAny_call ?_
  k_dflt (walk_at "mine:enter")
  (k_with_none; (k_with "w1" => ((refine' code_def ?k1 ?k2 ?k3 ?k4 ?k5 ?kA ?kF ?kK ?k6 ?k7 ?k8 ?k9 ?kB ?_ ?c2 ?c3 ?c4 ?c5; (case kA => exact rfl); (case kF => exact rfl); (case kK => first | (with_reducible assumption) | assumption); (case k1 => k_asm); (case k2 => k_asm); (case k3 => k_asm); (case k4 => k_asm); (case k5 => k_asm); (case k6 => k_is); (case k7 => k_is); (case k8 => ktr_room); (case k9 => first | exact BindsTo.of_eq rfl | exact binds_K (by k_in) rfl (by k_is) rfl rfl rfl); (case c5 => decide); (case kB => exact locs rfl); (case c2 => exact rfl); (case c3 => exact rfl); (case c4 => exact rfl); k_whole; intro g'zz L'zz h'zz FG'zz F'zz N'zz B'zz X'zz T'zz; (try dsimp only); (try k_fold)))); (k_with "w2" => (((case k1 => k_asm); (case k2 => k_asm); (case k3 => k_asm); (case k4 => k_asm); (case k5 => k_asm); (case kK => first | (with_reducible assumption) | exact rfl | assumption); (case kd => ktr_room); (case ku => ktr_units)))); (k_with "w3" => (first | (refine in_has (b := false) ?hh ?_; (case hh => first | assumption | decide +kernel)) | (refine in_has (b := true) ?hh ?_; (case hh => first | assumption | decide +kernel)) | (refine in_has rfl ?_))); (k_with "w4" => (first | (refine notin_has (b := false) ?hh ?_; (case hh => first | assumption | decide +kernel)) | (refine notin_has (b := true) ?hh ?_; (case hh => first | assumption | decide +kernel)))); (k_with "w5" => (first | (refine eq_b (b := false) ?hh ?_; (case hh => first | assumption | decide +kernel)) | (refine eq_b (b := true) ?hh ?_; (case hh => first | assumption | decide +kernel)))); (k_with "w6" => (((first | (refine truthy_b (b := true) ?hh ?hl ?_; (case hh => first | assumption | exact full_one _ | decide +kernel); (case hl => first | assumption | exact one_short _ | decide +kernel)) | (refine truthy_b (b := false) ?hh ?hl ?_; (case hh => first | assumption | decide +kernel); (case hl => first | assumption | decide +kernel))); intro _))); (k_with "w7" => ((refine' kp_both ?k1 ?k2 ?k3 ?k4 ?k5 ?kA ?kF ?kK ?k6 ?k7 ?k8 ?kV ?kX ?kQ ?kM ?kN ?kD ?kR ?kP ?kS ?kT ?kB ?_ ?c2 ?c3 ?c4 ?c5; (case kA => exact rfl); (case kF => exact rfl); (case kK => first | (with_reducible assumption) | assumption); (case k1 => k_asm); (case k2 => k_asm); (case k3 => k_asm); (case k4 => k_asm); (case k5 => k_asm); (case k6 => k_is); (case k7 => k_is); (case k8 => ktr_room); (case kV => kp_lit); (case kX => kp_lit); (case kQ => exact rfl); (case kM => exact rfl); (case kN => exact rfl); (case kD => kp_flats); (case kR => exact rfl); (case kP => exact rfl); (case kS => exact fun _ => rfl); (case kT => exact fun _ _ => rfl); (case kB => exact fun _ _ => locs rfl); (case c5 => decide); (case c2 => exact rfl); (case c3 => exact rfl); (case c4 => exact rfl); k_whole; intro C'zz D'zz o'zz g'zz L'zz h'zz tk'zz l1zz l2zz lo'zz hs'zz fs'zz FG'zz F'zz N'zz B'zz X'zz T'zz; (try k_lt l1zz); (try k_lt2 l2zz); (try dsimp only); (try k_fold)))); (k_with "w8" => (((with_reducible show wpAny _ _ (callWith _ (Value.builtin _) (_ :: _) (backTo _ (starEach (_ :: _) _)) []) _ _ _); refine callWith_method1 ?_))); (k_with "w9" => ((k_here; k_dflt (refine' get_own ?k1 ?k2 ?k3 ?k4 ?k5 ?k6 ?k7 ?k8 ?k9 ?_; (case k1 => k_asm); (case k2 => k_asm); (case k3 => k_inst); (case k4 => k_is); (case k5 => k_is); (case k6 => k_is); (case k7 => k_is); (case k8 => k_get); (case k9 => k_handed); k_whole)))); (k_with "w10" => (((repeat (first | (with_reducible exact List.forall_mem_nil _) | (intro pzz hpzz; (repeat (first | (with_reducible exact hpzz) | (with_reducible refine List.mem_cons_of_mem _ ?_))); done) | (refine List.forall_mem_cons.mpr ⟨by k_mem, ?_⟩))); first | done | (intro pzz hpzz; repeat (first | exact hpzz | apply List.Mem.tail))))); (k_with "w48" => ((have hcL9zz := cLine_is; (try simp only [units_make, units_in1, units_deeper, Around.mark_units, units_caller] at *); (try dsimp only [ktrTop] at *); omega))); (k_with "w49" => (((try simp only [depth_make, depth_in1, depth_deeper, depth_caller] at *); (try dsimp only [ktrTop] at *); (try simp only [recursionLimit] at *); omega))); (k_with "w34" => ((k_here; (refine' leave_raiseS ?k1 ?k0 ?k2 ?k3 ?_; (case k0 => exact Heap.MadeExc.of (by assumption)); (case k2 => assumption); (case k1 => assumption); (case k3 => k_asm); k_whole; intro h'zz t'zz S'zz R'zz U'zz; (try dsimp only at S'zz R'zz U'zz ⊢))))); skip)
  (k_with "mine:call ref" => (k_dflt (refine' ctr_use (c_get0 _ _ _ _ _ _ _ _ _ _ _ _ _ _ hcm _ _ _ _ hx hnd) ?k1 ?k2 ?k3 ?k4 ?k5 ?kK ?kd ?ku ?_; walk_at "mine:call"); intro r9 n9 h9 tk9 F9 N9 P9; (have P8 := P9); unfold GPost at P9; rw [hG] at P9; dsimp only at P9; obtain ⟨⟨t9, e9⟩, n9, u9, s8, s9, e9'⟩ := P9; subst e9 e9'; (try dsimp only)))
  k_steps
  all_goals exact hret _ _ _ _ (by k_asm) (by k_asm) P8
set_option maxRecDepth 100000 in
set_option maxHeartbeats 0 in
theorem c_nextE (w p loose mean mg mb) (rest : News') (lx dlx pb fs : Addr) (ks vs : Nat → Tok) (cm : Str) (hcm : ∀ c ∈ okC, has cm ⟨#[c]⟩ = false) (n : Int) (x : Fm) (s1 s2 : Tok) (hx : FmOk x) (hnd : ND 6 (gLed w.params lx dlx pb fs rest ks vs cm n x [] (.str (Str.ofString " ") s1) (.str (Str.ofString "") s2))) (hG : getS [] x = none)
    (dp un : Nat) (gd : Option (List Code)) (cn : Str) (cs : Scope) (a : Addr) (ccd : Value) (cl : List (Str × Addr)) (outer : List Env) (A₀ : Around) (base h₀ : Heap) (L : Addr) (m : Str → Option Value) (s : Shared) (Q : Value → Shared → Prop) (Q' : Option Value → Shared → Prop) (E : Value → Shared → Prop)
    (B : Below A₀ base outer h₀) (F : Fr h₀ L s.heap m) (X : (hd.heap_1 w.params).In h₀) (N : News h₀ L s.heap (gLed w.params lx dlx pb fs rest ks vs cm n x [] (.str (Str.ofString " ") s1) (.str (Str.ofString "") s2))) (T : Top p loose mean mg mb h₀) (hk : cs.kind = .function)
    (hd : dp + 12 < recursionLimit) (hu : un + 200 < cLine)
    (hret : ∀ (n : Int) (x' : Fm) (s3 : Tok) (h' : Heap) (tk' : Nat) (g₂ : Heap), KtsTurn (outer.filterMap (·.frame)) h₀ g₂ → Fr g₂ L h' m → Below A₀ base outer g₂ → News g₂ L h' (gLed w.params lx dlx pb fs rest ks vs cm n x' [] .none (.str (Str.ofString "") s3)) → Q' none { s with heap := h', toks := tk' }) :
    wpAny (model PR w) (ktrTop dp un gd cn cs L a ccd cl outer) (call (.ref 735) [.ref lx]) Q (OwitStop (model PR w) (ktrTop dp un gd cn cs L a ccd cl outer) Q' E) s := by
  refine wpAny_call ?_
  k_dflt (walk_at "mine:enter")
  (k_with_none; (k_with "w1" => ((refine' code_def ?k1 ?k2 ?k3 ?k4 ?k5 ?kA ?kF ?kK ?k6 ?k7 ?k8 ?k9 ?kB ?_ ?c2 ?c3 ?c4 ?c5; (case kA => exact rfl); (case kF => exact rfl); (case kK => first | (with_reducible assumption) | assumption); (case k1 => k_asm); (case k2 => k_asm); (case k3 => k_asm); (case k4 => k_asm); (case k5 => k_asm); (case k6 => k_is); (case k7 => k_is); (case k8 => ktr_room); (case k9 => first | exact BindsTo.of_eq rfl | exact binds_K (by k_in) rfl (by k_is) rfl rfl rfl); (case c5 => decide); (case kB => exact locs rfl); (case c2 => exact rfl); (case c3 => exact rfl); (case c4 => exact rfl); k_whole; intro g'zz L'zz h'zz FG'zz F'zz N'zz B'zz X'zz T'zz; (try dsimp only); (try k_fold)))); (k_with "w2" => (((case k1 => k_asm); (case k2 => k_asm); (case k3 => k_asm); (case k4 => k_asm); (case k5 => k_asm); (case kK => first | (with_reducible assumption) | exact rfl | assumption); (case kd => ktr_room); (case ku => ktr_units)))); (k_with "w3" => (first | (refine in_has (b := false) ?hh ?_; (case hh => first | assumption | decide +kernel)) | (refine in_has (b := true) ?hh ?_; (case hh => first | assumption | decide +kernel)) | (refine in_has rfl ?_))); (k_with "w4" => (first | (refine notin_has (b := false) ?hh ?_; (case hh => first | assumption | decide +kernel)) | (refine notin_has (b := true) ?hh ?_; (case hh => first | assumption | decide +kernel)))); (k_with "w5" => (first | (refine eq_b (b := false) ?hh ?_; (case hh => first | assumption | decide +kernel)) | (refine eq_b (b := true) ?hh ?_; (case hh => first | assumption | decide +kernel)))); (k_with "w6" => (((first | (refine truthy_b (b := true) ?hh ?hl ?_; (case hh => first | assumption | exact full_one _ | decide +kernel); (case hl => first | assumption | exact one_short _ | decide +kernel)) | (refine truthy_b (b := false) ?hh ?hl ?_; (case hh => first | assumption | decide +kernel); (case hl => first | assumption | decide +kernel))); intro _))); (k_with "w7" => ((refine' kp_both ?k1 ?k2 ?k3 ?k4 ?k5 ?kA ?kF ?kK ?k6 ?k7 ?k8 ?kV ?kX ?kQ ?kM ?kN ?kD ?kR ?kP ?kS ?kT ?kB ?_ ?c2 ?c3 ?c4 ?c5; (case kA => exact rfl); (case kF => exact rfl); (case kK => first | (with_reducible assumption) | assumption); (case k1 => k_asm); (case k2 => k_asm); (case k3 => k_asm); (case k4 => k_asm); (case k5 => k_asm); (case k6 => k_is); (case k7 => k_is); (case k8 => ktr_room); (case kV => kp_lit); (case kX => kp_lit); (case kQ => exact rfl); (case kM => exact rfl); (case kN => exact rfl); (case kD => kp_flats); (case kR => exact rfl); (case kP => exact rfl); (case kS => exact fun _ => rfl); (case kT => exact fun _ _ => rfl); (case kB => exact fun _ _ => locs rfl); (case c5 => decide); (case c2 => exact rfl); (case c3 => exact rfl); (case c4 => exact rfl); k_whole; intro C'zz D'zz o'zz g'zz L'zz h'zz tk'zz l1zz l2zz lo'zz hs'zz fs'zz FG'zz F'zz N'zz B'zz X'zz T'zz; (try k_lt l1zz); (try k_lt2 l2zz); (try dsimp only); (try k_fold)))); (k_with "w8" => (((with_reducible show wpAny _ _ (callWith _ (Value.builtin _) (_ :: _) (backTo _ (starEach (_ :: _) _)) []) _ _ _); refine callWith_method1 ?_))); (k_with "w9" => ((k_here; k_dflt (refine' get_own ?k1 ?k2 ?k3 ?k4 ?k5 ?k6 ?k7 ?k8 ?k9 ?_; (case k1 => k_asm); (case k2 => k_asm); (case k3 => k_inst); (case k4 => k_is); (case k5 => k_is); (case k6 => k_is); (case k7 => k_is); (case k8 => k_get); (case k9 => k_handed); k_whole)))); (k_with "w10" => (((repeat (first | (with_reducible exact List.forall_mem_nil _) | (intro pzz hpzz; (repeat (first | (with_reducible exact hpzz) | (with_reducible refine List.mem_cons_of_mem _ ?_))); done) | (refine List.forall_mem_cons.mpr ⟨by k_mem, ?_⟩))); first | done | (intro pzz hpzz; repeat (first | exact hpzz | apply List.Mem.tail))))); (k_with "w48" => ((have hcL9zz := cLine_is; (try simp only [units_make, units_in1, units_deeper, Around.mark_units, units_caller] at *); (try dsimp only [ktrTop] at *); omega))); (k_with "w49" => (((try simp only [depth_make, depth_in1, depth_deeper, depth_caller] at *); (try dsimp only [ktrTop] at *); (try simp only [recursionLimit] at *); omega))); (k_with "w34" => ((k_here; (refine' leave_raiseS ?k1 ?k0 ?k2 ?k3 ?_; (case k0 => exact Heap.MadeExc.of (by assumption)); (case k2 => assumption); (case k1 => assumption); (case k3 => k_asm); k_whole; intro h'zz t'zz S'zz R'zz U'zz; (try dsimp only at S'zz R'zz U'zz ⊢))))); skip)
  (k_with "mine:call ref" => (k_dflt (refine' ctr_use (c_get0 _ _ _ _ _ _ _ _ _ _ _ _ _ _ hcm _ _ _ _ hx hnd) ?k1 ?k2 ?k3 ?k4 ?k5 ?kK ?kd ?ku ?_; walk_at "mine:call"); intro r9 n9 h9 tk9 F9 N9 P9; unfold GPost at P9; rw [hG] at P9; dsimp only at P9; obtain ⟨e9, n9, x9, s9, e9'⟩ := P9; subst e9 e9'; (try dsimp only)))
  k_steps
  rename RaisedS _ _ _ _ _ _ _ _ _ => rS
  rename Heap.UpToSlots _ _ => rU
  rename Fr h₀ _ _ _ => rF0
  refine own_stop rS B rU rF0 (by first | rfl | kernel_rfl | decide) fun g₂ t2 F2 K2 N2 => ?_
  exact hret _ _ _ _ _ g₂ t2 F2 K2 N2
end
section
open PySem PySem.W PyProof.Rows
theorem ws_LL : True := by
  (k_with_none; (k_with "w1" => ((refine' code_def ?k1 ?k2 ?k3 ?k4 ?k5 ?kA ?kF ?kK ?k6 ?k7 ?k8 ?k9 ?kB ?_ ?c2 ?c3 ?c4 ?c5; (case kA => exact rfl); (case kF => exact rfl); (case kK => first | (with_reducible assumption) | assumption); (case k1 => k_asm); (case k2 => k_asm); (case k3 => k_asm); (case k4 => k_asm); (case k5 => k_asm); (case k6 => k_is); (case k7 => k_is); (case k8 => ktr_room); (case k9 => first | exact BindsTo.of_eq rfl | exact binds_K (by k_in) rfl (by k_is) rfl rfl rfl); (case c5 => decide); (case kB => exact locs rfl); (case c2 => exact rfl); (case c3 => exact rfl); (case c4 => exact rfl); k_whole; intro g'zz L'zz h'zz FG'zz F'zz N'zz B'zz X'zz T'zz; (try dsimp only); (try k_fold)))); (k_with "w2" => (((case k1 => k_asm); (case k2 => k_asm); (case k3 => k_asm); (case k4 => k_asm); (case k5 => k_asm); (case kK => first | (with_reducible assumption) | exact rfl | assumption); (case kd => ktr_room); (case ku => ktr_units)))); (k_with "w3" => (first | (refine in_has (b := false) ?hh ?_; (case hh => first | assumption | decide +kernel)) | (refine in_has (b := true) ?hh ?_; (case hh => first | assumption | decide +kernel)) | (refine in_has rfl ?_))); (k_with "w4" => (first | (refine notin_has (b := false) ?hh ?_; (case hh => first | assumption | decide +kernel)) | (refine notin_has (b := true) ?hh ?_; (case hh => first | assumption | decide +kernel)))); (k_with "w5" => (first | (refine eq_b (b := false) ?hh ?_; (case hh => first | assumption | decide +kernel)) | (refine eq_b (b := true) ?hh ?_; (case hh => first | assumption | decide +kernel)))); (k_with "w6" => (((first | (refine truthy_b (b := true) ?hh ?hl ?_; (case hh => first | assumption | exact full_one _ | decide +kernel); (case hl => first | assumption | exact one_short _ | decide +kernel)) | (refine truthy_b (b := false) ?hh ?hl ?_; (case hh => first | assumption | decide +kernel); (case hl => first | assumption | decide +kernel))); intro _))); (k_with "w7" => ((refine' kp_both ?k1 ?k2 ?k3 ?k4 ?k5 ?kA ?kF ?kK ?k6 ?k7 ?k8 ?kV ?kX ?kQ ?kM ?kN ?kD ?kR ?kP ?kS ?kT ?kB ?_ ?c2 ?c3 ?c4 ?c5; (case kA => exact rfl); (case kF => exact rfl); (case kK => first | (with_reducible assumption) | assumption); (case k1 => k_asm); (case k2 => k_asm); (case k3 => k_asm); (case k4 => k_asm); (case k5 => k_asm); (case k6 => k_is); (case k7 => k_is); (case k8 => ktr_room); (case kV => kp_lit); (case kX => kp_lit); (case kQ => exact rfl); (case kM => exact rfl); (case kN => exact rfl); (case kD => kp_flats); (case kR => exact rfl); (case kP => exact rfl); (case kS => exact fun _ => rfl); (case kT => exact fun _ _ => rfl); (case kB => exact fun _ _ => locs rfl); (case c5 => decide); (case c2 => exact rfl); (case c3 => exact rfl); (case c4 => exact rfl); k_whole; intro C'zz D'zz o'zz g'zz L'zz h'zz tk'zz l1zz l2zz lo'zz hs'zz fs'zz FG'zz F'zz N'zz B'zz X'zz T'zz; (try k_lt l1zz); (try k_lt2 l2zz); (try dsimp only); (try k_fold)))); (k_with "w8" => (((with_reducible show wpAny _ _ (callWith _ (Value.builtin _) (_ :: _) (backTo _ (starEach (_ :: _) _)) []) _ _ _); refine callWith_method1 ?_))); (k_with "w9" => ((k_here; k_dflt (refine' get_own ?k1 ?k2 ?k3 ?k4 ?k5 ?k6 ?k7 ?k8 ?k9 ?_; (case k1 => k_asm); (case k2 => k_asm); (case k3 => k_inst); (case k4 => k_is); (case k5 => k_is); (case k6 => k_is); (case k7 => k_is); (case k8 => k_get); (case k9 => k_handed); k_whole)))); (k_with "w10" => (((repeat (first | (with_reducible exact List.forall_mem_nil _) | (intro pzz hpzz; (repeat (first | (with_reducible exact hpzz) | (with_reducible refine List.mem_cons_of_mem _ ?_))); done) | (refine List.forall_mem_cons.mpr ⟨by k_mem, ?_⟩))); first | done | (intro pzz hpzz; repeat (first | exact hpzz | apply List.Mem.tail))))); (k_with "w48" => ((have hcL9zz := cLine_is; (try simp only [units_make, units_in1, units_deeper, Around.mark_units, units_caller] at *); (try dsimp only [ktrTop] at *); omega))); (k_with "w49" => (((try simp only [depth_make, depth_in1, depth_deeper, depth_caller] at *); (try dsimp only [ktrTop] at *); (try simp only [recursionLimit] at *); omega))); trivial)
set_option maxRecDepth 100000 in
set_option maxHeartbeats 0 in
theorem c_iter (w p loose mean mg mb) (news : News') (lx : Addr)
   : Ctr w p loose mean mg mb (.ref 728) [.ref lx] [] news 3 40 (fun r news' => r = .ref lx ∧ news' = news) := by
  intro dp un gd cn cs a ccd cl outer A₀ base h₀ L m s Q E B F X N T hk hd hu hret
  refine wpAny_call ?_
  k_dflt (walk_at "mine:enter")
  (k_with_none; (k_with "w1" => ((refine' code_def ?k1 ?k2 ?k3 ?k4 ?k5 ?kA ?kF ?kK ?k6 ?k7 ?k8 ?k9 ?kB ?_ ?c2 ?c3 ?c4 ?c5; (case kA => exact rfl); (case kF => exact rfl); (case kK => first | (with_reducible assumption) | assumption); (case k1 => k_asm); (case k2 => k_asm); (case k3 => k_asm); (case k4 => k_asm); (case k5 => k_asm); (case k6 => k_is); (case k7 => k_is); (case k8 => ktr_room); (case k9 => first | exact BindsTo.of_eq rfl | exact binds_K (by k_in) rfl (by k_is) rfl rfl rfl); (case c5 => decide); (case kB => exact locs rfl); (case c2 => exact rfl); (case c3 => exact rfl); (case c4 => exact rfl); k_whole; intro g'zz L'zz h'zz FG'zz F'zz N'zz B'zz X'zz T'zz; (try dsimp only); (try k_fold)))); (k_with "w2" => (((case k1 => k_asm); (case k2 => k_asm); (case k3 => k_asm); (case k4 => k_asm); (case k5 => k_asm); (case kK => first | (with_reducible assumption) | exact rfl | assumption); (case kd => ktr_room); (case ku => ktr_units)))); (k_with "w3" => (first | (refine in_has (b := false) ?hh ?_; (case hh => first | assumption | decide +kernel)) | (refine in_has (b := true) ?hh ?_; (case hh => first | assumption | decide +kernel)) | (refine in_has rfl ?_))); (k_with "w4" => (first | (refine notin_has (b := false) ?hh ?_; (case hh => first | assumption | decide +kernel)) | (refine notin_has (b := true) ?hh ?_; (case hh => first | assumption | decide +kernel)))); (k_with "w5" => (first | (refine eq_b (b := false) ?hh ?_; (case hh => first | assumption | decide +kernel)) | (refine eq_b (b := true) ?hh ?_; (case hh => first | assumption | decide +kernel)))); (k_with "w6" => (((first | (refine truthy_b (b := true) ?hh ?hl ?_; (case hh => first | assumption | exact full_one _ | decide +kernel); (case hl => first | assumption | exact one_short _ | decide +kernel)) | (refine truthy_b (b := false) ?hh ?hl ?_; (case hh => first | assumption | decide +kernel); (case hl => first | assumption | decide +kernel))); intro _))); (k_with "w7" => ((refine' kp_both ?k1 ?k2 ?k3 ?k4 ?k5 ?kA ?kF ?kK ?k6 ?k7 ?k8 ?kV ?kX ?kQ ?kM ?kN ?kD ?kR ?kP ?kS ?kT ?kB ?_ ?c2 ?c3 ?c4 ?c5; (case kA => exact rfl); (case kF => exact rfl); (case kK => first | (with_reducible assumption) | assumption); (case k1 => k_asm); (case k2 => k_asm); (case k3 => k_asm); (case k4 => k_asm); (case k5 => k_asm); (case k6 => k_is); (case k7 => k_is); (case k8 => ktr_room); (case kV => kp_lit); (case kX => kp_lit); (case kQ => exact rfl); (case kM => exact rfl); (case kN => exact rfl); (case kD => kp_flats); (case kR => exact rfl); (case kP => exact rfl); (case kS => exact fun _ => rfl); (case kT => exact fun _ _ => rfl); (case kB => exact fun _ _ => locs rfl); (case c5 => decide); (case c2 => exact rfl); (case c3 => exact rfl); (case c4 => exact rfl); k_whole; intro C'zz D'zz o'zz g'zz L'zz h'zz tk'zz l1zz l2zz lo'zz hs'zz fs'zz FG'zz F'zz N'zz B'zz X'zz T'zz; (try k_lt l1zz); (try k_lt2 l2zz); (try dsimp only); (try k_fold)))); (k_with "w8" => (((with_reducible show wpAny _ _ (callWith _ (Value.builtin _) (_ :: _) (backTo _ (starEach (_ :: _) _)) []) _ _ _); refine callWith_method1 ?_))); (k_with "w9" => ((k_here; k_dflt (refine' get_own ?k1 ?k2 ?k3 ?k4 ?k5 ?k6 ?k7 ?k8 ?k9 ?_; (case k1 => k_asm); (case k2 => k_asm); (case k3 => k_inst); (case k4 => k_is); (case k5 => k_is); (case k6 => k_is); (case k7 => k_is); (case k8 => k_get); (case k9 => k_handed); k_whole)))); (k_with "w10" => (((repeat (first | (with_reducible exact List.forall_mem_nil _) | (intro pzz hpzz; (repeat (first | (with_reducible exact hpzz) | (with_reducible refine List.mem_cons_of_mem _ ?_))); done) | (refine List.forall_mem_cons.mpr ⟨by k_mem, ?_⟩))); first | done | (intro pzz hpzz; repeat (first | exact hpzz | apply List.Mem.tail))))); (k_with "w48" => ((have hcL9zz := cLine_is; (try simp only [units_make, units_in1, units_deeper, Around.mark_units, units_caller] at *); (try dsimp only [ktrTop] at *); omega))); (k_with "w49" => (((try simp only [depth_make, depth_in1, depth_deeper, depth_caller] at *); (try dsimp only [ktrTop] at *); (try simp only [recursionLimit] at *); omega))); skip)
  k_steps
  all_goals exact hret _ _ _ _ (by k_asm) (by k_asm) ⟨rfl, rfl⟩
/-- words that are still to come -/
def LP (P : Params) (lx dlx pb fs : Addr) (rest : News') (ks vs : Nat → Tok) (cm : Str) (rem : List Str) (news : News') : Prop :=
  ∃ (n : Int) (x : Fm) (s1 s2 : Tok), FmOk x ∧ ND 6 (gLed P lx dlx pb fs rest ks vs cm n x [] (.str (Str.ofString " ") s1) (.str (Str.ofString "") s2)) ∧ news = gLed P lx dlx pb fs rest ks vs cm n x [] (.str (Str.ofString " ") s1) (.str (Str.ofString "") s2) ∧ (lexW [] (x.l.drop x.p)).map (fun y => (⟨y.toArray⟩ : Str)) = rem
def LZ (P : Params) (lx dlx pb fs : Addr) (rest : News') (ks vs : Nat → Tok) (cm : Str) (A₀ : Around) (base h₀ : Heap) (outer : List Env) (L : Addr) (m : Str → Option Value) (s : Shared) (D : Addr) (oD : Obj) (s₂ : Shared) : Prop :=
  ∃ (n : Int) (x' : Fm) (s3 : Tok) (h' : Heap) (tk' : Nat) (g₂ : Heap), s₂ = { s with heap := h', toks := tk' } ∧ KtsTurn (outer.filterMap (·.frame)) h₀ g₂ ∧ Fr g₂ L h' m ∧ Below A₀ base outer g₂ ∧ News g₂ L h' ((D, oD) :: gLed P lx dlx pb fs rest ks vs cm n x' [] .none (.str (Str.ofString "") s3))
theorem off_rest {P : Params} {lx dlx pb fs : Addr} {rest : News'} {ks vs : Nat → Tok} {cm : Str} {n n' : Int} {x x' : Fm} {v1 v2 v3 v4 : Value} {D : Addr} (e1 : x'.io = x.io) (e2 : x'.dio = x.dio)
    (h : ∀ p ∈ gLed P lx dlx pb fs rest ks vs cm n x [] v1 v2, p.1 ≠ D) : ∀ p ∈ gLed P lx dlx pb fs rest ks vs cm n' x' [] v3 v4, p.1 ≠ D := by
  simp only [gLed, rtLed, fmsLed, List.forall_mem_cons] at h ⊢
  rw [e1, e2]; exact h
theorem nd_rest {P : Params} {lx dlx pb fs : Addr} {rest : News'} {ks vs : Nat → Tok} {cm : Str} {n n' : Int} {x x' : Fm} {v1 v2 v3 v4 : Value} (e1 : x'.io = x.io) (e2 : x'.dio = x.dio)
    (h : ND 6 (gLed P lx dlx pb fs rest ks vs cm n x [] v1 v2)) : ND 6 (gLed P lx dlx pb fs rest ks vs cm n' x' [] v3 v4) := by
  simp only [gLed, rtLed, fmsLed, nd_cons, List.forall_mem_cons] at h ⊢
  rw [e1, e2]; exact h
theorem nd_more {P : Params} {lx dlx pb fs : Addr} {rest : News'} {ks vs : Nat → Tok} {cm : Str} {n : Int} {x : Fm} {v1 v2 : Value} {D : Addr} {oD : Obj} (hD : ∀ p ∈ gLed P lx dlx pb fs rest ks vs cm n x [] v1 v2, p.1 ≠ D)
    (h : ND 6 (gLed P lx dlx pb fs rest ks vs cm n x [] v1 v2)) : ND 6 (gLed P lx dlx pb fs ((D, oD) :: rest) ks vs cm n x [] v1 v2) := by
  simp only [gLed, rtLed, fmsLed, nd_cons, List.forall_mem_cons] at h hD ⊢
  obtain ⟨n1, n2, n3, n4, n5, n6, n7⟩ := h
  obtain ⟨d1, d2, d3, d4, d5, d6, d7⟩ := hD
  exact ⟨⟨n1.1, n1.2.1, n1.2.2.1, n1.2.2.2.1, n1.2.2.2.2.1, d1.symm, n1.2.2.2.2.2⟩, ⟨n2.1, n2.2.1, n2.2.2.1, n2.2.2.2.1, d2.symm, n2.2.2.2.2⟩, ⟨n3.1, n3.2.1, n3.2.2.1, d3.symm, n3.2.2.2⟩, ⟨n4.1, n4.2.1, d4.symm, n4.2.2⟩, ⟨n5.1, d5.symm, n5.2⟩, ⟨d6.symm, n6⟩, trivial⟩
theorem perm_in {P : Params} {lx dlx pb fs : Addr} {rest : News'} {ks vs : Nat → Tok} {cm : Str} {n : Int} {x : Fm} {v1 v2 : Value} {D : Addr} {oD : Obj} {h₀ h : Heap} {L : Addr} (N : News h₀ L h ((D, oD) :: gLed P lx dlx pb fs rest ks vs cm n x [] v1 v2)) :
    News h₀ L h (gLed P lx dlx pb fs ((D, oD) :: rest) ks vs cm n x [] v1 v2) := by
  refine N.perm ?_
  simp only [gLed, rtLed, fmsLed, List.forall_mem_cons]
  refine ⟨by simp, by simp, by simp, by simp, by simp, by simp, by simp, fun q hq => by simp [hq]⟩
theorem perm_out {P : Params} {lx dlx pb fs : Addr} {rest : News'} {ks vs : Nat → Tok} {cm : Str} {n : Int} {x : Fm} {v1 v2 : Value} {D : Addr} {oD : Obj} {h₀ h : Heap} {L : Addr} (N : News h₀ L h (gLed P lx dlx pb fs ((D, oD) :: rest) ks vs cm n x [] v1 v2)) :
    News h₀ L h ((D, oD) :: gLed P lx dlx pb fs rest ks vs cm n x [] v1 v2) := by
  refine N.perm ?_
  simp only [gLed, rtLed, fmsLed, List.forall_mem_cons]
  refine ⟨by simp, by simp, by simp, by simp, by simp, by simp, by simp, fun q hq => by simp [hq]⟩
set_option maxRecDepth 100000 in
set_option maxHeartbeats 0 in
theorem list_lex (w p loose mean mg mb) (rest : News') (lx dlx pb fs : Addr) (ks vs : Nat → Tok) (cm : Str) (hcm : ∀ c ∈ okC, has cm ⟨#[c]⟩ = false) (n : Int) (x : Fm) (s1 s2 : Tok) (hx : FmOk x) (hnd : ND 6 (gLed w.params lx dlx pb fs rest ks vs cm n x [] (.str (Str.ofString " ") s1) (.str (Str.ofString "") s2)))
    (hz : (lexW [] (x.l.drop x.p)).length ≤ 16384)
    (dp un : Nat) (gd : Option (List Code)) (cn : Str) (cs : Scope) (a : Addr) (ccd : Value) (cl : List (Str × Addr)) (outer : List Env) (A₀ : Around) (base h₀ : Heap) (L : Addr) (m : Str → Option Value) (s : Shared) (Q : Value → Shared → Prop) (E : Value → Shared → Prop)
    (B : Below A₀ base outer h₀) (F : Fr h₀ L s.heap m) (X : (hd.heap_1 w.params).In h₀) (N : News h₀ L s.heap (gLed w.params lx dlx pb fs rest ks vs cm n x [] (.str (Str.ofString " ") s1) (.str (Str.ofString "") s2))) (T : Top p loose mean mg mb h₀) (hk : cs.kind = .function)
    (hd : dp + 14 < recursionLimit) (hu : un + 240 < cLine)
    (hret : ∀ (D : Addr) (ys : List Value) (c : Nat) (n : Int) (x' : Fm) (s3 : Tok) (h' : Heap) (tk' : Nat) (g₂ : Heap), StrsAre ys ((lexW [] (x.l.drop x.p)).map (fun y => (⟨y.toArray⟩ : Str))) → KtsTurn (outer.filterMap (·.frame)) h₀ g₂ → Fr g₂ L h' m → Below A₀ base outer g₂ → News g₂ L h' ((D, listOf ys.toArray c) :: gLed w.params lx dlx pb fs rest ks vs cm n x' [] .none (.str (Str.ofString "") s3)) → Q (.ref D) { s with heap := h', toks := tk' }) :
    wpAny (model PR w) (ktrTop dp un gd cn cs L a ccd cl outer) (call (.type "list") [.ref lx]) Q E s := by
  refine call_list_own (K := Mine.hd.heap_1 w.params) (C := 738) (dx := dlx) (fn := 735) (fi := 728) (rem := (lexW [] (x.l.drop x.p)).map (fun y => (⟨y.toArray⟩ : Str))) X (LP w.params lx dlx pb fs rest ks vs cm) s (LZ w.params lx dlx pb fs rest ks vs cm A₀ base h₀ outer L m s)
    ?hx (by k_is) (by k_is) (by k_is) (by k_is) (by k_is) (by k_is) F N ⟨n, x, s1, s2, hx, hnd, rfl, rfl⟩ (by rw [List.length_map]; exact hz) ?it ?step ?stop ⟨_, _, rfl⟩ ?hQ
  case hx =>
    rintro rem news ⟨n, x, s1, s2, _, _, rfl, _⟩
    exact ⟨.tail _ (.tail _ (.head _)), _, .tail _ (.tail _ (.tail _ (.head _)))⟩
  case it =>
    intro news s' Q' E' F' N' h
    refine ctr_use (dp := dp) (un := un + 1 + 1) (c_iter w p loose mean mg mb news lx) B F' X N' T hk (by omega) (by omega) ?_
    rintro r news' h' tk' F2 N2 ⟨rfl, rfl⟩
    exact h h' tk' F2 N2
  case step =>
    rintro D oD z rem news s' E' ⟨n, x, s1, s2, hx, hnd, rfl, hrem⟩ F' N' hD
    rcases skipS_lex (x.l.drop x.p) x.p with ⟨p', e, h⟩ | ⟨wd, p', e, g1, g2, g3, g4⟩
    · rw [h] at hrem; cases hrem
    · rw [g4, List.map_cons] at hrem
      obtain ⟨rfl, rfl⟩ := List.cons.inj hrem
      have hG : getS [] x = some (wd, { x with p := p' }, []) := by unfold getS; rw [e]
      refine ctr_use (dp := dp) (un := un + 1 + 1) (c_nextW w p loose mean mg mb ((D, oD) :: rest) lx dlx pb fs ks vs cm hcm n x s1 s2 hx (nd_more hD hnd) wd _ _ hG) B F' X (perm_in N') T hk (by omega) (by omega) ?_
      intro r news' h' tk' F2 N2 P2
      unfold GPost at P2
      rw [hG] at P2
      obtain ⟨⟨t, rfl⟩, n2, u3, s8, s9, rfl⟩ := P2
      have e' : (x.l.drop x.p).drop (p' - x.p) = x.l.drop p' := by rw [List.drop_drop]; congr 1; omega
      refine ⟨t, h', tk', _, rfl, rfl, F2, perm_out N2, off_rest (x := x) rfl rfl hD, n2, { x with p := p', u3 := u3 }, s8, s9, ⟨?_, hx.2.1, hx.2.2.1, hx.2.2.2⟩, nd_rest (x := x) rfl rfl hnd, rfl, ?_⟩
      · show Okr (x.l.drop p')
        rw [← e']; exact okr_drop hx.1 _
      · show (lexW [] (x.l.drop p')).map _ = _
        rw [e']
  case stop =>
    rintro D oD news s' Q' E' ⟨h9, t9, rfl⟩ ⟨n, x, s1, s2, hx, hnd, rfl, hrem⟩ F' N' hD
    rcases skipS_lex (x.l.drop x.p) x.p with ⟨p', e, h⟩ | ⟨wd, p', e, g1, g2, g3, g4⟩
    · have hG : getS [] x = none := by unfold getS; rw [e]
      refine c_nextE w p loose mean mg mb ((D, oD) :: rest) lx dlx pb fs ks vs cm hcm n x s1 s2 hx (nd_more hD hnd) hG dp (un + 1 + 1) gd cn cs a ccd cl outer A₀ base h₀ L m _ _ _ _ B F' X (perm_in N') T hk (by omega) (by omega) ?_
      intro n2 x2 s3 h' tk' g₂ t2 F2 K2 N2
      exact ⟨rfl, n2, x2, s3, h', tk', g₂, rfl, t2, F2, K2, perm_out N2⟩
    · rw [g4] at hrem; cases hrem
  case hQ =>
    rintro D acc' c' s₂ hys ⟨n, x', s3, h', tk', g₂, rfl, t2, F2, K2, N2⟩
    exact hret D acc' c' n x' s3 h' tk' g₂ hys t2 F2 K2 N2
end
section
open PySem PySem.W PyProof.Rows
theorem ws_SP : True := by
  (k_with_none; (k_with "w1" => ((refine' code_def ?k1 ?k2 ?k3 ?k4 ?k5 ?kA ?kF ?kK ?k6 ?k7 ?k8 ?k9 ?kB ?_ ?c2 ?c3 ?c4 ?c5; (case kA => exact rfl); (case kF => exact rfl); (case kK => first | (with_reducible assumption) | assumption); (case k1 => k_asm); (case k2 => k_asm); (case k3 => k_asm); (case k4 => k_asm); (case k5 => k_asm); (case k6 => k_is); (case k7 => k_is); (case k8 => ktr_room); (case k9 => first | exact BindsTo.of_eq rfl | exact binds_K (by k_in) rfl (by k_is) rfl rfl rfl); (case c5 => decide); (case kB => exact locs rfl); (case c2 => exact rfl); (case c3 => exact rfl); (case c4 => exact rfl); k_whole; intro g'zz L'zz h'zz FG'zz F'zz N'zz B'zz X'zz T'zz; (try dsimp only); (try k_fold)))); (k_with "w2" => (((case k1 => k_asm); (case k2 => k_asm); (case k3 => k_asm); (case k4 => k_asm); (case k5 => k_asm); (case kK => first | (with_reducible assumption) | exact rfl | assumption); (case kd => ktr_room); (case ku => ktr_units)))); (k_with "w3" => (first | (refine in_has (b := false) ?hh ?_; (case hh => first | assumption | decide +kernel)) | (refine in_has (b := true) ?hh ?_; (case hh => first | assumption | decide +kernel)) | (refine in_has rfl ?_))); (k_with "w4" => (first | (refine notin_has (b := false) ?hh ?_; (case hh => first | assumption | decide +kernel)) | (refine notin_has (b := true) ?hh ?_; (case hh => first | assumption | decide +kernel)))); (k_with "w5" => (first | (refine eq_b (b := false) ?hh ?_; (case hh => first | assumption | decide +kernel)) | (refine eq_b (b := true) ?hh ?_; (case hh => first | assumption | decide +kernel)))); (k_with "w6" => (((first | (refine truthy_b (b := true) ?hh ?hl ?_; (case hh => first | assumption | exact full_one _ | decide +kernel); (case hl => first | assumption | exact one_short _ | decide +kernel)) | (refine truthy_b (b := false) ?hh ?hl ?_; (case hh => first | assumption | decide +kernel); (case hl => first | assumption | decide +kernel))); intro _))); (k_with "w7" => ((refine' kp_both ?k1 ?k2 ?k3 ?k4 ?k5 ?kA ?kF ?kK ?k6 ?k7 ?k8 ?kV ?kX ?kQ ?kM ?kN ?kD ?kR ?kP ?kS ?kT ?kB ?_ ?c2 ?c3 ?c4 ?c5; (case kA => exact rfl); (case kF => exact rfl); (case kK => first | (with_reducible assumption) | assumption); (case k1 => k_asm); (case k2 => k_asm); (case k3 => k_asm); (case k4 => k_asm); (case k5 => k_asm); (case k6 => k_is); (case k7 => k_is); (case k8 => ktr_room); (case kV => kp_lit); (case kX => kp_lit); (case kQ => exact rfl); (case kM => exact rfl); (case kN => exact rfl); (case kD => kp_flats); (case kR => exact rfl); (case kP => exact rfl); (case kS => exact fun _ => rfl); (case kT => exact fun _ _ => rfl); (case kB => exact fun _ _ => locs rfl); (case c5 => decide); (case c2 => exact rfl); (case c3 => exact rfl); (case c4 => exact rfl); k_whole; intro C'zz D'zz o'zz g'zz L'zz h'zz tk'zz l1zz l2zz lo'zz hs'zz fs'zz FG'zz F'zz N'zz B'zz X'zz T'zz; (try k_lt l1zz); (try k_lt2 l2zz); (try dsimp only); (try k_fold)))); (k_with "w8" => (((with_reducible show wpAny _ _ (callWith _ (Value.builtin _) (_ :: _) (backTo _ (starEach (_ :: _) _)) []) _ _ _); refine callWith_method1 ?_))); (k_with "w9" => ((k_here; k_dflt (refine' get_own ?k1 ?k2 ?k3 ?k4 ?k5 ?k6 ?k7 ?k8 ?k9 ?_; (case k1 => k_asm); (case k2 => k_asm); (case k3 => k_inst); (case k4 => k_is); (case k5 => k_is); (case k6 => k_is); (case k7 => k_is); (case k8 => k_get); (case k9 => k_handed); k_whole)))); (k_with "w10" => (((repeat (first | (with_reducible exact List.forall_mem_nil _) | (intro pzz hpzz; (repeat (first | (with_reducible exact hpzz) | (with_reducible refine List.mem_cons_of_mem _ ?_))); done) | (refine List.forall_mem_cons.mpr ⟨by k_mem, ?_⟩))); first | done | (intro pzz hpzz; repeat (first | exact hpzz | apply List.Mem.tail))))); (k_with "w48" => ((have hcL9zz := cLine_is; (try simp only [units_make, units_in1, units_deeper, Around.mark_units, units_caller] at *); (try dsimp only [ktrTop] at *); omega))); (k_with "w49" => (((try simp only [depth_make, depth_in1, depth_deeper, depth_caller] at *); (try dsimp only [ktrTop] at *); (try simp only [recursionLimit] at *); omega))); (k_with "w47" => (first | assumption | exact List.forall_mem_nil _ | (refine' List.forall_mem_cons.mpr ⟨?a, ?b⟩; (case a => k_ne); (case b => k_all)))); trivial)
local macro_rules | `(tactic| k_all) => `(tactic| k_extra "w47")
abbrev vsF (tk : Tok) (vs : Nat → Tok) : Nat → Tok := fun n => if n = 4 then tk else vs n
theorem inst_ne_inst {c d c' d' : Addr} (h : c ≠ c') : instObj c d ≠ instObj c' d' := fun e => h (by have := congrArg Obj.cls e; exact Value.ref.inj this)
set_option maxRecDepth 100000 in
set_option maxHeartbeats 0 in
theorem c_split (w p loose mean mg mb) (rest : News') (l : List Nat) (t : Tok) (hl : l.length ≤ 1048576) (hok : Okr l) (hz : (lexW [] l).length ≤ 16384)
    (dp un : Nat) (gd : Option (List Code)) (cn : Str) (cs : Scope) (a : Addr) (ccd : Value) (A₀ : Around) (base h₀ : Heap) (L : Addr) (m : Str → Option Value) (s : Shared) (Q : Value → Shared → Prop) (E : Value → Shared → Prop)
    (B : Below A₀ base [] h₀) (F : Fr h₀ L s.heap m) (X : (Mine.hd.heap_1 w.params).In h₀) (N : News h₀ L s.heap rest) (T : Top p loose mean mg mb h₀) (hk : cs.kind = .function)
    (hd : dp + 30 < recursionLimit) (hu : un + 400 < cLine)
    (hret : ∀ (D : Addr) (ys : List Value) (nn : Nat) (h' : Heap) (tk' : Nat), StrsAre ys ((lexW [] l).map fun x => ⟨x.toArray⟩) → Fr h₀ L h' m → News h₀ L h' ((D, listOf ys.toArray nn) :: rest) → Q (.ref D) { s with heap := h', toks := tk' }) :
    wpAny (model PR w) (ktrTop dp un gd cn cs L a ccd [] []) (call (.ref 750) [.str ⟨l.toArray⟩ t]) Q E s := by
  refine wpAny_call ?_
  refine' code_defS0 ?k1 ?k2 ?k3 ?k4 ?k5 ?kA ?k6 ?k7 ?k8 ?k9 ?kB ?_ ?c1 ?c2 ?c3 ?c4 ?c5
  case kA => exact rfl
  case k1 => k_asm
  case k2 => k_asm
  case k3 => k_asm
  case k4 => k_asm
  case k5 => k_asm
  case k6 => k_is
  case k7 => k_is
  case k8 => ktr_room
  case k9 => first | exact BindsTo.of_eq rfl | exact binds_K (by k_in) rfl (by k_is) rfl rfl rfl
  case c5 => decide
  case kB => exact locs rfl
  case c1 => exact hk
  case c2 => exact rfl
  case c3 => exact rfl
  case c4 => exact rfl
  k_whole
  intro g' L' h' FG' F' N' B' X' T' D'
  (try dsimp only)
  (try k_fold)
  (k_with_none; (k_with "w1" => ((refine' code_def ?k1 ?k2 ?k3 ?k4 ?k5 ?kA ?kF ?kK ?k6 ?k7 ?k8 ?k9 ?kB ?_ ?c2 ?c3 ?c4 ?c5; (case kA => exact rfl); (case kF => exact rfl); (case kK => first | (with_reducible assumption) | assumption); (case k1 => k_asm); (case k2 => k_asm); (case k3 => k_asm); (case k4 => k_asm); (case k5 => k_asm); (case k6 => k_is); (case k7 => k_is); (case k8 => ktr_room); (case k9 => first | exact BindsTo.of_eq rfl | exact binds_K (by k_in) rfl (by k_is) rfl rfl rfl); (case c5 => decide); (case kB => exact locs rfl); (case c2 => exact rfl); (case c3 => exact rfl); (case c4 => exact rfl); k_whole; intro g'zz L'zz h'zz FG'zz F'zz N'zz B'zz X'zz T'zz; (try dsimp only); (try k_fold)))); (k_with "w2" => (((case k1 => k_asm); (case k2 => k_asm); (case k3 => k_asm); (case k4 => k_asm); (case k5 => k_asm); (case kK => first | (with_reducible assumption) | exact rfl | assumption); (case kd => ktr_room); (case ku => ktr_units)))); (k_with "w3" => (first | (refine in_has (b := false) ?hh ?_; (case hh => first | assumption | decide +kernel)) | (refine in_has (b := true) ?hh ?_; (case hh => first | assumption | decide +kernel)) | (refine in_has rfl ?_))); (k_with "w4" => (first | (refine notin_has (b := false) ?hh ?_; (case hh => first | assumption | decide +kernel)) | (refine notin_has (b := true) ?hh ?_; (case hh => first | assumption | decide +kernel)))); (k_with "w5" => (first | (refine eq_b (b := false) ?hh ?_; (case hh => first | assumption | decide +kernel)) | (refine eq_b (b := true) ?hh ?_; (case hh => first | assumption | decide +kernel)))); (k_with "w6" => (((first | (refine truthy_b (b := true) ?hh ?hl ?_; (case hh => first | assumption | exact full_one _ | decide +kernel); (case hl => first | assumption | exact one_short _ | decide +kernel)) | (refine truthy_b (b := false) ?hh ?hl ?_; (case hh => first | assumption | decide +kernel); (case hl => first | assumption | decide +kernel))); intro _))); (k_with "w7" => ((refine' kp_both ?k1 ?k2 ?k3 ?k4 ?k5 ?kA ?kF ?kK ?k6 ?k7 ?k8 ?kV ?kX ?kQ ?kM ?kN ?kD ?kR ?kP ?kS ?kT ?kB ?_ ?c2 ?c3 ?c4 ?c5; (case kA => exact rfl); (case kF => exact rfl); (case kK => first | (with_reducible assumption) | assumption); (case k1 => k_asm); (case k2 => k_asm); (case k3 => k_asm); (case k4 => k_asm); (case k5 => k_asm); (case k6 => k_is); (case k7 => k_is); (case k8 => ktr_room); (case kV => kp_lit); (case kX => kp_lit); (case kQ => exact rfl); (case kM => exact rfl); (case kN => exact rfl); (case kD => kp_flats); (case kR => exact rfl); (case kP => exact rfl); (case kS => exact fun _ => rfl); (case kT => exact fun _ _ => rfl); (case kB => exact fun _ _ => locs rfl); (case c5 => decide); (case c2 => exact rfl); (case c3 => exact rfl); (case c4 => exact rfl); k_whole; intro C'zz D'zz o'zz g'zz L'zz h'zz tk'zz l1zz l2zz lo'zz hs'zz fs'zz FG'zz F'zz N'zz B'zz X'zz T'zz; (try k_lt l1zz); (try k_lt2 l2zz); (try dsimp only); (try k_fold)))); (k_with "w8" => (((with_reducible show wpAny _ _ (callWith _ (Value.builtin _) (_ :: _) (backTo _ (starEach (_ :: _) _)) []) _ _ _); refine callWith_method1 ?_))); (k_with "w9" => ((k_here; k_dflt (refine' get_own ?k1 ?k2 ?k3 ?k4 ?k5 ?k6 ?k7 ?k8 ?k9 ?_; (case k1 => k_asm); (case k2 => k_asm); (case k3 => k_inst); (case k4 => k_is); (case k5 => k_is); (case k6 => k_is); (case k7 => k_is); (case k8 => k_get); (case k9 => k_handed); k_whole)))); (k_with "w10" => (((repeat (first | (with_reducible exact List.forall_mem_nil _) | (intro pzz hpzz; (repeat (first | (with_reducible exact hpzz) | (with_reducible refine List.mem_cons_of_mem _ ?_))); done) | (refine List.forall_mem_cons.mpr ⟨by k_mem, ?_⟩))); first | done | (intro pzz hpzz; repeat (first | exact hpzz | apply List.Mem.tail))))); (k_with "w48" => ((have hcL9zz := cLine_is; (try simp only [units_make, units_in1, units_deeper, Around.mark_units, units_caller] at *); (try dsimp only [ktrTop] at *); omega))); (k_with "w49" => (((try simp only [depth_make, depth_in1, depth_deeper, depth_caller] at *); (try dsimp only [ktrTop] at *); (try simp only [recursionLimit] at *); omega))); (k_with "w47" => (first | assumption | exact List.forall_mem_nil _ | (refine' List.forall_mem_cons.mpr ⟨?a, ?b⟩; (case a => k_ne); (case b => k_all)))); skip)
  (k_with "mine:call ref" => (k_dflt (refine Held.into ?_)))
  k_steps
  refine Held.out ?_
  refine' ctr_use (c_shlex _ _ _ _ _ _ _ _ _) ?k1 ?k2 ?k3 ?k4 ?k5 ?kK ?kd ?ku ?_
  walk_at "mine:call"
  intro r9 n9 h9 tk9 F9 N9 P9
  obtain ⟨io, dio, lx, dlx, pb, fs, h1, h2, h3, t1, t2, t3, u1, u2, u3, ks, vs, s1, s2, s3, e9, e9', o1, o2, o3, o4, o5, o6, o7⟩ := P9
  subst e9 e9'
  have d1 : fs ≠ dlx := by (first | assumption | exact Ne.symm (by assumption) | exact ne_obj N9 (by k_mem) (by k_mem) dq_ne_inst | exact ne_obj N9 (by k_mem) (by k_mem) dq_ne_dict | exact ne_obj N9 (by k_mem) (by k_mem) inst_ne_dict | exact (ne_obj N9 (by k_mem) (by k_mem) dq_ne_inst).symm | exact (ne_obj N9 (by k_mem) (by k_mem) dq_ne_dict).symm | exact (ne_obj N9 (by k_mem) (by k_mem) inst_ne_dict).symm | exact ne_obj N9 (by k_mem) (by k_mem) (inst_ne_inst (by decide)) | exact ne_obj N9 (by k_mem) (by k_mem) (dict_ne_len (by show (3 : Nat) ≠ 19; decide)))
  have d2 : pb ≠ dlx := by (first | assumption | exact Ne.symm (by assumption) | exact ne_obj N9 (by k_mem) (by k_mem) dq_ne_inst | exact ne_obj N9 (by k_mem) (by k_mem) dq_ne_dict | exact ne_obj N9 (by k_mem) (by k_mem) inst_ne_dict | exact (ne_obj N9 (by k_mem) (by k_mem) dq_ne_inst).symm | exact (ne_obj N9 (by k_mem) (by k_mem) dq_ne_dict).symm | exact (ne_obj N9 (by k_mem) (by k_mem) inst_ne_dict).symm | exact ne_obj N9 (by k_mem) (by k_mem) (inst_ne_inst (by decide)) | exact ne_obj N9 (by k_mem) (by k_mem) (dict_ne_len (by show (3 : Nat) ≠ 19; decide)))
  have d3 : io ≠ dlx := by (first | assumption | exact Ne.symm (by assumption) | exact ne_obj N9 (by k_mem) (by k_mem) dq_ne_inst | exact ne_obj N9 (by k_mem) (by k_mem) dq_ne_dict | exact ne_obj N9 (by k_mem) (by k_mem) inst_ne_dict | exact (ne_obj N9 (by k_mem) (by k_mem) dq_ne_inst).symm | exact (ne_obj N9 (by k_mem) (by k_mem) dq_ne_dict).symm | exact (ne_obj N9 (by k_mem) (by k_mem) inst_ne_dict).symm | exact ne_obj N9 (by k_mem) (by k_mem) (inst_ne_inst (by decide)) | exact ne_obj N9 (by k_mem) (by k_mem) (dict_ne_len (by show (3 : Nat) ≠ 19; decide)))
  have d4 : dio ≠ dlx := by (first | assumption | exact Ne.symm (by assumption) | exact ne_obj N9 (by k_mem) (by k_mem) dq_ne_inst | exact ne_obj N9 (by k_mem) (by k_mem) dq_ne_dict | exact ne_obj N9 (by k_mem) (by k_mem) inst_ne_dict | exact (ne_obj N9 (by k_mem) (by k_mem) dq_ne_inst).symm | exact (ne_obj N9 (by k_mem) (by k_mem) dq_ne_dict).symm | exact (ne_obj N9 (by k_mem) (by k_mem) inst_ne_dict).symm | exact ne_obj N9 (by k_mem) (by k_mem) (inst_ne_inst (by decide)) | exact ne_obj N9 (by k_mem) (by k_mem) (dict_ne_len (by show (3 : Nat) ≠ 19; decide)))
  have d5 : lx ≠ dlx := by (first | assumption | exact Ne.symm (by assumption) | exact ne_obj N9 (by k_mem) (by k_mem) dq_ne_inst | exact ne_obj N9 (by k_mem) (by k_mem) dq_ne_dict | exact ne_obj N9 (by k_mem) (by k_mem) inst_ne_dict | exact (ne_obj N9 (by k_mem) (by k_mem) dq_ne_inst).symm | exact (ne_obj N9 (by k_mem) (by k_mem) dq_ne_dict).symm | exact (ne_obj N9 (by k_mem) (by k_mem) inst_ne_dict).symm | exact ne_obj N9 (by k_mem) (by k_mem) (inst_ne_inst (by decide)) | exact ne_obj N9 (by k_mem) (by k_mem) (dict_ne_len (by show (3 : Nat) ≠ 19; decide)))
  have d6 : io ≠ dio := by (first | assumption | exact Ne.symm (by assumption) | exact ne_obj N9 (by k_mem) (by k_mem) dq_ne_inst | exact ne_obj N9 (by k_mem) (by k_mem) dq_ne_dict | exact ne_obj N9 (by k_mem) (by k_mem) inst_ne_dict | exact (ne_obj N9 (by k_mem) (by k_mem) dq_ne_inst).symm | exact (ne_obj N9 (by k_mem) (by k_mem) dq_ne_dict).symm | exact (ne_obj N9 (by k_mem) (by k_mem) inst_ne_dict).symm | exact ne_obj N9 (by k_mem) (by k_mem) (inst_ne_inst (by decide)) | exact ne_obj N9 (by k_mem) (by k_mem) (dict_ne_len (by show (3 : Nat) ≠ 19; decide)))
  have d7 : io ≠ lx := by (first | assumption | exact Ne.symm (by assumption) | exact ne_obj N9 (by k_mem) (by k_mem) dq_ne_inst | exact ne_obj N9 (by k_mem) (by k_mem) dq_ne_dict | exact ne_obj N9 (by k_mem) (by k_mem) inst_ne_dict | exact (ne_obj N9 (by k_mem) (by k_mem) dq_ne_inst).symm | exact (ne_obj N9 (by k_mem) (by k_mem) dq_ne_dict).symm | exact (ne_obj N9 (by k_mem) (by k_mem) inst_ne_dict).symm | exact ne_obj N9 (by k_mem) (by k_mem) (inst_ne_inst (by decide)) | exact ne_obj N9 (by k_mem) (by k_mem) (dict_ne_len (by show (3 : Nat) ≠ 19; decide)))
  have d8 : io ≠ fs := by (first | assumption | exact Ne.symm (by assumption) | exact ne_obj N9 (by k_mem) (by k_mem) dq_ne_inst | exact ne_obj N9 (by k_mem) (by k_mem) dq_ne_dict | exact ne_obj N9 (by k_mem) (by k_mem) inst_ne_dict | exact (ne_obj N9 (by k_mem) (by k_mem) dq_ne_inst).symm | exact (ne_obj N9 (by k_mem) (by k_mem) dq_ne_dict).symm | exact (ne_obj N9 (by k_mem) (by k_mem) inst_ne_dict).symm | exact ne_obj N9 (by k_mem) (by k_mem) (inst_ne_inst (by decide)) | exact ne_obj N9 (by k_mem) (by k_mem) (dict_ne_len (by show (3 : Nat) ≠ 19; decide)))
  have d9 : io ≠ pb := by (first | assumption | exact Ne.symm (by assumption) | exact ne_obj N9 (by k_mem) (by k_mem) dq_ne_inst | exact ne_obj N9 (by k_mem) (by k_mem) dq_ne_dict | exact ne_obj N9 (by k_mem) (by k_mem) inst_ne_dict | exact (ne_obj N9 (by k_mem) (by k_mem) dq_ne_inst).symm | exact (ne_obj N9 (by k_mem) (by k_mem) dq_ne_dict).symm | exact (ne_obj N9 (by k_mem) (by k_mem) inst_ne_dict).symm | exact ne_obj N9 (by k_mem) (by k_mem) (inst_ne_inst (by decide)) | exact ne_obj N9 (by k_mem) (by k_mem) (dict_ne_len (by show (3 : Nat) ≠ 19; decide)))
  have da : dio ≠ lx := by (first | assumption | exact Ne.symm (by assumption) | exact ne_obj N9 (by k_mem) (by k_mem) dq_ne_inst | exact ne_obj N9 (by k_mem) (by k_mem) dq_ne_dict | exact ne_obj N9 (by k_mem) (by k_mem) inst_ne_dict | exact (ne_obj N9 (by k_mem) (by k_mem) dq_ne_inst).symm | exact (ne_obj N9 (by k_mem) (by k_mem) dq_ne_dict).symm | exact (ne_obj N9 (by k_mem) (by k_mem) inst_ne_dict).symm | exact ne_obj N9 (by k_mem) (by k_mem) (inst_ne_inst (by decide)) | exact ne_obj N9 (by k_mem) (by k_mem) (dict_ne_len (by show (3 : Nat) ≠ 19; decide)))
  have db : dio ≠ fs := by (first | assumption | exact Ne.symm (by assumption) | exact ne_obj N9 (by k_mem) (by k_mem) dq_ne_inst | exact ne_obj N9 (by k_mem) (by k_mem) dq_ne_dict | exact ne_obj N9 (by k_mem) (by k_mem) inst_ne_dict | exact (ne_obj N9 (by k_mem) (by k_mem) dq_ne_inst).symm | exact (ne_obj N9 (by k_mem) (by k_mem) dq_ne_dict).symm | exact (ne_obj N9 (by k_mem) (by k_mem) inst_ne_dict).symm | exact ne_obj N9 (by k_mem) (by k_mem) (inst_ne_inst (by decide)) | exact ne_obj N9 (by k_mem) (by k_mem) (dict_ne_len (by show (3 : Nat) ≠ 19; decide)))
  have dc : dio ≠ pb := by (first | assumption | exact Ne.symm (by assumption) | exact ne_obj N9 (by k_mem) (by k_mem) dq_ne_inst | exact ne_obj N9 (by k_mem) (by k_mem) dq_ne_dict | exact ne_obj N9 (by k_mem) (by k_mem) inst_ne_dict | exact (ne_obj N9 (by k_mem) (by k_mem) dq_ne_inst).symm | exact (ne_obj N9 (by k_mem) (by k_mem) dq_ne_dict).symm | exact (ne_obj N9 (by k_mem) (by k_mem) inst_ne_dict).symm | exact ne_obj N9 (by k_mem) (by k_mem) (inst_ne_inst (by decide)) | exact ne_obj N9 (by k_mem) (by k_mem) (dict_ne_len (by show (3 : Nat) ≠ 19; decide)))
  have de : lx ≠ fs := by (first | assumption | exact Ne.symm (by assumption) | exact ne_obj N9 (by k_mem) (by k_mem) dq_ne_inst | exact ne_obj N9 (by k_mem) (by k_mem) dq_ne_dict | exact ne_obj N9 (by k_mem) (by k_mem) inst_ne_dict | exact (ne_obj N9 (by k_mem) (by k_mem) dq_ne_inst).symm | exact (ne_obj N9 (by k_mem) (by k_mem) dq_ne_dict).symm | exact (ne_obj N9 (by k_mem) (by k_mem) inst_ne_dict).symm | exact ne_obj N9 (by k_mem) (by k_mem) (inst_ne_inst (by decide)) | exact ne_obj N9 (by k_mem) (by k_mem) (dict_ne_len (by show (3 : Nat) ≠ 19; decide)))
  have df : lx ≠ pb := by (first | assumption | exact Ne.symm (by assumption) | exact ne_obj N9 (by k_mem) (by k_mem) dq_ne_inst | exact ne_obj N9 (by k_mem) (by k_mem) dq_ne_dict | exact ne_obj N9 (by k_mem) (by k_mem) inst_ne_dict | exact (ne_obj N9 (by k_mem) (by k_mem) dq_ne_inst).symm | exact (ne_obj N9 (by k_mem) (by k_mem) dq_ne_dict).symm | exact (ne_obj N9 (by k_mem) (by k_mem) inst_ne_dict).symm | exact ne_obj N9 (by k_mem) (by k_mem) (inst_ne_inst (by decide)) | exact ne_obj N9 (by k_mem) (by k_mem) (dict_ne_len (by show (3 : Nat) ≠ 19; decide)))
  (try dsimp only)
  k_steps
  have hnd : ∀ vs : Nat → Tok, ND 6 (gLed w.params lx dlx pb fs rest ks vs (Str.ofString "") 0 ⟨0, io, dio, h1, h2, h3, t1, t2, t3, u1, u2, u3, l, 0, .none, .int 1 s2⟩ [] (.str (Str.ofString " ") s1) (.str (Str.ofString "") s3)) := by
    intro vs
    simp only [gLed, rtLed, fmsLed, nd_cons, List.forall_mem_cons]
    (repeat' apply And.intro) <;> first | exact List.forall_mem_nil _ | (first | assumption | exact Ne.symm (by assumption) | exact ne_obj N9 (by k_mem) (by k_mem) dq_ne_inst | exact ne_obj N9 (by k_mem) (by k_mem) dq_ne_dict | exact ne_obj N9 (by k_mem) (by k_mem) inst_ne_dict | exact (ne_obj N9 (by k_mem) (by k_mem) dq_ne_inst).symm | exact (ne_obj N9 (by k_mem) (by k_mem) dq_ne_dict).symm | exact (ne_obj N9 (by k_mem) (by k_mem) inst_ne_dict).symm | exact ne_obj N9 (by k_mem) (by k_mem) (inst_ne_inst (by decide)) | exact ne_obj N9 (by k_mem) (by k_mem) (dict_ne_len (by show (3 : Nat) ≠ 19; decide))) | trivial
  rename News _ _ _ _ => N5
  refine' list_lex w p loose mean mg mb rest lx dlx pb fs ks (vsF tk vs) (Str.ofString "") (by decide +kernel) 0 ⟨0, io, dio, h1, h2, h3, t1, t2, t3, u1, u2, u3, l, 0, .none, .int 1 s2⟩ s1 s3 ⟨hok, hl, rfl, rfl⟩ (hnd _) hz _ _ _ _ _ _ _ _ _ _ _ _ _ _ _ _ _ ?k1 ?k2 ?k3 ?k4 ?k5 ?kK ?kd ?ku ?_
  case k1 => k_asm
  case k2 => k_asm
  case k3 => k_asm
  case k4 => exact N5.perm (List.forall_mem_cons.mpr ⟨.tail _ (.tail _ (.head _)), List.forall_mem_cons.mpr ⟨.tail _ (.tail _ (.tail _ (.head _))), List.forall_mem_cons.mpr ⟨.tail _ (.tail _ (.tail _ (.tail _ (.head _)))), List.forall_mem_cons.mpr ⟨.tail _ (.tail _ (.tail _ (.tail _ (.tail _ (.head _))))), List.forall_mem_cons.mpr ⟨.head _, List.forall_mem_cons.mpr ⟨.tail _ (.head _), fun q hq => .tail _ (.tail _ (.tail _ (.tail _ (.tail _ (.tail _ hq)))))⟩⟩⟩⟩⟩⟩)
  case k5 => k_asm
  case kK => exact rfl
  case kd => ktr_room
  case ku => ktr_units
  intro D ys c n2 x2 s9 h2 tk2 g2 hys ht2 F2 B2 N2
  show LeaveS0 _ _ _ _ _ _ _ _
  refine ⟨g2, _, _, _, ht2, F2, N2, fun Fx Nx => ?_⟩
  exact hret D ys c h2 tk2 hys Fx (Nx.perm (List.forall_mem_cons.mpr ⟨.head _, fun q hq => .tail _ (.tail _ (.tail _ (.tail _ (.tail _ (.tail _ (.tail _ hq))))))⟩))
end
end
section
open PySem PySem.W PyProof.Rows
theorem rowT_len {q : Row} (h : q.length ≤ 4) : (rowT q).length ≤ 36 := by
  show (tx (q.map (·.1))).toArray.size ≤ 36
  rw [List.size_toArray]
  have := tx_len (q.map (·.1))
  rw [List.length_map] at this
  omega
theorem row_ne {y : Str} {l : List Nat} (hy : y = ⟨l.toArray⟩) (h0 : l ≠ []) (h1 : 32 ∉ l) (q : Row) : (y == rowT q) = false := by
  rw [beq_eq_false_iff_ne, hy]
  intro e
  have e' : l = tx (q.map (·.1)) := by
    have := congrArg Str.cps e
    exact congrArg Array.toList this
  cases q with
  | nil => exact h0 e'
  | cons x q =>
    rw [List.map_cons, tx_cons] at e'
    exact h1 (by rw [e']; simp)
theorem e0_s : Str.ofString "&e0;" = ⟨Wd.e0.c.toArray⟩ := by decide +kernel
theorem e1_s : Str.ofString "&e1;" = ⟨Wd.e1.c.toArray⟩ := by decide +kernel
theorem e2_s : Str.ofString "&e2;" = ⟨Wd.e2.c.toArray⟩ := by decide +kernel
theorem row_ne0 (q : Row) : (Str.ofString "&e0;" == rowT q) = false := row_ne e0_s (by decide) (by decide) q
theorem row_ne1 (q : Row) : (Str.ofString "&e1;" == rowT q) = false := row_ne e1_s (by decide) (by decide) q
theorem row_ne2 (q : Row) : (Str.ofString "&e2;" == rowT q) = false := row_ne e2_s (by decide) (by decide) q
/-- unescape with the rows as entities -/
def unescL (x z0 z1 z2 : Str) : Str := Txt.replace (Txt.replace (Txt.replace (Txt.replace (Txt.replace (Txt.replace x (Str.ofString "&lt;") (Str.ofString "<")) (Str.ofString "&gt;") (Str.ofString ">")) (Str.ofString "&e0;") z0) (Str.ofString "&e1;") z1) (Str.ofString "&e2;") z2) (Str.ofString "&amp;") (Str.ofString "&")
theorem unesc_page (q0 q1 q2 q3 : Row) : unescL (rowT q0) (rowT q1) (rowT q2) (rowT q3) = ⟨(dTx (pageF (RR q0 q1 q2 q3))).toArray⟩ := by
  have a1 : Str.ofString "&lt;" = ⟨[38, 108, 116, 59].toArray⟩ := by decide +kernel
  have a2 : Str.ofString "<" = ⟨[60].toArray⟩ := by decide +kernel
  have a3 : Str.ofString "&gt;" = ⟨[38, 103, 116, 59].toArray⟩ := by decide +kernel
  have a4 : Str.ofString ">" = ⟨[62].toArray⟩ := by decide +kernel
  have a5 : Str.ofString "&amp;" = ⟨[38, 97, 109, 112, 59].toArray⟩ := by decide +kernel
  have a6 : Str.ofString "&" = ⟨[38].toArray⟩ := by decide +kernel
  have s1 : ∀ ts, Txt.replace ⟨(cTx ts).toArray⟩ ⟨[38, 108, 116, 59].toArray⟩ ⟨[60].toArray⟩ = ⟨(cTx (ts.map fLt)).toArray⟩ := fun ts => by rw [replace_rep (by decide), rep_lt]
  have s2 : ∀ ts, Txt.replace ⟨(cTx ts).toArray⟩ ⟨[38, 103, 116, 59].toArray⟩ ⟨[62].toArray⟩ = ⟨(cTx ts).toArray⟩ := fun ts => by rw [replace_rep (by decide), rep_gt]
  have s3 : ∀ ts (q : Row), Txt.replace ⟨(cTx ts).toArray⟩ ⟨Wd.e0.c.toArray⟩ (rowT q) = ⟨(cTx (ts.flatMap (fE .e0 (q.map (·.1))))).toArray⟩ := fun ts q => by unfold rowT; rw [replace_rep (by decide), rep_e .e0 (by decide)]
  have s4 : ∀ ts (q : Row), Txt.replace ⟨(cTx ts).toArray⟩ ⟨Wd.e1.c.toArray⟩ (rowT q) = ⟨(cTx (ts.flatMap (fE .e1 (q.map (·.1))))).toArray⟩ := fun ts q => by unfold rowT; rw [replace_rep (by decide), rep_e .e1 (by decide)]
  have s5 : ∀ ts (q : Row), Txt.replace ⟨(cTx ts).toArray⟩ ⟨Wd.e2.c.toArray⟩ (rowT q) = ⟨(cTx (ts.flatMap (fE .e2 (q.map (·.1))))).toArray⟩ := fun ts q => by unfold rowT; rw [replace_rep (by decide), rep_e .e2 (by decide)]
  have s6 : ∀ ts, Txt.replace ⟨(cTx ts).toArray⟩ ⟨[38, 97, 109, 112, 59].toArray⟩ ⟨[38].toArray⟩ = ⟨(dTx ts).toArray⟩ := fun ts => by rw [replace_rep (by decide), rep_amp]
  have s0 : rowT q0 = ⟨(cTx ((q0.map (·.1)).map Tk.w)).toArray⟩ := by unfold rowT; rw [tx_c]
  unfold unescL
  rw [a1, a2, a3, a4, e0_s, e1_s, e2_s, a5, a6, s0, s1, s2, s3, s4, s5, s6]
  rfl
theorem fE_len (e : Wd) (r : List Wd) (hr : r.length ≤ 4) (ts : List Tk) : (ts.flatMap (fE e r)).length ≤ 5 * ts.length := by
  induction ts with
  | nil => simp
  | cons t ts ih =>
    rw [List.flatMap_cons, List.length_append, List.length_cons]
    have : (fE e r t).length ≤ 5 := by
      unfold fE
      cases t with
      | w x => dsimp only; split <;> simp <;> omega
      | l => simp
      | b => simp
    omega
theorem page_len {R : Rows4} (h : R.1.length ≤ 4 ∧ R.2.1.length ≤ 4 ∧ R.2.2.1.length ≤ 4 ∧ R.2.2.2.length ≤ 4) : (pageF R).length ≤ 500 := by
  unfold pageF
  have h1 := fE_len .e2 R.2.2.2 h.2.2.2 ((((R.1.map Tk.w).map fLt).flatMap (fE .e0 R.2.1)).flatMap (fE .e1 R.2.2.1))
  have h2 := fE_len .e1 R.2.2.1 h.2.2.1 (((R.1.map Tk.w).map fLt).flatMap (fE .e0 R.2.1))
  have h3 := fE_len .e0 R.2.1 h.2.1 ((R.1.map Tk.w).map fLt)
  rw [List.length_map, List.length_map] at h3
  have h4 := h.1
  omega
theorem dTx_len (ts : List Tk) : (dTx ts).length ≤ 9 * ts.length := by
  unfold dTx
  induction ts with
  | nil => simp
  | cons t ts ih =>
    rw [List.flatMap_cons, List.length_append, List.length_cons]
    have : (t.d ++ [32]).length ≤ 9 := by cases t with | w x => cases x <;> decide | l => decide | b => decide
    omega
theorem lexW_len : ∀ (l w : List Nat), (lexW w l).length ≤ l.length + 1
  | [], w => by unfold lexW; split <;> simp
  | c :: r, w => by
    have h1 := lexW_len r []
    have h2 := lexW_len r (w ++ [c])
    unfold lexW
    rw [List.length_cons]
    split
    · split
      · omega
      · rw [List.length_cons]; omega
    · omega
end
section
open PySem PySem.W PyProof.Rows PySem.Calls
theorem tol_at {news : News'} {vs : List Value} {ts : List (Str × Int)} (h : Tol news vs ts) : ∀ (i : Nat) (v : Value), vs[i]? = some v → ∃ a t u x, v = .ref a ∧ ts[i]? = some x ∧ (a, tupW x t u) ∈ news := by
  induction h with
  | nil => intro i v hv; simp at hv
  | @cons a t u x vs ts hm _ ih =>
    intro i v hv
    cases i with
    | zero => exact ⟨a, t, u, x, (by simpa using hv.symm), rfl, hm⟩
    | succ i => simpa using ih i v (by simpa using hv)
section
variable {prog : Program} {w : World} {A : Around} {h₀ : Heap} {L : Addr} {m : Str → Option Value} {env : Env} {elt : PySem.Expr} {x x₂ : Str} {scope : Scope} {cl : List (Str × Addr)} {s : Shared} {S : News' → Prop} {Fin : List Value → News' → Prop} {news : News'}
theorem comp_pairs {vsd : List Value} {told : List (Str × Int)} (hS : S news) (hT : Tol news vsd told)
    (turn : Held (∀ (z : Str) (pl : Int) t u I oI C oC D m₂ ys h tk (E' : Value → Shared → Prop), LCg.NsObj oC m₂ → m₂ x = some (.str z t) → m₂ x₂ = some (.int pl u) → Fr h₀ L h m → News h₀ L h ((I, oI) :: (C, oC) :: (D, LCg.lst ys) :: news) →
      wpAny (model prog w) A (eval elt (compEnvC scope cl C env)) (CEl h₀ L m { s with heap := h, toks := tk } ((I, oI) :: (C, oC) :: (D, LCg.lst ys) :: news) z) E' { s with heap := h, toks := tk }))
    (fin : Held (∀ ys, StrsAre ys (told.map (·.1)) → Fin ys news)) : LCp.CompRestP prog w A h₀ L m env elt x x₂ scope cl s S (fun i v => vsd.toArray[i]? = some v) Fin vsd.toArray.size 0 [] news := by
  have key : ∀ (j i : Nat) (ys : List Value), i + j = vsd.length → StrsAre ys ((told.take i).map (·.1)) → LCp.CompRestP prog w A h₀ L m env elt x x₂ scope cl s S (fun i v => vsd.toArray[i]? = some v) Fin j i ys news := by
    intro j
    induction j with
    | zero =>
      intro i ys hi hy
      have e : i = told.length := by rw [← hT.len]; omega
      subst e
      rw [List.take_length] at hy
      exact LCp.CompRestP.zero (fin ys hy)
    | succ j ih =>
      intro i ys hi hy
      refine LCp.CompRestP.succ ?_
      intro v hv
      obtain ⟨a, t, u, y, rfl, hti, hm⟩ := tol_at hT i v (by simpa using hv)
      refine ⟨a, _, _, _, _, rfl, hm, rfl, rfl, ?_⟩
      intro I oI C oC D m₂ h tk E' hC hx hx2 F N off ne
      refine wpAny_mono (turn y.1 y.2 t u I oI C oC D m₂ ys h tk E' hC hx hx2 F N) (fun yv s₂ hq' => ?_) fun _ _ e => e
      obtain ⟨h', tk', t', e, F', N', hy'⟩ := hq'
      subst hy'
      refine ⟨h', tk', news, e, F', N', off, hS, ?_⟩
      refine ih (i + 1) _ (by omega) ?_
      rw [List.take_add_one, hti]
      simpa using strs_snoc hy
  have e : vsd.toArray.size = vsd.length := List.size_toArray
  rw [e]
  exact key vsd.length 0 [] (by omega) (by simp only [List.take_zero, List.map_nil]; exact .nil)
/-- the source: the list of told pairs -/
theorem csrc_pairs {ta : Addr} {vsd : List Value} {told : List (Str × Int)} {nn : Nat} {Fin : Shared → List Value → News' → Prop} (hh : A.handled = none) (F : Fr h₀ L s.heap m) (N : News h₀ L s.heap news) (hm : (ta, listOf vsd.toArray nn) ∈ news) (hT : Tol news vsd told) (hz : vsd.length ≤ 16384)
    (turn : Held (∀ g (z : Str) (pl : Int) t u I oI C oC D m₂ ys h tk (E' : Value → Shared → Prop), LCg.NsObj oC m₂ → m₂ x = some (.str z t) → m₂ x₂ = some (.int pl u) → Fr h₀ L h m → News h₀ L h ((I, oI) :: (C, oC) :: (D, LCg.lst ys) :: news) →
      wpAny (model prog w) A (eval elt (compEnvC scope cl C env)) (CEl h₀ L m { ({ s with heap := g } : Shared) with heap := h, toks := tk } ((I, oI) :: (C, oC) :: (D, LCg.lst ys) :: news) z) E' { ({ s with heap := g } : Shared) with heap := h, toks := tk }))
    (fin : Held (∀ g ys, StrsAre ys (told.map (·.1)) → Fin { s with heap := g } ys news)) :
    LCp.SrcLP prog w A h₀ L m env elt x x₂ scope cl Fin (.ref ta) s :=
  LCp.SrcLP.ledger hh F N hm (by rw [List.size_toArray]; simp only [sizeLine]; omega) fun g => comp_pairs (.inr ⟨_, hm, rfl, _, rfl⟩) hT (turn g) (fin g)
end
/-- data of the two comparisons -/
def datS (xs : List Str) : List Dat := xs.map Dat.str
def datT (ts : List (Str × Int)) : List Dat := ts.map fun x => Dat.tuple [.str x.1, .int x.2]
theorem dat_strs {news : News'} : ∀ {vs : List Value} {xs : List Str}, StrsAre vs xs → DatAll news vs (datS xs)
  | _, _, .nil => .nil
  | _, _, .cons _ _ r => .cons (.str _ _) (dat_strs r)
theorem dat_tol {news : News'} {vs : List Value} {ts : List (Str × Int)} (h : Tol news vs ts) : DatAll news vs (datT ts) := by
  induction h with
  | nil => exact .nil
  | cons hm _ ih => exact .cons (.tuple hm (.cons (.str _ _) (.cons (.int _ _) .nil))) ih
theorem out_ok (p : Int) (x : Wd) : PyData.strOk (x.out p) = true := by
  cases x <;> (simp only [Wd.out]; try split) <;> decide +kernel
theorem told1_ok {p : Int} {x : Wd} {rec : List (Str × Int)} (h : ∀ y ∈ rec, PyData.strOk y.1 = true) : ∀ y ∈ told1 p x rec, PyData.strOk y.1 = true := by
  unfold told1
  split
  · exact h
  · intro y hy
    rw [List.mem_singleton.mp hy]; exact out_ok p x
theorem flat_ok {α : Type} {l : List α} {f : α → List (Str × Int)} (h : ∀ a, ∀ y ∈ f a, PyData.strOk y.1 = true) : ∀ y ∈ l.flatMap f, PyData.strOk y.1 = true := by
  intro y hy
  obtain ⟨a, _, hm⟩ := List.mem_flatMap.mp hy
  exact h a y hm
theorem t2_ok (R : Rows4) : ∀ y ∈ T2 R, PyData.strOk y.1 = true := flat_ok fun _ => told1_ok (by intro y hy; cases hy)
theorem t1_ok (R : Rows4) : ∀ y ∈ T1 R, PyData.strOk y.1 = true := flat_ok fun _ => told1_ok (t2_ok R)
theorem t0_ok (R : Rows4) : ∀ y ∈ T0 R, PyData.strOk y.1 = true := flat_ok fun x => told1_ok (by split; exact t1_ok R; exact t2_ok R)
theorem tm_ok (R : Rows4) : ∀ y ∈ TM R, PyData.strOk y.1 = true := by
  unfold TM
  refine flat_ok fun x => told1_ok ?_
  repeat (first | exact t0_ok R | exact t1_ok R | exact t2_ok R | split)
section
variable {prog : Program} {w : World} {A : Around} {E : Value → Shared → Prop} {s : Shared} {h₀ : Heap} {L a b : Addr} {news : News'} {xs ys : List Value} {ka kb : Nat} {Q : Value → Shared → Prop}
theorem cmp_strs {zs : List Str} (N : News h₀ L s.heap news) (ma : (a, listOf xs.toArray ka) ∈ news) (mb : (b, listOf ys.toArray kb) ∈ news) (hx : StrsAre xs zs) (hy : StrsAre ys zs) (hok : ∀ z ∈ zs, PyData.strOk z = true) (hu : A.units + 64 < cLine) (h : Q (.bool true) s) :
    wpAny (model prog w) A (compareOp .Eq (.ref a) (.ref b)) Q E s := by
  have ok : ∀ d ∈ datS zs, kqdOk 8 d = true := by
    intro d hd
    obtain ⟨z, hz, rfl⟩ := List.mem_map.mp hd
    simpa [kqdOk] using hok z hz
  refine kqd_eq N ma rfl rfl (dat_strs (news := news) hx) (fun _ h => h) mb rfl rfl (dat_strs (news := news) hy) (fun _ h => h) ok ok hu ?_
  have e : ∀ inst : Decidable (datS zs = datS zs), @decide _ inst = true := fun inst => @decide_eq_true _ inst rfl
  rw [e]; exact h
theorem cmp_tols {ts : List (Str × Int)} (N : News h₀ L s.heap news) (ma : (a, listOf xs.toArray ka) ∈ news) (mb : (b, listOf ys.toArray kb) ∈ news) (hx : Tol news xs ts) (hy : Tol news ys ts) (hok : ∀ z ∈ ts, PyData.strOk z.1 = true) (hu : A.units + 64 < cLine) (h : Q (.bool true) s) :
    wpAny (model prog w) A (compareOp .Eq (.ref a) (.ref b)) Q E s := by
  have ok : ∀ d ∈ datT ts, kqdOk 8 d = true := by
    intro d hd
    obtain ⟨z, hz, rfl⟩ := List.mem_map.mp hd
    have := hok z hz
    simp [kqdOk, this]
  refine kqd_eq N ma rfl rfl (dat_tol hx) (fun _ h => h) mb rfl rfl (dat_tol hy) (fun _ h => h) ok ok hu ?_
  have e : ∀ inst : Decidable (datT ts = datT ts), @decide _ inst = true := fun inst => @decide_eq_true _ inst rfl
  rw [e]; exact h
end
end
section
open PySem PySem.W PyProof.Rows
/-- an abstract frame: the place and the words that are still to come -/
abbrev AF := Int × List Wd
def FrR (f : Fm) (a : AF) : Prop := f.l.drop f.p = tx a.2 ∧ f.l.length ≤ 1048576 ∧ handedIn f.vln = true ∧ ((a.1 = -1 ∧ f.vfile = .none) ∨ (0 ≤ a.1 ∧ ∃ t, f.vfile = .int a.1 t))
inductive StR : List Fm → List AF → Prop
  | nil : StR [] []
  | cons {f a st sa} : FrR f a → StR st sa → StR (f :: st) (a :: sa)
theorem StR.len {st : List Fm} {sa : List AF} (h : StR st sa) : st.length = sa.length := by
  induction h with
  | nil => rfl
  | cons _ _ ih => simp [ih]
theorem FrR.ok {f : Fm} {a : AF} (h : FrR f a) : FmOk f := by
  refine ⟨?_, h.2.1, ?_, h.2.2.1⟩
  · rw [h.1]; exact okr_tx _
  · rcases h.2.2.2 with ⟨_, e⟩ | ⟨_, t, e⟩ <;> rw [e] <;> rfl
theorem StR.ok {st : List Fm} {sa : List AF} (h : StR st sa) : ∀ f ∈ st, FmOk f := by
  induction h with
  | nil => intro f hf; cases hf
  | cons h0 _ ih =>
    intro f hf
    rcases List.mem_cons.mp hf with rfl | hf
    · exact h0.ok
    · exact ih f hf
def outF (R : Rows4) (a : AF) : List (Str × Int) := a.2.flatMap fun x => told1 a.1 x (TT R x.n)
def outS (R : Rows4) (sa : List AF) : List (Str × Int) := sa.flatMap (outF R)
def Wt (pl : Int) : Nat := 6 ^ (2 - pl).toNat
def costF (a : AF) : Nat := a.2.length * Wt a.1
def costS : List AF → Nat
  | [] => 0
  | a :: sa => costF a + costS sa
/-- the places fall along the stack -/
def Desc : Int → List AF → Prop
  | _, [] => True
  | p, b :: sa => b.1 < p ∧ -1 ≤ b.1 ∧ Desc b.1 sa
theorem desc_len : ∀ {sa : List AF} {p : Int}, Desc p sa → sa.length ≤ (p + 1).toNat
  | [], _, _ => Nat.zero_le _
  | b :: sa, p, h => by
    have := desc_len h.2.2
    have h1 := h.1
    have h2 := h.2.1
    rw [List.length_cons]; omega
theorem Wt_lt {p q : Int} (h : p < q) (hq : q ≤ 2) : 6 * Wt q ≤ Wt p := by
  unfold Wt
  have e : (2 - p).toNat = ((2 - q).toNat + 1) + ((2 - p).toNat - ((2 - q).toNat + 1)) := by omega
  rw [e, Nat.pow_add, Nat.pow_succ, Nat.mul_comm 6]
  exact Nat.le_mul_of_pos_right _ (Nat.pow_pos (by decide))
theorem Wt_pos (p : Int) : 1 ≤ Wt p := Nat.pow_pos (by decide)
theorem tx_nil_iff {ws : List Wd} (h : tx ws = []) : ws = [] := by
  cases ws with
  | nil => rfl
  | cons x ws => rw [tx_cons] at h; simp at h
/-- what get_token finds -/
def GetA (R : Rows4) (a : AF) (sa : List AF) : Option (List Nat × Fm × List Fm) → Prop
  | none => outF R a ++ outS R sa = []
  | some (wd, x', st') => ∃ y a' sa', wd = y.c ∧ FrR x' a' ∧ StR st' sa' ∧ -1 ≤ a'.1 ∧ a'.1 ≤ a.1 ∧ Desc a'.1 sa' ∧ outF R a ++ outS R sa = told1 a'.1 y (TT R y.n) ++ (outF R a' ++ outS R sa') ∧ costF a + costS sa = Wt a'.1 + (costF a' + costS sa')
theorem get_word {x : Fm} {pl : Int} {y : Wd} {ws : List Wd} (h : FrR x (pl, y :: ws)) : skipS (x.l.drop x.p) x.p = .word y.c (x.p + y.c.length + 1) ∧ FrR { x with p := x.p + y.c.length + 1 } (pl, ws) := by
  refine ⟨by rw [h.1]; exact skip_tx y ws _, ?_, h.2⟩
  exact drop_tx h.1
theorem get_end {x : Fm} {pl : Int} (h : FrR x (pl, [])) : ∃ p, skipS (x.l.drop x.p) x.p = .end_ p := by
  rw [h.1]; exact ⟨_, rfl⟩
theorem step_out (R : Rows4) (pl : Int) (y : Wd) (ws : List Wd) : outF R (pl, y :: ws) = told1 pl y (TT R y.n) ++ outF R (pl, ws) := by
  unfold outF; rw [List.flatMap_cons]
theorem step_cost (pl : Int) (y : Wd) (ws : List Wd) : costF (pl, y :: ws) = Wt pl + costF (pl, ws) := by
  show (y :: ws).length * Wt pl = Wt pl + ws.length * Wt pl
  rw [List.length_cons, Nat.succ_mul]; omega
theorem getS_abs (R : Rows4) {st : List Fm} {sa : List AF} (hs : StR st sa) : ∀ (x : Fm) (a : AF), FrR x a → -1 ≤ a.1 → Desc a.1 sa → GetA R a sa (getS st x) := by
  induction hs with
  | nil =>
    rintro x ⟨pl, ws⟩ hx h1 _
    cases ws with
    | nil =>
      obtain ⟨p, e⟩ := get_end hx
      unfold getS; rw [e]
      rfl
    | cons y ws =>
      obtain ⟨e, h⟩ := get_word hx
      unfold getS; rw [e]
      exact ⟨y, (pl, ws), [], rfl, h, .nil, h1, Int.le_refl _, trivial, by rw [step_out]; simp, by rw [step_cost]; simp [costS]⟩
  | @cons f b st sa hf hs ih =>
    rintro x ⟨pl, ws⟩ hx h1 hd
    cases ws with
    | nil =>
      obtain ⟨p, e⟩ := get_end hx
      have I := ih f b hf hd.2.1 hd.2.2
      unfold getS; rw [e]
      dsimp only
      have e1 : outF R (pl, []) ++ outS R (b :: sa) = outF R b ++ outS R sa := by unfold outS; rw [List.flatMap_cons]; rfl
      have e2 : costF (pl, []) + costS (b :: sa) = costF b + costS sa := by simp [costF, costS]
      revert I
      rcases getS st f with _ | ⟨wd, x', st'⟩
      · intro I; show _ = _; rw [e1]; exact I
      · rintro ⟨y, a', sa', g1, g2, g3, g4, g5, g6, g7, g8⟩
        exact ⟨y, a', sa', g1, g2, g3, g4, by have := hd.1; dsimp only at this ⊢; omega, g6, by rw [e1]; exact g7, by rw [e2]; exact g8⟩
    | cons y ws =>
      obtain ⟨e, h⟩ := get_word hx
      unfold getS; rw [e]
      exact ⟨y, (pl, ws), b :: sa, rfl, h, .cons hf hs, h1, Int.le_refl _, hd, by rw [step_out]; simp, by rw [step_cost]; simp only; omega⟩
/-- the ledger lies apart, behind a pop -/
theorem nd_pop {P : Params} {lx dlx pb fs : Addr} {rest : News'} {ks vs : Nat → Tok} {cm : Str} {n n' : Int} {x f : Fm} {st : List Fm} {v1 v2 v3 v4 : Value}
    (h : ND (3 * (f :: st).length + 6) (gLed P lx dlx pb fs rest ks vs cm n x (f :: st) v1 v2)) : ND (3 * st.length + 6) (gLed P lx dlx pb fs rest ks vs cm n' f st v3 v4) := by
  have h : ND (3 * st.length + 1 + 1 + 1 + 1 + 1 + 1 + 1 + 1 + 1) _ := (show 3 * (f :: st).length + 6 = 3 * st.length + 1 + 1 + 1 + 1 + 1 + 1 + 1 + 1 + 1 by simp only [List.length_cons]; omega) ▸ h
  show ND (3 * st.length + 1 + 1 + 1 + 1 + 1 + 1) _
  simp only [gLed, rtLed, fmsLed, nd_cons, List.forall_mem_cons] at h ⊢
  obtain ⟨⟨e01, e02, e03, e04, e05, e06, e07, e08, q0⟩, ⟨e12, e13, e14, e15, e16, e17, e18, q1⟩, ⟨e23, e24, e25, e26, e27, e28, q2⟩, ⟨e34, e35, e36, e37, e38, q3⟩, ⟨e45, e46, e47, e48, q4⟩, ⟨e56, e57, e58, q5⟩, ⟨e67, e68, q6⟩, ⟨e78, q7⟩, q8, qr⟩ := h
  (repeat' apply And.intro) <;> first | assumption | exact Ne.symm (by assumption)
theorem nd_same {P : Params} {lx dlx pb fs : Addr} {rest : News'} {ks vs : Nat → Tok} {cm : Str} {n n' : Int} {x x' : Fm} {st : List Fm} {v1 v2 v3 v4 : Value} (e1 : x'.io = x.io) (e2 : x'.dio = x.dio)
    (h : ND (3 * st.length + 6) (gLed P lx dlx pb fs rest ks vs cm n x st v1 v2)) : ND (3 * st.length + 6) (gLed P lx dlx pb fs rest ks vs cm n' x' st v3 v4) := by
  have h : ND (3 * st.length + 1 + 1 + 1 + 1 + 1 + 1) _ := h
  show ND (3 * st.length + 1 + 1 + 1 + 1 + 1 + 1) _
  simp only [gLed, rtLed, nd_cons, List.forall_mem_cons] at h ⊢
  rw [e1, e2]; exact h
theorem nd_get {P : Params} {lx dlx pb fs : Addr} {rest : News'} {ks vs : Nat → Tok} {cm : Str} : ∀ (st : List Fm) {n n' : Int} {x x' : Fm} {st' : List Fm} {wd : List Nat} {v1 v2 v3 v4 : Value} {u : Tok}, getS st x = some (wd, x', st') →
    ND (3 * st.length + 6) (gLed P lx dlx pb fs rest ks vs cm n x st v1 v2) → ND (3 * st'.length + 6) (gLed P lx dlx pb fs rest ks vs cm n' { x' with u3 := u } st' v3 v4) ∧ st'.length ≤ st.length
  | [], n, n', x, x', st', wd, v1, v2, v3, v4, u, hg, h => by
    unfold getS at hg
    split at hg
    · cases hg; exact ⟨nd_same (x := x) rfl rfl h, Nat.le_refl _⟩
    · cases hg
  | f :: st, n, n', x, x', st', wd, v1, v2, v3, v4, u, hg, h => by
    unfold getS at hg
    split at hg
    · cases hg; exact ⟨nd_same (x := x) rfl rfl h, Nat.le_refl _⟩
    · have z := nd_get st (n := 0) (n' := n') (v1 := v1) (v2 := v2) (v3 := v3) (v4 := v4) (u := u) hg (nd_pop h)
      exact ⟨z.1, Nat.le_succ_of_le z.2⟩
end
section
open PySem PySem.W PyProof.Rows
/-- what get_token gives, in words -/
def GAPost (R : Rows4) (P : Params) (lx dlx pb fs : Addr) (rest : News') (ks vs : Nat → Tok) (cm : Str) (a : AF) (sa : List AF) (k : Nat) (r : Value) (news : News') : Prop :=
  (r = .none ∧ outF R a ++ outS R sa = [] ∧ ∀ q ∈ rest, q ∈ news) ∨
  (∃ y t n x' st' a' sa' s1 s2, r = .str (Wd.s y) t ∧ FrR x' a' ∧ StR st' sa' ∧ -1 ≤ a'.1 ∧ a'.1 ≤ a.1 ∧ Desc a'.1 sa' ∧ st'.length ≤ k ∧ outF R a ++ outS R sa = told1 a'.1 y (TT R y.n) ++ (outF R a' ++ outS R sa') ∧ costF a + costS sa = Wt a'.1 + (costF a' + costS sa') ∧
    ND (3 * st'.length + 6) (gLed P lx dlx pb fs rest ks vs cm n x' st' (.str (Str.ofString " ") s1) (.str (Str.ofString "") s2)) ∧ news = gLed P lx dlx pb fs rest ks vs cm n x' st' (.str (Str.ofString " ") s1) (.str (Str.ofString "") s2))
theorem get_post {R : Rows4} {P : Params} {lx dlx pb fs : Addr} {rest : News'} {ks vs : Nat → Tok} {cm : Str} {st : List Fm} {sa : List AF} {x : Fm} {a : AF} {n : Int} {v1 v2 : Value} (hx : FrR x a) (hs : StR st sa) (h1 : -1 ≤ a.1) (hd : Desc a.1 sa)
    (hnd : ND (3 * st.length + 6) (gLed P lx dlx pb fs rest ks vs cm n x st v1 v2)) {r : Value} {news : News'} (h : GPost P lx dlx pb fs rest ks vs cm x st r news) : GAPost R P lx dlx pb fs rest ks vs cm a sa st.length r news := by
  have A := getS_abs R hs x a hx h1 hd
  unfold GPost at h
  rcases hG : getS st x with _ | ⟨wd, x', st'⟩
  · rw [hG] at h A; dsimp only at h
    obtain ⟨e, n, x', s, en⟩ := h
    refine .inl ⟨e, A, ?_⟩
    intro q hq; rw [en]
    exact .tail _ (.tail _ (.tail _ (.tail _ (.tail _ (.tail _ hq)))))
  · rw [hG] at h A; dsimp only at h
    obtain ⟨⟨t, e⟩, n', u3, s1, s2, en⟩ := h
    obtain ⟨y, a', sa', ey, f', st'', g1, g2, g3, g4, g5⟩ := A
    subst ey
    have z := nd_get (n' := n') (v3 := .str (Str.ofString " ") s1) (v4 := .str (Str.ofString "") s2) (u := u3) st hG hnd
    exact .inr ⟨y, t, n', { x' with u3 := u3 }, st', a', sa', s1, s2, by rw [e, wd_s], f', st'', g1, g2, g3, z.2, g4, g5, z.1, en⟩
theorem c_getA (R : Rows4) (w p loose mean mg mb) (rest : News') (lx dlx pb fs : Addr) (ks vs : Nat → Tok) (cm : Str) (hcm : ∀ c ∈ okC, has cm ⟨#[c]⟩ = false) (st : List Fm) (sa : List AF) (x : Fm) (a : AF) (n : Int) (s1 s2 : Tok) (hx : FrR x a) (hs : StR st sa) (h1 : -1 ≤ a.1) (h2 : a.1 ≤ 2) (hd : Desc a.1 sa)
    (hnd : ND (3 * st.length + 6) (gLed w.params lx dlx pb fs rest ks vs cm n x st (.str (Str.ofString " ") s1) (.str (Str.ofString "") s2))) :
   Ctr w p loose mean mg mb (.ref 699) [.ref lx] [] (gLed w.params lx dlx pb fs rest ks vs cm n x st (.str (Str.ofString " ") s1) (.str (Str.ofString "") s2)) 16 220
      (fun r news' => GAPost R w.params lx dlx pb fs rest ks vs cm a sa st.length r news') := by
  intro dp un gd cn cs ac ccd cl outer A₀ base h₀ L m s Q E B F X N T hk hd' hu hret
  have hl : st.length ≤ 3 := by
    rw [hs.len]
    have := desc_len hd
    omega
  exact ctr_use (c_get w p loose mean mg mb rest lx dlx pb fs ks vs cm hcm st n x s1 s2 hx.ok hs.ok (by omega) hnd) B F X N T hk (by omega) (by omega) fun r n' h' tk' F' N' P' => hret r n' h' tk' F' N' (get_post hx hs h1 hd hnd P')
theorem tup_ne_inst {a b c : Value} {C d : Addr} : ({ cls := .type "tuple", data := .seq #[a, b, c] } : Obj) ≠ instObj C d := fun e => by
  have h : Value.type "tuple" = Value.ref C := congrArg Obj.cls e
  exact Value.noConfusion h
theorem tup_ne_dict {a b c : Value} {es : List DictEntry} {k : Nat} : ({ cls := .type "tuple", data := .seq #[a, b, c] } : Obj) ≠ dictOf es k := fun e => by
  have h : Value.type "tuple" = Value.type "dict" := congrArg Obj.cls e
  exact absurd h (by decide)
theorem tup_ne_dq {a b c : Value} {n : Int} {items : List Value} : ({ cls := .type "tuple", data := .seq #[a, b, c] } : Obj) ≠ dqObj n items := fun e => by
  have h : Value.type "tuple" = Value.type "collections.deque" := congrArg Obj.cls e
  exact absurd h (by decide)
theorem inst_ne_inst' {c d c' d' : Addr} (h : c ≠ c') : instObj c d ≠ instObj c' d' := fun e => h (by have := congrArg Obj.cls e; exact Value.ref.inj this)
/-- push_source, in words -/
def PAPost (P : Params) (lx dlx pb fs : Addr) (rest : News') (ks vs : Nat → Tok) (cm : Str) (x : Fm) (st : List Fm) (vst vtok : Value) (ws : List Wd) (num : Int) (r : Value) (news : News') : Prop :=
  r = .none ∧ ∃ n f x', FrR x' (num, ws) ∧ (∀ a, FrR x a → FrR f a) ∧ news = gLed P lx dlx pb fs rest ks vs cm n x' (f :: st) vst vtok ∧
    ND (3 * (f :: st).length + 6) (gLed P lx dlx pb fs rest ks vs cm n x' (f :: st) vst vtok)
theorem c_pushA (w p loose mean mg mb) (rest : News') (lx dlx pb fs : Addr) (ks vs : Nat → Tok) (cm : Str) (st : List Fm) (sa : List AF) (x : Fm) (a : AF) (n : Int) (vst vtok : Value) (hx : FrR x a) (hs : StR st sa) (hl : st.length ≤ 100)
    (hnd : ND (3 * st.length + 6) (gLed w.params lx dlx pb fs rest ks vs cm n x st vst vtok)) (q : Row) (hq : q.length ≤ 4) (t : Tok) (num : Int) (h0 : 0 ≤ num) (t' : Tok) :
   Ctr w p loose mean mg mb (.ref 685) [.ref lx, .str (rowT q) t, .int num t'] [] (gLed w.params lx dlx pb fs rest ks vs cm n x st vst vtok) 10 160
      (fun r news' => PAPost w.params lx dlx pb fs rest ks vs cm x st vst vtok (q.map (·.1)) num r news') := by
  intro dp un gd cn cs ac ccd cl outer A₀ base h₀ L m s Q E B F X N T hk hd' hu hret
  have hok := hx.ok
  have hnd : ND (3 * st.length + 1 + 1 + 1 + 1 + 1 + 1) _ := hnd
  simp only [gLed, rtLed, nd_cons, List.forall_mem_cons] at hnd
  obtain ⟨⟨e01, e02, e03, e04, e05, q0⟩, ⟨e12, e13, e14, e15, q1⟩, ⟨e23, e24, e25, q2⟩, ⟨e34, e35, q3⟩, ⟨e45, q4⟩, q5, qr⟩ := hnd
  refine' ctr_use (c_push w p loose mean mg mb ((pb, dqObj 0 []) :: (x.io, instObj 603 x.dio) :: (x.dio, sioD x.h1 x.h2 x.h3 x.t1 x.t2 x.t3 x.u1 x.u2 x.u3 ⟨x.l.toArray⟩ (x.p : Int)) :: fmsLed st rest) lx dlx pb fs ks vs cm x.io x.vfile vst x.vln vtok n (st.map fun f => .ref f.tp) (rowT q) t num t' ?o2 ?o3 e45 ?hz hok.2.2.1 hok.2.2.2) B F X ?N T hk (by omega) (by omega) ?_
  case o2 => simp only [List.forall_mem_cons]; exact ⟨e35, e03.symm, e13.symm, q3⟩
  case o3 => simp only [List.forall_mem_cons]; exact ⟨e45, e04.symm, e14.symm, q4⟩
  case hz => rw [List.length_map]; omega
  case N => exact N.perm (by intro z hz; simp only [gLed, rtLed, List.mem_cons] at hz ⊢; grind)
  intro r n' h' tk' F' N' P'
  obtain ⟨er, tp, io', dio', h1, h2, h3, t1, t2, t3, u1, u2, u3, s2, en, off⟩ := P'
  subst er en
  simp only [List.forall_mem_cons] at off
  obtain ⟨⟨a1, a2, a3⟩, ⟨b1, b2, b3⟩, ⟨c1, c2, c3⟩, off⟩ := off
  have f1 : tp ≠ io' := ne_obj N' (.head _) (.tail _ (.head _)) tup_ne_inst
  have f2 : tp ≠ dio' := ne_obj N' (.head _) (.tail _ (.tail _ (.head _))) tup_ne_dict
  have f3 : tp ≠ fs := ne_obj N' (.head _) (.tail _ (.tail _ (.tail _ (.head _)))) tup_ne_dq
  have f4 : tp ≠ lx := ne_obj N' (.head _) (.tail _ (.tail _ (.tail _ (.tail _ (.head _))))) tup_ne_inst
  have f5 : tp ≠ dlx := ne_obj N' (.head _) (.tail _ (.tail _ (.tail _ (.tail _ (.tail _ (.head _)))))) tup_ne_dict
  have g1 : io' ≠ dio' := ne_obj N' (.tail _ (.head _)) (.tail _ (.tail _ (.head _))) inst_ne_dict
  have g2 : fs ≠ io' := ne_obj N' (.tail _ (.tail _ (.tail _ (.head _)))) (.tail _ (.head _)) dq_ne_inst
  have g3 : io' ≠ lx := ne_obj N' (.tail _ (.head _)) (.tail _ (.tail _ (.tail _ (.tail _ (.head _))))) (inst_ne_inst' (by decide))
  have g4 : io' ≠ dlx := ne_obj N' (.tail _ (.head _)) (.tail _ (.tail _ (.tail _ (.tail _ (.tail _ (.head _)))))) inst_ne_dict
  have g5 : fs ≠ dio' := ne_obj N' (.tail _ (.tail _ (.tail _ (.head _)))) (.tail _ (.tail _ (.head _))) dq_ne_dict
  have g6 : lx ≠ dio' := ne_obj N' (.tail _ (.tail _ (.tail _ (.tail _ (.head _))))) (.tail _ (.tail _ (.head _))) inst_ne_dict
  have g7 : dio' ≠ dlx := ne_obj N' (.tail _ (.tail _ (.head _))) (.tail _ (.tail _ (.tail _ (.tail _ (.tail _ (.head _)))))) (dict_ne_len (by show (3 : Nat) ≠ 19; decide))
  have o1 := fun z hz => (off z hz).1
  have o2 := fun z hz => (off z hz).2.1
  have o3 := fun z hz => (off z hz).2.2
  refine hret .none (gLed w.params lx dlx pb fs rest ks vs cm (n + 1) ⟨0, io', dio', h1, h2, h3, t1, t2, t3, u1, u2, u3, tx (q.map (·.1)), 0, .int num t', .int 1 s2⟩ ({ x with tp := tp } :: st) vst vtok) h' tk' F' (N'.perm ?_) ⟨rfl, _, { x with tp := tp }, _, ?_, fun _ z => z, rfl, ?_⟩
  · intro z hz
    simp only [gLed, rtLed, fmsLed, List.map_cons, List.mem_cons] at hz ⊢
    show _ ∨ _
    rcases hz with hz | hz | hz | hz | hz | hz | hz | hz | hz | hz <;> simp only [hz, true_or, or_true]
    all_goals first | trivial | exact .inr (.inl rfl) | (simp [rowT])
  · refine ⟨rfl, ?_, rfl, .inr ⟨h0, t', rfl⟩⟩
    have := tx_len (q.map (·.1))
    rw [List.length_map] at this
    show (tx _).length ≤ _
    omega
  · show ND (3 * st.length + 1 + 1 + 1 + 1 + 1 + 1 + 1 + 1 + 1) _
    simp only [gLed, rtLed, fmsLed, nd_cons, List.forall_mem_cons]
    (repeat' apply And.intro) <;> first | assumption | exact Ne.symm (by assumption)
end
section
section
open PySem PySem.W PyProof.Rows
theorem ws_US : True := by
  (k_with_none; (k_with "w1" => ((refine' code_def ?k1 ?k2 ?k3 ?k4 ?k5 ?kA ?kF ?kK ?k6 ?k7 ?k8 ?k9 ?kB ?_ ?c2 ?c3 ?c4 ?c5; (case kA => exact rfl); (case kF => exact rfl); (case kK => first | (with_reducible assumption) | assumption); (case k1 => k_asm); (case k2 => k_asm); (case k3 => k_asm); (case k4 => k_asm); (case k5 => k_asm); (case k6 => k_is); (case k7 => k_is); (case k8 => ktr_room); (case k9 => first | exact BindsTo.of_eq rfl | exact binds_K (by k_in) rfl (by k_is) rfl rfl rfl); (case c5 => decide); (case kB => exact locs rfl); (case c2 => exact rfl); (case c3 => exact rfl); (case c4 => exact rfl); k_whole; intro g'zz L'zz h'zz FG'zz F'zz N'zz B'zz X'zz T'zz; (try dsimp only); (try k_fold)))); (k_with "w2" => (((case k1 => k_asm); (case k2 => k_asm); (case k3 => k_asm); (case k4 => k_asm); (case k5 => k_asm); (case kK => first | (with_reducible assumption) | exact rfl | assumption); (case kd => ktr_room); (case ku => ktr_units)))); (k_with "w3" => (first | (refine in_has (b := false) ?hh ?_; (case hh => first | assumption | decide +kernel)) | (refine in_has (b := true) ?hh ?_; (case hh => first | assumption | decide +kernel)) | (refine in_has rfl ?_))); (k_with "w4" => (first | (refine notin_has (b := false) ?hh ?_; (case hh => first | assumption | decide +kernel)) | (refine notin_has (b := true) ?hh ?_; (case hh => first | assumption | decide +kernel)))); (k_with "w5" => (first | (refine eq_b (b := false) ?hh ?_; (case hh => first | assumption | decide +kernel)) | (refine eq_b (b := true) ?hh ?_; (case hh => first | assumption | decide +kernel)))); (k_with "w6" => (((first | (refine truthy_b (b := true) ?hh ?hl ?_; (case hh => first | assumption | exact full_one _ | decide +kernel); (case hl => first | assumption | exact one_short _ | decide +kernel)) | (refine truthy_b (b := false) ?hh ?hl ?_; (case hh => first | assumption | decide +kernel); (case hl => first | assumption | decide +kernel))); intro _))); (k_with "w7" => ((refine' kp_both ?k1 ?k2 ?k3 ?k4 ?k5 ?kA ?kF ?kK ?k6 ?k7 ?k8 ?kV ?kX ?kQ ?kM ?kN ?kD ?kR ?kP ?kS ?kT ?kB ?_ ?c2 ?c3 ?c4 ?c5; (case kA => exact rfl); (case kF => exact rfl); (case kK => first | (with_reducible assumption) | assumption); (case k1 => k_asm); (case k2 => k_asm); (case k3 => k_asm); (case k4 => k_asm); (case k5 => k_asm); (case k6 => k_is); (case k7 => k_is); (case k8 => ktr_room); (case kV => kp_lit); (case kX => kp_lit); (case kQ => exact rfl); (case kM => exact rfl); (case kN => exact rfl); (case kD => kp_flats); (case kR => exact rfl); (case kP => exact rfl); (case kS => exact fun _ => rfl); (case kT => exact fun _ _ => rfl); (case kB => exact fun _ _ => locs rfl); (case c5 => decide); (case c2 => exact rfl); (case c3 => exact rfl); (case c4 => exact rfl); k_whole; intro C'zz D'zz o'zz g'zz L'zz h'zz tk'zz l1zz l2zz lo'zz hs'zz fs'zz FG'zz F'zz N'zz B'zz X'zz T'zz; (try k_lt l1zz); (try k_lt2 l2zz); (try dsimp only); (try k_fold)))); (k_with "w8" => (((with_reducible show wpAny _ _ (callWith _ (Value.builtin _) (_ :: _) (backTo _ (starEach (_ :: _) _)) []) _ _ _); refine callWith_method1 ?_))); (k_with "w9" => ((k_here; k_dflt (refine' get_own ?k1 ?k2 ?k3 ?k4 ?k5 ?k6 ?k7 ?k8 ?k9 ?_; (case k1 => k_asm); (case k2 => k_asm); (case k3 => k_inst); (case k4 => k_is); (case k5 => k_is); (case k6 => k_is); (case k7 => k_is); (case k8 => k_get); (case k9 => k_handed); k_whole)))); (k_with "w10" => (((repeat (first | (with_reducible exact List.forall_mem_nil _) | (intro pzz hpzz; (repeat (first | (with_reducible exact hpzz) | (with_reducible refine List.mem_cons_of_mem _ ?_))); done) | (refine List.forall_mem_cons.mpr ⟨by k_mem, ?_⟩))); first | done | (intro pzz hpzz; repeat (first | exact hpzz | apply List.Mem.tail))))); (k_with "w35" => ((k_here; with_reducible refine gen_toks ?_; intro tkzz htkzz; (try dsimp only at htkzz)))); (k_with "w36" => ((k_here; with_reducible refine gen_toks ?_; intro tkzz htkzz; (try dsimp only at htkzz)))); (k_with "w37" => ((k_here; k_extra "mine:replace"))); (k_with "w38" => ((k_here; (rename Fr _ _ _ _ => lF'zz); with_unfolding_all ((refine' For_turns lF'zz ?_); k_whole)))); (k_with "w39" => ((k_here; k_dflt (refine' get_items3 ?N ?hm ?_; (case N => k_asm); (case hm => k_mem))))); (k_with "w40" => ((k_here; k_dflt (refine' call_items3 ?F ?N ?hm ?lo ?a ?b ?c ?_; (case F => k_asm); (case N => k_asm); (case hm => k_mem); (case lo => assumption); (case a => decide +kernel); (case b => decide +kernel); (case c => decide +kernel)); intro vw'zz h'zz hvw'zz F'zz N'zz))); (k_with "w41" => ((k_here; k_dflt (refine' truthy3 ?N ?hm ?lo ?a ?b ?c ?_; (case N => k_asm); (case hm => k_mem); (case lo => assumption); (case a => decide +kernel); (case b => decide +kernel); (case c => decide +kernel))))); trivial)
theorem len_replace (x y z : Str) : (Txt.replace x y z).length ≤ x.length + (x.length + 1) * z.length := by
  unfold Txt.replace
  split
  · omega
  · have h1 := PySem.StrLaws.occ_length_le x y 0 x.length (x.length + 1)
    have hy : (Builtin.Str.glued y (Builtin.Str.partsBetween x (Builtin.Str.occurrences x y 0 x.length (x.length + 1)) y.length)).length = x.length := by rw [PySem.StrLaws.glued_between_self]
    rw [size_glued, length_partsBetween, Nat.add_sub_cancel] at hy
    rw [size_glued, length_partsBetween, Nat.add_sub_cancel]
    have h2 : (Builtin.Str.occurrences x y 0 x.length (x.length + 1)).length * z.length ≤ (x.length + 1) * z.length := Nat.mul_le_mul_right _ h1
    omega
theorem repl_T {prog : Program} {w : World} {A : Around} {E : Value → Shared → Prop} {s : Shared} {Q : Value → Shared → Prop} {x y z : Str} {t u v : Tok} (hu : u ≠ 0) (hv : v ≠ 0) (huv : u ≠ v) (hyz : (y == z) = false) {a b : Nat} (hx : x.length ≤ a) (hz : z.length ≤ b) (hab : a + (a + 1) * b ≤ 16777216)
    (hq : ∀ t' k, s.toks ≤ k → (Txt.replace x y z).length ≤ a + (a + 1) * b → Q (.str (Txt.replace x y z) t') { s with toks := k }) : wpAny (model prog w) A (call (.builtin "str.replace") [.str x t, .str y u, .str z v]) Q E s := by
  have h1 : (x.length + 1) * z.length ≤ (a + 1) * b := Nat.mul_le_mul (by omega) hz
  have h2 := len_replace x y z
  exact up (PySem.SC.replace hu hv huv hyz (by omega) fun t' k hle => hq t' k hle (by omega))
def unesc (x z0 z1 z2 : Str) : Str := Txt.replace (Txt.replace (Txt.replace (Txt.replace (Txt.replace (Txt.replace x (Str.ofString "&lt;") (Str.ofString "<")) (Str.ofString "&gt;") (Str.ofString ">")) (Str.ofString "&e0;") z0) (Str.ofString "&e1;") z1) (Str.ofString "&e2;") z2) (Str.ofString "&amp;") (Str.ofString "&")
theorem frame3 {m : Str → Option Value} {a b c : Str} {v : Option Value} (h1 : m a = v) (h2 : m b = none) (h3 : m c = none) : m = fun y => if y = a then v else if y = b then none else if y = c then none else m y := by
  funext y
  split
  · rename_i e; rw [e, h1]
  split
  · rename_i e; rw [e, h2]
  split
  · rename_i e; rw [e, h3]
  · rfl
theorem frame33 {m : Str → Option Value} {a b c : Str} {u v x u' v' x' : Option Value} : (fun y => if y = a then u else if y = b then v else if y = c then x else if y = a then u' else if y = b then v' else if y = c then x' else m y) = fun y => if y = a then u else if y = b then v else if y = c then x else m y := by
  funext y
  split
  · rfl
  split
  · rfl
  split
  · rfl
  · rfl
def K3 (i : Nat) : Str := match i with | 0 => Str.ofString "&e0;" | 1 => Str.ofString "&e1;" | _ => Str.ofString "&e2;"
def R3 (x z0 z1 z2 : Str) (i : Nat) : Str := match i with
  | 0 => x
  | 1 => Txt.replace x (Str.ofString "&e0;") z0
  | 2 => Txt.replace (Txt.replace x (Str.ofString "&e0;") z0) (Str.ofString "&e1;") z1
  | _ => Txt.replace (Txt.replace (Txt.replace x (Str.ofString "&e0;") z0) (Str.ofString "&e1;") z1) (Str.ofString "&e2;") z2
/-- the word of the loop over the pairs -/
def JR (x z0 z1 z2 : Str) (m₀ : Str → Option Value) (i : Nat) (m : Str → Option Value) : Prop :=
  ∃ vk vv ts, m = (fun y => if y = Str.ofString "s" then some (.str (R3 x z0 z1 z2 i) ts) else if y = Str.ofString "value" then vv else if y = Str.ofString "key" then vk else m₀ y) ∧ (R3 x z0 z1 z2 i).length ≤ (match i with | 0 => 147 | 1 => 5475 | 2 => 202611 | _ => 7496643)
set_option maxRecDepth 100000 in
set_option maxHeartbeats 0 in
theorem c_dictrep (w p loose mean mg mb) (rest : News') (dd : Addr) (x z0 z1 z2 : Str) (t u0 u1 u2 b0 b1 b2 : Tok) (hx : x.length ≤ 147) (hz0 : z0.length ≤ 36) (hz1 : z1.length ≤ 36) (hz2 : z2.length ≤ 36)
   (lo : (dd == sysModules) = false) (n0 : u0 ≠ 0 ∧ b0 ≠ 0 ∧ u0 ≠ b0) (n1 : u1 ≠ 0 ∧ b1 ≠ 0 ∧ u1 ≠ b1) (n2 : u2 ≠ 0 ∧ b2 ≠ 0 ∧ u2 ≠ b2) (e0 : (Str.ofString "&e0;" == z0) = false) (e1 : (Str.ofString "&e1;" == z1) = false) (e2 : (Str.ofString "&e2;" == z2) = false)
   : Ctr w p loose mean mg mb (.ref 46) [.str x t, .ref dd] [] ((dd, dictOf [ent w (Str.ofString "&e0;") u0 (.str z0 b0), ent w (Str.ofString "&e1;") u1 (.str z1 b1), ent w (Str.ofString "&e2;") u2 (.str z2 b2)] 3) :: rest) 4 80
      (fun r news' => (∃ t', r = .str (Txt.replace (Txt.replace (Txt.replace x (Str.ofString "&e0;") z0) (Str.ofString "&e1;") z1) (Str.ofString "&e2;") z2) t') ∧ (Txt.replace (Txt.replace (Txt.replace x (Str.ofString "&e0;") z0) (Str.ofString "&e1;") z1) (Str.ofString "&e2;") z2).length ≤ 7496643 ∧ news' = ((dd, dictOf [ent w (Str.ofString "&e0;") u0 (.str z0 b0), ent w (Str.ofString "&e1;") u1 (.str z1 b1), ent w (Str.ofString "&e2;") u2 (.str z2 b2)] 3) :: rest)) := by
  intro dp un gd cn cs a ccd cl outer A₀ base h₀ L m s Q E B F X N T hk hd hu hret
  refine wpAny_call ?_
  k_dflt (walk_at "mine:enter")
  (k_with_none; (k_with "w1" => ((refine' code_def ?k1 ?k2 ?k3 ?k4 ?k5 ?kA ?kF ?kK ?k6 ?k7 ?k8 ?k9 ?kB ?_ ?c2 ?c3 ?c4 ?c5; (case kA => exact rfl); (case kF => exact rfl); (case kK => first | (with_reducible assumption) | assumption); (case k1 => k_asm); (case k2 => k_asm); (case k3 => k_asm); (case k4 => k_asm); (case k5 => k_asm); (case k6 => k_is); (case k7 => k_is); (case k8 => ktr_room); (case k9 => first | exact BindsTo.of_eq rfl | exact binds_K (by k_in) rfl (by k_is) rfl rfl rfl); (case c5 => decide); (case kB => exact locs rfl); (case c2 => exact rfl); (case c3 => exact rfl); (case c4 => exact rfl); k_whole; intro g'zz L'zz h'zz FG'zz F'zz N'zz B'zz X'zz T'zz; (try dsimp only); (try k_fold)))); (k_with "w2" => (((case k1 => k_asm); (case k2 => k_asm); (case k3 => k_asm); (case k4 => k_asm); (case k5 => k_asm); (case kK => first | (with_reducible assumption) | exact rfl | assumption); (case kd => ktr_room); (case ku => ktr_units)))); (k_with "w3" => (first | (refine in_has (b := false) ?hh ?_; (case hh => first | assumption | decide +kernel)) | (refine in_has (b := true) ?hh ?_; (case hh => first | assumption | decide +kernel)) | (refine in_has rfl ?_))); (k_with "w4" => (first | (refine notin_has (b := false) ?hh ?_; (case hh => first | assumption | decide +kernel)) | (refine notin_has (b := true) ?hh ?_; (case hh => first | assumption | decide +kernel)))); (k_with "w5" => (first | (refine eq_b (b := false) ?hh ?_; (case hh => first | assumption | decide +kernel)) | (refine eq_b (b := true) ?hh ?_; (case hh => first | assumption | decide +kernel)))); (k_with "w6" => (((first | (refine truthy_b (b := true) ?hh ?hl ?_; (case hh => first | assumption | exact full_one _ | decide +kernel); (case hl => first | assumption | exact one_short _ | decide +kernel)) | (refine truthy_b (b := false) ?hh ?hl ?_; (case hh => first | assumption | decide +kernel); (case hl => first | assumption | decide +kernel))); intro _))); (k_with "w7" => ((refine' kp_both ?k1 ?k2 ?k3 ?k4 ?k5 ?kA ?kF ?kK ?k6 ?k7 ?k8 ?kV ?kX ?kQ ?kM ?kN ?kD ?kR ?kP ?kS ?kT ?kB ?_ ?c2 ?c3 ?c4 ?c5; (case kA => exact rfl); (case kF => exact rfl); (case kK => first | (with_reducible assumption) | assumption); (case k1 => k_asm); (case k2 => k_asm); (case k3 => k_asm); (case k4 => k_asm); (case k5 => k_asm); (case k6 => k_is); (case k7 => k_is); (case k8 => ktr_room); (case kV => kp_lit); (case kX => kp_lit); (case kQ => exact rfl); (case kM => exact rfl); (case kN => exact rfl); (case kD => kp_flats); (case kR => exact rfl); (case kP => exact rfl); (case kS => exact fun _ => rfl); (case kT => exact fun _ _ => rfl); (case kB => exact fun _ _ => locs rfl); (case c5 => decide); (case c2 => exact rfl); (case c3 => exact rfl); (case c4 => exact rfl); k_whole; intro C'zz D'zz o'zz g'zz L'zz h'zz tk'zz l1zz l2zz lo'zz hs'zz fs'zz FG'zz F'zz N'zz B'zz X'zz T'zz; (try k_lt l1zz); (try k_lt2 l2zz); (try dsimp only); (try k_fold)))); (k_with "w8" => (((with_reducible show wpAny _ _ (callWith _ (Value.builtin _) (_ :: _) (backTo _ (starEach (_ :: _) _)) []) _ _ _); refine callWith_method1 ?_))); (k_with "w9" => ((k_here; k_dflt (refine' get_own ?k1 ?k2 ?k3 ?k4 ?k5 ?k6 ?k7 ?k8 ?k9 ?_; (case k1 => k_asm); (case k2 => k_asm); (case k3 => k_inst); (case k4 => k_is); (case k5 => k_is); (case k6 => k_is); (case k7 => k_is); (case k8 => k_get); (case k9 => k_handed); k_whole)))); (k_with "w10" => (((repeat (first | (with_reducible exact List.forall_mem_nil _) | (intro pzz hpzz; (repeat (first | (with_reducible exact hpzz) | (with_reducible refine List.mem_cons_of_mem _ ?_))); done) | (refine List.forall_mem_cons.mpr ⟨by k_mem, ?_⟩))); first | done | (intro pzz hpzz; repeat (first | exact hpzz | apply List.Mem.tail))))); (k_with "w35" => ((k_here; with_reducible refine gen_toks ?_; intro tkzz htkzz; (try dsimp only at htkzz)))); (k_with "w36" => ((k_here; with_reducible refine gen_toks ?_; intro tkzz htkzz; (try dsimp only at htkzz)))); (k_with "w37" => ((k_here; k_extra "mine:replace"))); (k_with "w38" => ((k_here; (rename Fr _ _ _ _ => lF'zz); with_unfolding_all ((refine' For_turns lF'zz ?_); k_whole)))); (k_with "w39" => ((k_here; k_dflt (refine' get_items3 ?N ?hm ?_; (case N => k_asm); (case hm => k_mem))))); (k_with "w40" => ((k_here; k_dflt (refine' call_items3 ?F ?N ?hm ?lo ?a ?b ?c ?_; (case F => k_asm); (case N => k_asm); (case hm => k_mem); (case lo => assumption); (case a => decide +kernel); (case b => decide +kernel); (case c => decide +kernel)); intro vw'zz h'zz hvw'zz F'zz N'zz))); (k_with "w41" => ((k_here; k_dflt (refine' truthy3 ?N ?hm ?lo ?a ?b ?c ?_; (case N => k_asm); (case hm => k_mem); (case lo => assumption); (case a => decide +kernel); (case b => decide +kernel); (case c => decide +kernel))))); skip)
  (k_with "mine:replace" => (k_dflt (refine' repl_T ?hu ?hv ?huv ?hyz ?hx ?hz ?hab ?_; (case hu => assumption); (case hv => assumption); (case huv => assumption); (case hyz => assumption); (case hx => assumption); (case hz => assumption); (case hab => decide); intro t' k' hk' hlen')))
  k_steps
  k_here
  rename (∃ ov, _ ∧ _) => hvw
  refine' iter_pairs (JR x z0 z1 z2 _) ?hel ?hkx ?hky ?hp ?hh ?F ?N hvw ?hm ?a ?b ?c ?hj ?turn ?done
  case hel => exact rfl
  case hkx => exact rfl
  case hky => exact rfl
  case hp => exact rfl
  case hh => exact rfl
  case F => k_asm
  case N => k_asm
  case hm => k_mem
  case a => decide +kernel
  case b => decide +kernel
  case c => decide +kernel
  case hj =>
    refine ⟨none, none, t, ?em, hx⟩
    case em => refine frame3 ?_ ?_ ?_ <;> kernel_rfl
  all_goals refine Held.out ?_
  case turn =>
    intro i e m1 h1 tk1 I itO T he hJ F1 N1
    obtain ⟨vk, vv, ts, em, hl⟩ := hJ
    subst em
    dsimp only [envOf] at F1 N1
    match i, he with
    | 0, he =>
      obtain rfl := Option.some.inj he
      obtain ⟨p1, p2, p3⟩ := n0
      (try k_fold)
      k_steps
      all_goals (
        refine' ⟨rfl, _, _, _, rfl, (by k_asm), News.perm (by k_asm) (by walk_at "mine:sub"), _, _, _, ?em, (by assumption)⟩
        case em => exact frame33)
    | 1, he =>
      obtain rfl := Option.some.inj he
      obtain ⟨p1, p2, p3⟩ := n1
      (try k_fold)
      k_steps
      all_goals (
        refine' ⟨rfl, _, _, _, rfl, (by k_asm), News.perm (by k_asm) (by walk_at "mine:sub"), _, _, _, ?em, (by assumption)⟩
        case em => exact frame33)
    | 2, he =>
      obtain rfl := Option.some.inj he
      obtain ⟨p1, p2, p3⟩ := n2
      (try k_fold)
      k_steps
      all_goals (
        refine' ⟨rfl, _, _, _, rfl, (by k_asm), News.perm (by k_asm) (by walk_at "mine:sub"), _, _, _, ?em, (by assumption)⟩
        case em => exact frame33)
    | i + 3, he => simp at he
  case done =>
    intro m1 h1 tk1 hJ F1 N1
    obtain ⟨vk, vv, ts, em, hl⟩ := hJ
    subst em
    dsimp only [envOf] at F1 N1
    dsimp only
    k_steps
    all_goals exact hret _ _ _ _ (by k_asm) (by k_asm) ⟨⟨_, rfl⟩, hl, rfl⟩
set_option maxRecDepth 100000 in
set_option maxHeartbeats 0 in
theorem c_unesc (w p loose mean mg mb) (rest : News') (dd : Addr) (x z0 z1 z2 : Str) (t u0 u1 u2 b0 b1 b2 : Tok) (hx : x.length ≤ 36) (hz0 : z0.length ≤ 36) (hz1 : z1.length ≤ 36) (hz2 : z2.length ≤ 36)
   (lo : (dd == sysModules) = false) (n0 : u0 ≠ 0 ∧ b0 ≠ 0 ∧ u0 ≠ b0) (n1 : u1 ≠ 0 ∧ b1 ≠ 0 ∧ u1 ≠ b1) (n2 : u2 ≠ 0 ∧ b2 ≠ 0 ∧ u2 ≠ b2) (e0 : (Str.ofString "&e0;" == z0) = false) (e1 : (Str.ofString "&e1;" == z1) = false) (e2 : (Str.ofString "&e2;" == z2) = false)
   : Ctr w p loose mean mg mb (.ref 55) [.str x t, .ref dd] [] ((dd, dictOf [ent w (Str.ofString "&e0;") u0 (.str z0 b0), ent w (Str.ofString "&e1;") u1 (.str z1 b1), ent w (Str.ofString "&e2;") u2 (.str z2 b2)] 3) :: rest) 10 160
      (fun r news' => (∃ t', r = .str (unesc x z0 z1 z2) t') ∧ news' = ((dd, dictOf [ent w (Str.ofString "&e0;") u0 (.str z0 b0), ent w (Str.ofString "&e1;") u1 (.str z1 b1), ent w (Str.ofString "&e2;") u2 (.str z2 b2)] 3) :: rest)) := by
  intro dp un gd cn cs a ccd cl outer A₀ base h₀ L m s Q E B F X N T hk hd hu hret
  refine wpAny_call ?_
  k_dflt (walk_at "mine:enter")
  refine gen_pos (Nat.le_add_left 1 (s.toks + 1)) ?_
  intro tk htk
  (k_with_none; (k_with "w1" => ((refine' code_def ?k1 ?k2 ?k3 ?k4 ?k5 ?kA ?kF ?kK ?k6 ?k7 ?k8 ?k9 ?kB ?_ ?c2 ?c3 ?c4 ?c5; (case kA => exact rfl); (case kF => exact rfl); (case kK => first | (with_reducible assumption) | assumption); (case k1 => k_asm); (case k2 => k_asm); (case k3 => k_asm); (case k4 => k_asm); (case k5 => k_asm); (case k6 => k_is); (case k7 => k_is); (case k8 => ktr_room); (case k9 => first | exact BindsTo.of_eq rfl | exact binds_K (by k_in) rfl (by k_is) rfl rfl rfl); (case c5 => decide); (case kB => exact locs rfl); (case c2 => exact rfl); (case c3 => exact rfl); (case c4 => exact rfl); k_whole; intro g'zz L'zz h'zz FG'zz F'zz N'zz B'zz X'zz T'zz; (try dsimp only); (try k_fold)))); (k_with "w2" => (((case k1 => k_asm); (case k2 => k_asm); (case k3 => k_asm); (case k4 => k_asm); (case k5 => k_asm); (case kK => first | (with_reducible assumption) | exact rfl | assumption); (case kd => ktr_room); (case ku => ktr_units)))); (k_with "w3" => (first | (refine in_has (b := false) ?hh ?_; (case hh => first | assumption | decide +kernel)) | (refine in_has (b := true) ?hh ?_; (case hh => first | assumption | decide +kernel)) | (refine in_has rfl ?_))); (k_with "w4" => (first | (refine notin_has (b := false) ?hh ?_; (case hh => first | assumption | decide +kernel)) | (refine notin_has (b := true) ?hh ?_; (case hh => first | assumption | decide +kernel)))); (k_with "w5" => (first | (refine eq_b (b := false) ?hh ?_; (case hh => first | assumption | decide +kernel)) | (refine eq_b (b := true) ?hh ?_; (case hh => first | assumption | decide +kernel)))); (k_with "w6" => (((first | (refine truthy_b (b := true) ?hh ?hl ?_; (case hh => first | assumption | exact full_one _ | decide +kernel); (case hl => first | assumption | exact one_short _ | decide +kernel)) | (refine truthy_b (b := false) ?hh ?hl ?_; (case hh => first | assumption | decide +kernel); (case hl => first | assumption | decide +kernel))); intro _))); (k_with "w7" => ((refine' kp_both ?k1 ?k2 ?k3 ?k4 ?k5 ?kA ?kF ?kK ?k6 ?k7 ?k8 ?kV ?kX ?kQ ?kM ?kN ?kD ?kR ?kP ?kS ?kT ?kB ?_ ?c2 ?c3 ?c4 ?c5; (case kA => exact rfl); (case kF => exact rfl); (case kK => first | (with_reducible assumption) | assumption); (case k1 => k_asm); (case k2 => k_asm); (case k3 => k_asm); (case k4 => k_asm); (case k5 => k_asm); (case k6 => k_is); (case k7 => k_is); (case k8 => ktr_room); (case kV => kp_lit); (case kX => kp_lit); (case kQ => exact rfl); (case kM => exact rfl); (case kN => exact rfl); (case kD => kp_flats); (case kR => exact rfl); (case kP => exact rfl); (case kS => exact fun _ => rfl); (case kT => exact fun _ _ => rfl); (case kB => exact fun _ _ => locs rfl); (case c5 => decide); (case c2 => exact rfl); (case c3 => exact rfl); (case c4 => exact rfl); k_whole; intro C'zz D'zz o'zz g'zz L'zz h'zz tk'zz l1zz l2zz lo'zz hs'zz fs'zz FG'zz F'zz N'zz B'zz X'zz T'zz; (try k_lt l1zz); (try k_lt2 l2zz); (try dsimp only); (try k_fold)))); (k_with "w8" => (((with_reducible show wpAny _ _ (callWith _ (Value.builtin _) (_ :: _) (backTo _ (starEach (_ :: _) _)) []) _ _ _); refine callWith_method1 ?_))); (k_with "w9" => ((k_here; k_dflt (refine' get_own ?k1 ?k2 ?k3 ?k4 ?k5 ?k6 ?k7 ?k8 ?k9 ?_; (case k1 => k_asm); (case k2 => k_asm); (case k3 => k_inst); (case k4 => k_is); (case k5 => k_is); (case k6 => k_is); (case k7 => k_is); (case k8 => k_get); (case k9 => k_handed); k_whole)))); (k_with "w10" => (((repeat (first | (with_reducible exact List.forall_mem_nil _) | (intro pzz hpzz; (repeat (first | (with_reducible exact hpzz) | (with_reducible refine List.mem_cons_of_mem _ ?_))); done) | (refine List.forall_mem_cons.mpr ⟨by k_mem, ?_⟩))); first | done | (intro pzz hpzz; repeat (first | exact hpzz | apply List.Mem.tail))))); (k_with "w35" => ((k_here; with_reducible refine gen_toks ?_; intro tkzz htkzz; (try dsimp only at htkzz)))); (k_with "w36" => ((k_here; with_reducible refine gen_toks ?_; intro tkzz htkzz; (try dsimp only at htkzz)))); (k_with "w37" => ((k_here; k_extra "mine:replace"))); (k_with "w38" => ((k_here; (rename Fr _ _ _ _ => lF'zz); with_unfolding_all ((refine' For_turns lF'zz ?_); k_whole)))); (k_with "w39" => ((k_here; k_dflt (refine' get_items3 ?N ?hm ?_; (case N => k_asm); (case hm => k_mem))))); (k_with "w40" => ((k_here; k_dflt (refine' call_items3 ?F ?N ?hm ?lo ?a ?b ?c ?_; (case F => k_asm); (case N => k_asm); (case hm => k_mem); (case lo => assumption); (case a => decide +kernel); (case b => decide +kernel); (case c => decide +kernel)); intro vw'zz h'zz hvw'zz F'zz N'zz))); (k_with "w41" => ((k_here; k_dflt (refine' truthy3 ?N ?hm ?lo ?a ?b ?c ?_; (case N => k_asm); (case hm => k_mem); (case lo => assumption); (case a => decide +kernel); (case b => decide +kernel); (case c => decide +kernel))))); skip)
  (k_with "mine:replace" => (k_dflt (refine' repl_T ?hu ?hv ?huv ?hyz ?hx ?hz ?hab ?_; (case hu => ((try dsimp only); (show @Ne Nat _ _); omega)); (case hv => ((try dsimp only); (show @Ne Nat _ _); omega)); (case huv => ((try dsimp only); (show @Ne Nat _ _); omega)); (case hyz => decide +kernel); (case hx => assumption); (case hz => exact Nat.le_refl 1); (case hab => decide); intro t' k' hk' hlen'; (try dsimp only at hk'))))
  (k_with "mine:call ref" => (k_dflt ((with_reducible show wpAny _ _ (call (Value.ref 46) _ _) _ _ _); refine' ctr_up (c_dictrep _ _ _ _ _ _ _ _ _ _ _ _ _ _ _ _ _ _ _ ?hx hz0 hz1 hz2 lo n0 n1 n2 e0 e1 e2) ?k1 ?k2 ?k3 ?k4 ?k5 ?kK ?kd ?ku ?_; walk_at "mine:call"; (case hx => assumption); intro r9 n9 h9 tk9 hle9 F9 N9 P9; obtain ⟨⟨t9, e9⟩, hl9, e9'⟩ := P9; subst e9 e9'; (try dsimp only at hle9); (try dsimp only))))
  k_steps
  all_goals exact hret _ _ _ _ (by k_asm) (by k_asm) ⟨⟨_, rfl⟩, rfl⟩
end
section
open PySem PySem.W PyProof.Rows
theorem ws_LU : True := by
  (k_with_none; (k_with "w1" => ((refine' code_def ?k1 ?k2 ?k3 ?k4 ?k5 ?kA ?kF ?kK ?k6 ?k7 ?k8 ?k9 ?kB ?_ ?c2 ?c3 ?c4 ?c5; (case kA => exact rfl); (case kF => exact rfl); (case kK => first | (with_reducible assumption) | assumption); (case k1 => k_asm); (case k2 => k_asm); (case k3 => k_asm); (case k4 => k_asm); (case k5 => k_asm); (case k6 => k_is); (case k7 => k_is); (case k8 => ktr_room); (case k9 => first | exact BindsTo.of_eq rfl | exact binds_K (by k_in) rfl (by k_is) rfl rfl rfl); (case c5 => decide); (case kB => exact locs rfl); (case c2 => exact rfl); (case c3 => exact rfl); (case c4 => exact rfl); k_whole; intro g'zz L'zz h'zz FG'zz F'zz N'zz B'zz X'zz T'zz; (try dsimp only); (try k_fold)))); (k_with "w2" => (((case k1 => k_asm); (case k2 => k_asm); (case k3 => k_asm); (case k4 => k_asm); (case k5 => k_asm); (case kK => first | (with_reducible assumption) | exact rfl | assumption); (case kd => ktr_room); (case ku => ktr_units)))); (k_with "w3" => (first | (refine in_has (b := false) ?hh ?_; (case hh => first | assumption | decide +kernel)) | (refine in_has (b := true) ?hh ?_; (case hh => first | assumption | decide +kernel)) | (refine in_has rfl ?_))); (k_with "w4" => (first | (refine notin_has (b := false) ?hh ?_; (case hh => first | assumption | decide +kernel)) | (refine notin_has (b := true) ?hh ?_; (case hh => first | assumption | decide +kernel)))); (k_with "w5" => (first | (refine eq_b (b := false) ?hh ?_; (case hh => first | assumption | decide +kernel)) | (refine eq_b (b := true) ?hh ?_; (case hh => first | assumption | decide +kernel)))); (k_with "w6" => (((first | (refine truthy_b (b := true) ?hh ?hl ?_; (case hh => first | assumption | exact full_one _ | decide +kernel); (case hl => first | assumption | exact one_short _ | decide +kernel)) | (refine truthy_b (b := false) ?hh ?hl ?_; (case hh => first | assumption | decide +kernel); (case hl => first | assumption | decide +kernel))); intro _))); (k_with "w7" => ((refine' kp_both ?k1 ?k2 ?k3 ?k4 ?k5 ?kA ?kF ?kK ?k6 ?k7 ?k8 ?kV ?kX ?kQ ?kM ?kN ?kD ?kR ?kP ?kS ?kT ?kB ?_ ?c2 ?c3 ?c4 ?c5; (case kA => exact rfl); (case kF => exact rfl); (case kK => first | (with_reducible assumption) | assumption); (case k1 => k_asm); (case k2 => k_asm); (case k3 => k_asm); (case k4 => k_asm); (case k5 => k_asm); (case k6 => k_is); (case k7 => k_is); (case k8 => ktr_room); (case kV => kp_lit); (case kX => kp_lit); (case kQ => exact rfl); (case kM => exact rfl); (case kN => exact rfl); (case kD => kp_flats); (case kR => exact rfl); (case kP => exact rfl); (case kS => exact fun _ => rfl); (case kT => exact fun _ _ => rfl); (case kB => exact fun _ _ => locs rfl); (case c5 => decide); (case c2 => exact rfl); (case c3 => exact rfl); (case c4 => exact rfl); k_whole; intro C'zz D'zz o'zz g'zz L'zz h'zz tk'zz l1zz l2zz lo'zz hs'zz fs'zz FG'zz F'zz N'zz B'zz X'zz T'zz; (try k_lt l1zz); (try k_lt2 l2zz); (try dsimp only); (try k_fold)))); (k_with "w8" => (((with_reducible show wpAny _ _ (callWith _ (Value.builtin _) (_ :: _) (backTo _ (starEach (_ :: _) _)) []) _ _ _); refine callWith_method1 ?_))); (k_with "w9" => ((k_here; k_dflt (refine' get_own ?k1 ?k2 ?k3 ?k4 ?k5 ?k6 ?k7 ?k8 ?k9 ?_; (case k1 => k_asm); (case k2 => k_asm); (case k3 => k_inst); (case k4 => k_is); (case k5 => k_is); (case k6 => k_is); (case k7 => k_is); (case k8 => k_get); (case k9 => k_handed); k_whole)))); (k_with "w10" => (((repeat (first | (with_reducible exact List.forall_mem_nil _) | (intro pzz hpzz; (repeat (first | (with_reducible exact hpzz) | (with_reducible refine List.mem_cons_of_mem _ ?_))); done) | (refine List.forall_mem_cons.mpr ⟨by k_mem, ?_⟩))); first | done | (intro pzz hpzz; repeat (first | exact hpzz | apply List.Mem.tail))))); (k_with "w35" => ((k_here; with_reducible refine gen_toks ?_; intro tkzz htkzz; (try dsimp only at htkzz)))); (k_with "w36" => ((k_here; with_reducible refine gen_toks ?_; intro tkzz htkzz; (try dsimp only at htkzz)))); (k_with "w37" => ((k_here; k_extra "mine:replace"))); (k_with "w42" => ((k_here; k_dflt (refine' truthy0 ?X ?hm ?lo ?_; (case X => k_in); (case hm => k_is); (case lo => decide))))); trivial)
theorem unesc_word (x : Wd) (hx : x.n = -1) : Txt.replace (Txt.replace (Txt.replace x.s (Str.ofString "&lt;") (Str.ofString "<")) (Str.ofString "&gt;") (Str.ofString ">")) (Str.ofString "&amp;") (Str.ofString "&") = x.out (-1) := by
  cases x <;> first | exact absurd hx (by decide) | (clear hx; decide +kernel)
theorem amp_word (x : Wd) {p : Int} (hp : 0 ≤ p) : Txt.replace x.s (Str.ofString "&amp;") (Str.ofString "&") = x.out p := by
  cases x
  case lt => simp only [Wd.out]; rw [if_neg (by omega)]; decide +kernel
  all_goals (simp only [Wd.out]; clear hp; decide +kernel)
theorem truthy0 {prog : Program} {w : World} {A : Around} {E : Value → Shared → Prop} {s : Shared} {K : Frag} {d : Addr} {Q : Bool → Shared → Prop} {n : Nat} (X : K.In s.heap) (hm : K.lookup d = some (dictOf [] n)) (lo : (d == sysModules) = false) (h : Q false { s with toks := s.toks + 1 + 1 }) : wpAny (model prog w) A (truthy (.ref d)) Q E s := by
  have hd : s.heap.DictOf (PySem.strKind prog w) d [] := ⟨_, _, _, X _ _ hm, ⟨rfl, rfl, rfl⟩, rfl, by intro e he; simp at he, .nil, by simp⟩
  exact wpAny_truthy_dict (knd := PySem.strKind prog w) lo hd (by simp) h
set_option maxRecDepth 100000 in
set_option maxHeartbeats 0 in
/-- unescape without entities -/
theorem c_unesc1 (w p loose mean mg mb) (news : News') (x : Wd) (hx : x.n = -1) (t : Tok)
   : Ctr w p loose mean mg mb (.ref 55) [.str x.s t] [] news 10 160 (fun r news' => (∃ t', r = .str (x.out (-1)) t') ∧ news' = news) := by
  intro dp un gd cn cs a ccd cl outer A₀ base h₀ L m s Q E B F X N T hk hd hu hret
  have hlx := wd_len x
  refine wpAny_call ?_
  k_dflt (walk_at "mine:enter")
  refine gen_pos (Nat.le_add_left 1 (s.toks + 1)) ?_
  intro tk htk
  (k_with_none; (k_with "w1" => ((refine' code_def ?k1 ?k2 ?k3 ?k4 ?k5 ?kA ?kF ?kK ?k6 ?k7 ?k8 ?k9 ?kB ?_ ?c2 ?c3 ?c4 ?c5; (case kA => exact rfl); (case kF => exact rfl); (case kK => first | (with_reducible assumption) | assumption); (case k1 => k_asm); (case k2 => k_asm); (case k3 => k_asm); (case k4 => k_asm); (case k5 => k_asm); (case k6 => k_is); (case k7 => k_is); (case k8 => ktr_room); (case k9 => first | exact BindsTo.of_eq rfl | exact binds_K (by k_in) rfl (by k_is) rfl rfl rfl); (case c5 => decide); (case kB => exact locs rfl); (case c2 => exact rfl); (case c3 => exact rfl); (case c4 => exact rfl); k_whole; intro g'zz L'zz h'zz FG'zz F'zz N'zz B'zz X'zz T'zz; (try dsimp only); (try k_fold)))); (k_with "w2" => (((case k1 => k_asm); (case k2 => k_asm); (case k3 => k_asm); (case k4 => k_asm); (case k5 => k_asm); (case kK => first | (with_reducible assumption) | exact rfl | assumption); (case kd => ktr_room); (case ku => ktr_units)))); (k_with "w3" => (first | (refine in_has (b := false) ?hh ?_; (case hh => first | assumption | decide +kernel)) | (refine in_has (b := true) ?hh ?_; (case hh => first | assumption | decide +kernel)) | (refine in_has rfl ?_))); (k_with "w4" => (first | (refine notin_has (b := false) ?hh ?_; (case hh => first | assumption | decide +kernel)) | (refine notin_has (b := true) ?hh ?_; (case hh => first | assumption | decide +kernel)))); (k_with "w5" => (first | (refine eq_b (b := false) ?hh ?_; (case hh => first | assumption | decide +kernel)) | (refine eq_b (b := true) ?hh ?_; (case hh => first | assumption | decide +kernel)))); (k_with "w6" => (((first | (refine truthy_b (b := true) ?hh ?hl ?_; (case hh => first | assumption | exact full_one _ | decide +kernel); (case hl => first | assumption | exact one_short _ | decide +kernel)) | (refine truthy_b (b := false) ?hh ?hl ?_; (case hh => first | assumption | decide +kernel); (case hl => first | assumption | decide +kernel))); intro _))); (k_with "w7" => ((refine' kp_both ?k1 ?k2 ?k3 ?k4 ?k5 ?kA ?kF ?kK ?k6 ?k7 ?k8 ?kV ?kX ?kQ ?kM ?kN ?kD ?kR ?kP ?kS ?kT ?kB ?_ ?c2 ?c3 ?c4 ?c5; (case kA => exact rfl); (case kF => exact rfl); (case kK => first | (with_reducible assumption) | assumption); (case k1 => k_asm); (case k2 => k_asm); (case k3 => k_asm); (case k4 => k_asm); (case k5 => k_asm); (case k6 => k_is); (case k7 => k_is); (case k8 => ktr_room); (case kV => kp_lit); (case kX => kp_lit); (case kQ => exact rfl); (case kM => exact rfl); (case kN => exact rfl); (case kD => kp_flats); (case kR => exact rfl); (case kP => exact rfl); (case kS => exact fun _ => rfl); (case kT => exact fun _ _ => rfl); (case kB => exact fun _ _ => locs rfl); (case c5 => decide); (case c2 => exact rfl); (case c3 => exact rfl); (case c4 => exact rfl); k_whole; intro C'zz D'zz o'zz g'zz L'zz h'zz tk'zz l1zz l2zz lo'zz hs'zz fs'zz FG'zz F'zz N'zz B'zz X'zz T'zz; (try k_lt l1zz); (try k_lt2 l2zz); (try dsimp only); (try k_fold)))); (k_with "w8" => (((with_reducible show wpAny _ _ (callWith _ (Value.builtin _) (_ :: _) (backTo _ (starEach (_ :: _) _)) []) _ _ _); refine callWith_method1 ?_))); (k_with "w9" => ((k_here; k_dflt (refine' get_own ?k1 ?k2 ?k3 ?k4 ?k5 ?k6 ?k7 ?k8 ?k9 ?_; (case k1 => k_asm); (case k2 => k_asm); (case k3 => k_inst); (case k4 => k_is); (case k5 => k_is); (case k6 => k_is); (case k7 => k_is); (case k8 => k_get); (case k9 => k_handed); k_whole)))); (k_with "w10" => (((repeat (first | (with_reducible exact List.forall_mem_nil _) | (intro pzz hpzz; (repeat (first | (with_reducible exact hpzz) | (with_reducible refine List.mem_cons_of_mem _ ?_))); done) | (refine List.forall_mem_cons.mpr ⟨by k_mem, ?_⟩))); first | done | (intro pzz hpzz; repeat (first | exact hpzz | apply List.Mem.tail))))); (k_with "w35" => ((k_here; with_reducible refine gen_toks ?_; intro tkzz htkzz; (try dsimp only at htkzz)))); (k_with "w36" => ((k_here; with_reducible refine gen_toks ?_; intro tkzz htkzz; (try dsimp only at htkzz)))); (k_with "w37" => ((k_here; k_extra "mine:replace"))); (k_with "w42" => ((k_here; k_dflt (refine' truthy0 ?X ?hm ?lo ?_; (case X => k_in); (case hm => k_is); (case lo => decide))))); skip)
  (k_with "mine:replace" => (k_dflt (refine' repl_T ?hu ?hv ?huv ?hyz ?hx ?hz ?hab ?_; (case hu => ((try dsimp only); (show @Ne Nat _ _); omega)); (case hv => ((try dsimp only); (show @Ne Nat _ _); omega)); (case huv => ((try dsimp only); (show @Ne Nat _ _); omega)); (case hyz => decide +kernel); (case hx => assumption); (case hz => exact Nat.le_refl 1); (case hab => decide); intro t' k' hk' hlen'; (try dsimp only at hk'))))
  k_steps
  all_goals (
    rw [unesc_word x hx]
    exact hret _ _ _ _ (by k_asm) (by k_asm) ⟨⟨_, rfl⟩, rfl⟩)
end
section
open PySem PySem.W PyProof.Rows
/-- the word of _law_laid's loop: the answer of the last get_token, and what is told -/
def IL (base : News') (R : Rows4) (P : Params) (lx dlx pb fs ta : Addr) (ks vs : Nat → Tok) (cm : Str) (m₀ : Str → Option Value) (n : Nat) (m : Str → Option Value) (news : News') : Prop :=
  ∃ (tokv : Value) (vp vn : Option Value) (oth : News') (vsd : List Value) (nn : Nat) (told : List (Str × Int)) (a : AF) (sa : List AF) (k : Nat) (exact : News'),
    m = (fun y => if y = Str.ofString "token" then some tokv else if y = Str.ofString "place" then vp else if y = Str.ofString "number" then vn else m₀ y) ∧
    (∀ q ∈ exact, q ∈ news) ∧ Tol oth vsd told ∧ (∀ q ∈ base, q ∈ oth) ∧ (∀ q ∈ oth, q.1 ≠ ta) ∧
    told ++ (outF R a ++ outS R sa) = TM R ∧ n = costF a + costS sa ∧ a.1 ≤ 2 ∧ k ≤ 90 ∧
    GAPost R P lx dlx pb fs ((ta, listOf vsd.toArray nn) :: oth) ks vs cm a sa k tokv exact
theorem wpost_of {h₀ : Heap} {L : Addr} {I : Nat → (Str → Option Value) → News' → Prop} {n n' : Nat} {s : Shared} {Q : Flow → Shared → Prop} {h' : Heap} {tk' : Nat} {m' : Str → Option Value} {news' : News'} (hlt : n' < n) (F : Fr h₀ L h' m') (N : News h₀ L h' news') (h : I n' m' news') : WPost h₀ L I n s Q .next { s with heap := h', toks := tk' } :=
  ⟨n', m', news', h', tk', hlt, rfl, F, N, h⟩
/-- the objects of a lexer's ledger -/
def LxO (o : Obj) : Prop := (∃ C d, o = instObj C d) ∨ (∃ es n, o = dictOf es n) ∨ (∃ n items, o = dqObj n items) ∨ ∃ a b c, o = { cls := .type "tuple", data := .seq #[a, b, c] }
theorem LxO.ne_list {o : Obj} (h : LxO o) {its : Array Value} {n : Nat} : o ≠ listOf its n := by
  rcases h with ⟨C, d, rfl⟩ | ⟨es, k, rfl⟩ | ⟨k, items, rfl⟩ | ⟨a, b, c, rfl⟩ <;> intro e
  · have h : Value.ref C = Value.type "list" := congrArg Obj.cls e
    exact Value.noConfusion h
  · have h : Value.type "dict" = Value.type "list" := congrArg Obj.cls e
    exact absurd h (by decide)
  · have h : Value.type "collections.deque" = Value.type "list" := congrArg Obj.cls e
    exact absurd h (by decide)
  · have h : Value.type "tuple" = Value.type "list" := congrArg Obj.cls e
    exact absurd h (by decide)
theorem LxO.ne_tup {o : Obj} (h : LxO o) {x : Str × Int} {t u : Tok} : o ≠ tupW x t u := by
  rcases h with ⟨C, d, rfl⟩ | ⟨es, k, rfl⟩ | ⟨k, items, rfl⟩ | ⟨a, b, c, rfl⟩ <;> intro e
  · have h : Value.ref C = Value.type "tuple" := congrArg Obj.cls e
    exact Value.noConfusion h
  · have h : Value.type "dict" = Value.type "tuple" := congrArg Obj.cls e
    exact absurd h (by decide)
  · have h : Value.type "collections.deque" = Value.type "tuple" := congrArg Obj.cls e
    exact absurd h (by decide)
  · have h : (#[a, b, c] : Array Value) = #[.str x.1 t, .int x.2 u] := by
      have := congrArg (fun o : Obj => match o.data with | .seq its _ => its | _ => #[]) e
      exact this
    have := congrArg Array.size h
    simp at this
theorem fms_app (st : List Fm) (tl : News') : fmsLed st tl = fmsLed st [] ++ tl := by
  induction st with
  | nil => rfl
  | cons f st ih =>
    show _ :: _ :: _ :: fmsLed st tl = _ :: _ :: _ :: (fmsLed st [] ++ tl)
    rw [ih]
theorem fms_len (st : List Fm) : (fmsLed st []).length = 3 * st.length := by
  induction st with
  | nil => rfl
  | cons f st ih =>
    show (_ :: _ :: _ :: fmsLed st []).length = _
    simp only [List.length_cons, ih]; omega
theorem g_app (P : Params) (lx dlx pb fs : Addr) (rest : News') (ks vs : Nat → Tok) (cm : Str) (n : Int) (x : Fm) (st : List Fm) (v1 v2 : Value) : gLed P lx dlx pb fs rest ks vs cm n x st v1 v2 = gLed P lx dlx pb fs [] ks vs cm n x st v1 v2 ++ rest := by
  show _ :: _ :: _ :: _ :: _ :: _ :: fmsLed st rest = _ :: _ :: _ :: _ :: _ :: _ :: (fmsLed st [] ++ rest)
  rw [fms_app]
theorem g_len (P : Params) (lx dlx pb fs : Addr) (ks vs : Nat → Tok) (cm : Str) (n : Int) (x : Fm) (st : List Fm) (v1 v2 : Value) : (gLed P lx dlx pb fs [] ks vs cm n x st v1 v2).length = 3 * st.length + 6 := by
  show (_ :: _ :: _ :: _ :: _ :: _ :: fmsLed st []).length = _
  simp only [List.length_cons, fms_len]
theorem fms_lx (st : List Fm) : ∀ p ∈ fmsLed st [], LxO p.2 := by
  induction st with
  | nil => intro p hp; cases hp
  | cons f st ih =>
    show ∀ p ∈ _ :: _ :: _ :: fmsLed st [], LxO p.2
    simp only [List.forall_mem_cons]
    exact ⟨.inr (.inr (.inr ⟨_, _, _, rfl⟩)), .inl ⟨_, _, rfl⟩, .inr (.inl ⟨_, _, rfl⟩), ih⟩
theorem g_lx (P : Params) (lx dlx pb fs : Addr) (ks vs : Nat → Tok) (cm : Str) (n : Int) (x : Fm) (st : List Fm) (v1 v2 : Value) : ∀ p ∈ gLed P lx dlx pb fs [] ks vs cm n x st v1 v2, LxO p.2 := by
  show ∀ p ∈ _ :: _ :: _ :: _ :: _ :: _ :: fmsLed st [], LxO p.2
  simp only [List.forall_mem_cons]
  exact ⟨.inl ⟨_, _, rfl⟩, .inr (.inl ⟨_, _, rfl⟩), .inl ⟨_, _, rfl⟩, .inr (.inl ⟨_, _, rfl⟩), .inr (.inr (.inl ⟨_, _, rfl⟩)), .inr (.inr (.inl ⟨_, _, rfl⟩)), fms_lx st⟩
theorem nd_app : ∀ (a r r' : News'), ND a.length (a ++ r) → (∀ p ∈ r', ∀ q ∈ a, p.1 ≠ q.1) → ND a.length (a ++ r')
  | [], _, _, _, _ => trivial
  | q :: a, r, r', h, ho => by
    refine ⟨fun p hp => ?_, nd_app a r r' h.2 fun p hp z hz => ho p hp z (.tail _ hz)⟩
    rcases List.mem_append.mp hp with hp | hp
    · exact h.1 p (List.mem_append.mpr (.inl hp))
    · exact ho p hp q (.head _)
theorem nd_offs : ∀ (a r : News'), ND a.length (a ++ r) → ∀ p ∈ r, ∀ q ∈ a, p.1 ≠ q.1
  | [], _, _, _, _, _, hq => by cases hq
  | q :: a, r, h, p, hp, z, hz => by
    rcases List.mem_cons.mp hz with rfl | hz
    · exact h.1 p (List.mem_append.mpr (.inr hp))
    · exact nd_offs a r h.2 p hp z hz
section
variable {P : Params} {lx dlx pb fs : Addr} {ks vs : Nat → Tok} {cm : Str} {n : Int} {x : Fm} {st : List Fm} {v1 v2 : Value} {ta tp : Addr} {oth : News'} {h₀ h : Heap} {L : Addr}
/-- the lexer's own ledger, a list on the ledger, what lies besides: apart from the list -/
theorem lx_off {rest : News'} {its : Array Value} {nn : Nat} (N : News h₀ L h (gLed P lx dlx pb fs rest ks vs cm n x st v1 v2)) (hm : (ta, listOf its nn) ∈ rest) : ∀ q ∈ gLed P lx dlx pb fs [] ks vs cm n x st v1 v2, q.1 ≠ ta := by
  intro q hq
  have m1 : (q.1, q.2) ∈ gLed P lx dlx pb fs rest ks vs cm n x st v1 v2 := by rw [g_app]; exact List.mem_append.mpr (.inl hq)
  have m2 : (ta, listOf its nn) ∈ gLed P lx dlx pb fs rest ks vs cm n x st v1 v2 := by rw [g_app]; exact List.mem_append.mpr (.inr hm)
  exact ne_obj N m1 m2 (g_lx P lx dlx pb fs ks vs cm n x st v1 v2 q hq).ne_list
/-- behind an append: the ledger lies apart still -/
theorem nd_told {nn nn' : Nat} {its its' : Array Value} {y : Str × Int} {t u : Tok}
    (hnd : ND (3 * st.length + 6) (gLed P lx dlx pb fs ((ta, listOf its nn) :: oth) ks vs cm n x st v1 v2))
    {news : News'} (N : News h₀ L h news) (ht : (tp, tupW y t u) ∈ news) (hs : ∀ q ∈ gLed P lx dlx pb fs [] ks vs cm n x st v1 v2, q ∈ news) :
    ND (3 * st.length + 6) (gLed P lx dlx pb fs ((ta, listOf its' nn') :: (tp, tupW y t u) :: oth) ks vs cm n x st v1 v2) := by
  rw [g_app] at hnd ⊢
  have e := g_len P lx dlx pb fs ks vs cm n x st v1 v2
  rw [← e] at hnd ⊢
  have o := nd_offs _ _ hnd
  refine nd_app _ _ _ hnd ?_
  intro p hp q hq
  rcases List.mem_cons.mp hp with rfl | hp
  · exact o _ (.head _) q hq
  rcases List.mem_cons.mp hp with rfl | hp
  · exact (ne_obj N (hs q hq) ht (g_lx P lx dlx pb fs ks vs cm n x st v1 v2 q hq).ne_tup).symm
  · exact o _ (.tail _ hp) q hq
end
/-- the text of an entity -/
theorem text_at {q0 q1 q2 q3 : Row} {t0 t1 t2 t3 : Tok} (hsm : Small (RR q0 q1 q2 q3)) {pl : Int} (h1 : -1 ≤ pl) (h2 : pl ≤ 2) :
    ∃ q t, ([.str (rowT q0) t0, .str (rowT q1) t1, .str (rowT q2) t2, .str (rowT q3) t3] : List Value)[(pl + 1).toNat]? = some (.str (rowT q) t) ∧ rowAt (RR q0 q1 q2 q3) pl = q.map (·.1) ∧ q.length ≤ 4 := by
  obtain ⟨b0, b1, b2, b3⟩ := hsm
  simp only [List.length_map] at b0 b1 b2 b3
  have : pl = -1 ∨ pl = 0 ∨ pl = 1 ∨ pl = 2 := by omega
  rcases this with rfl | rfl | rfl | rfl
  · exact ⟨q0, t0, rfl, rfl, b0⟩
  · exact ⟨q1, t1, rfl, rfl, b1⟩
  · exact ⟨q2, t2, rfl, rfl, b2⟩
  · exact ⟨q3, t3, rfl, rfl, b3⟩
theorem cost_push {R : Rows4} (hsm : Small R) {a : AF} {sa : List AF} {j : Int} (hj : a.1 < j) (hj2 : j ≤ 2) : costF (j, rowAt R j) + costS (a :: sa) < Wt a.1 + (costF a + costS sa) := by
  have h := Wt_lt hj hj2
  have hp := Wt_pos j
  have hl : (rowAt R j).length ≤ 4 := by
    obtain ⟨b0, b1, b2, b3⟩ := hsm
    unfold rowAt
    split
    · exact b3
    split
    · exact b2
    split
    · exact b1
    · exact b0
  have hm : (rowAt R j).length * Wt j ≤ 4 * Wt j := Nat.mul_le_mul_right _ hl
  show (rowAt R j).length * Wt j + (costF a + costS sa) < _
  omega
theorem out_push {R : Rows4} {a : AF} {sa : List AF} {y : Wd} (h1 : -1 ≤ a.1) (hj : a.1 < y.n) : told1 a.1 y (TT R y.n) ++ (outF R a ++ outS R sa) = outF R (y.n, rowAt R y.n) ++ outS R (a :: sa) := by
  unfold told1
  rw [if_pos hj, tt_unf R (by omega) (nums_le y)]
  show _ = List.flatMap _ (rowAt R y.n) ++ (List.flatMap (outF R) (a :: sa))
  rw [List.flatMap_cons]
  rfl
end
section
open PySem PySem.W PyProof.Rows
theorem ws_LD : True := by
  (k_with_none; (k_with "w1" => ((refine' code_def ?k1 ?k2 ?k3 ?k4 ?k5 ?kA ?kF ?kK ?k6 ?k7 ?k8 ?k9 ?kB ?_ ?c2 ?c3 ?c4 ?c5; (case kA => exact rfl); (case kF => exact rfl); (case kK => first | (with_reducible assumption) | assumption); (case k1 => k_asm); (case k2 => k_asm); (case k3 => k_asm); (case k4 => k_asm); (case k5 => k_asm); (case k6 => k_is); (case k7 => k_is); (case k8 => ktr_room); (case k9 => first | exact BindsTo.of_eq rfl | exact binds_K (by k_in) rfl (by k_is) rfl rfl rfl); (case c5 => decide); (case kB => exact locs rfl); (case c2 => exact rfl); (case c3 => exact rfl); (case c4 => exact rfl); k_whole; intro g'zz L'zz h'zz FG'zz F'zz N'zz B'zz X'zz T'zz; (try dsimp only); (try k_fold)))); (k_with "w2" => (((case k1 => k_asm); (case k2 => k_asm); (case k3 => k_asm); (case k4 => k_asm); (case k5 => k_asm); (case kK => first | (with_reducible assumption) | exact rfl | assumption); (case kd => ktr_room); (case ku => ktr_units)))); (k_with "w3" => (first | (refine in_has (b := false) ?hh ?_; (case hh => first | assumption | decide +kernel)) | (refine in_has (b := true) ?hh ?_; (case hh => first | assumption | decide +kernel)) | (refine in_has rfl ?_))); (k_with "w4" => (first | (refine notin_has (b := false) ?hh ?_; (case hh => first | assumption | decide +kernel)) | (refine notin_has (b := true) ?hh ?_; (case hh => first | assumption | decide +kernel)))); (k_with "w5" => (first | (refine eq_b (b := false) ?hh ?_; (case hh => first | assumption | decide +kernel)) | (refine eq_b (b := true) ?hh ?_; (case hh => first | assumption | decide +kernel)))); (k_with "w6" => (((first | (refine truthy_b (b := true) ?hh ?hl ?_; (case hh => first | assumption | exact full_one _ | decide +kernel); (case hl => first | assumption | exact one_short _ | decide +kernel)) | (refine truthy_b (b := false) ?hh ?hl ?_; (case hh => first | assumption | decide +kernel); (case hl => first | assumption | decide +kernel))); intro _))); (k_with "w7" => ((refine' kp_both ?k1 ?k2 ?k3 ?k4 ?k5 ?kA ?kF ?kK ?k6 ?k7 ?k8 ?kV ?kX ?kQ ?kM ?kN ?kD ?kR ?kP ?kS ?kT ?kB ?_ ?c2 ?c3 ?c4 ?c5; (case kA => exact rfl); (case kF => exact rfl); (case kK => first | (with_reducible assumption) | assumption); (case k1 => k_asm); (case k2 => k_asm); (case k3 => k_asm); (case k4 => k_asm); (case k5 => k_asm); (case k6 => k_is); (case k7 => k_is); (case k8 => ktr_room); (case kV => kp_lit); (case kX => kp_lit); (case kQ => exact rfl); (case kM => exact rfl); (case kN => exact rfl); (case kD => kp_flats); (case kR => exact rfl); (case kP => exact rfl); (case kS => exact fun _ => rfl); (case kT => exact fun _ _ => rfl); (case kB => exact fun _ _ => locs rfl); (case c5 => decide); (case c2 => exact rfl); (case c3 => exact rfl); (case c4 => exact rfl); k_whole; intro C'zz D'zz o'zz g'zz L'zz h'zz tk'zz l1zz l2zz lo'zz hs'zz fs'zz FG'zz F'zz N'zz B'zz X'zz T'zz; (try k_lt l1zz); (try k_lt2 l2zz); (try dsimp only); (try k_fold)))); (k_with "w8" => (((with_reducible show wpAny _ _ (callWith _ (Value.builtin _) (_ :: _) (backTo _ (starEach (_ :: _) _)) []) _ _ _); refine callWith_method1 ?_))); (k_with "w9" => ((k_here; k_dflt (refine' get_own ?k1 ?k2 ?k3 ?k4 ?k5 ?k6 ?k7 ?k8 ?k9 ?_; (case k1 => k_asm); (case k2 => k_asm); (case k3 => k_inst); (case k4 => k_is); (case k5 => k_is); (case k6 => k_is); (case k7 => k_is); (case k8 => k_get); (case k9 => k_handed); k_whole)))); (k_with "w10" => (((repeat (first | (with_reducible exact List.forall_mem_nil _) | (intro pzz hpzz; (repeat (first | (with_reducible exact hpzz) | (with_reducible refine List.mem_cons_of_mem _ ?_))); done) | (refine List.forall_mem_cons.mpr ⟨by k_mem, ?_⟩))); first | done | (intro pzz hpzz; repeat (first | exact hpzz | apply List.Mem.tail))))); (k_with "w35" => ((k_here; with_reducible refine gen_toks ?_; intro tkzz htkzz; (try dsimp only at htkzz)))); (k_with "w36" => ((k_here; with_reducible refine gen_toks ?_; intro tkzz htkzz; (try dsimp only at htkzz)))); (k_with "w37" => ((k_here; k_extra "mine:replace"))); (k_with "w48" => ((have hcL9zz := cLine_is; (try simp only [units_make, units_in1, units_deeper, Around.mark_units, units_caller] at *); (try dsimp only [ktrTop] at *); omega))); (k_with "w49" => (((try simp only [depth_make, depth_in1, depth_deeper, depth_caller] at *); (try dsimp only [ktrTop] at *); (try simp only [recursionLimit] at *); omega))); (k_with "w47" => (first | assumption | exact List.forall_mem_nil _ | (refine' List.forall_mem_cons.mpr ⟨?a, ?b⟩; (case a => k_ne); (case b => k_all)))); (k_with "w43" => ((k_here; k_dflt (refine' row_item ?N ?hm ?e ?h0 ?h6 ?_; (case N => k_asm); (case hm => first | k_mem | assumption); (case e => first | assumption | exact rfl); (case h0 => first | decide | omega); (case h6 => first | decide | omega))))); (k_with "w44" => ((k_here; k_dflt (refine' row_item ?N ?hm ?e ?h0 ?h6 ?_; (case N => k_asm); (case hm => first | k_mem | assumption); (case e => first | assumption | exact rfl); (case h0 => first | decide | omega); (case h6 => first | decide | omega))))); (k_with "w45" => ((k_here; k_dflt (refine' row_item ?N ?hm ?e ?h0 ?h6 ?_; (case N => k_asm); (case hm => first | k_mem | assumption); (case e => first | assumption | exact rfl); (case h0 => first | decide | omega); (case h6 => first | decide | omega))))); (k_with "w46" => ((k_here; k_extra "mine:ifexp"))); (k_with "w32" => ((k_here; k_dflt (refine' append_N ?F ?N ?U ?hz ?_; (case F => k_asm); (case N => k_asm); (case U => k_upd); (case hz => omega)); intro h'zz F'zz N'zz))); trivial)
local macro_rules | `(tactic| ktr_units) => `(tactic| k_extra "w48")
local macro_rules | `(tactic| ktr_room) => `(tactic| k_extra "w49")
local macro_rules | `(tactic| k_all) => `(tactic| k_extra "w47")
theorem frame_of {f m₀ : Str → Option Value} {a b c : Str} {v : Value} (h1 : f a = some v) (h : ∀ y, y ≠ a → y ≠ b → y ≠ c → f y = m₀ y) : f = fun y => if y = a then some v else if y = b then f b else if y = c then f c else m₀ y := by
  funext y
  split
  · rename_i e; rw [e, h1]
  split
  · rename_i e; rw [e]
  split
  · rename_i e; rw [e]
  · rename_i e1 e2 e3; exact h y e1 e2 e3
def PlP (pl : Int) (s : Shared) (v : Value) (s' : Shared) : Prop := ∃ t k, v = .int pl t ∧ s' = { s with toks := k }
theorem mono_pl {M : Model} {A : Around} {t : Sem Value} {Q : Value → Shared → Prop} {E : Value → Shared → Prop} {s : Shared} {pl : Int} (h1 : Held (wpAny M A t (PlP pl s) E s)) (h2 : ∀ u k, Q (.int pl u) { s with toks := k }) : wpAny M A t Q E s :=
  wpAny_mono h1 (fun v s' hv => by obtain ⟨u, k, rfl, rfl⟩ := hv; exact h2 u k) fun _ _ e => e
theorem head_of {h₀ h : Heap} {L a : Addr} {o : Obj} {rest : News'} {C : Prop} (_N : News h₀ L h ((a, o) :: rest)) (k : ∀ ta, ta = a → C) : C := k a rfl
set_option maxRecDepth 100000 in
set_option maxHeartbeats 0 in
theorem c_laid (w p loose mean mg mb) (news : News') (D : Addr) (q0 q1 q2 q3 : Row) (c0 c1 c2 c3 : Tok) (hsm : Small (RR q0 q1 q2 q3)) (hm : (D, LCg.lst [.str (rowT q0) c0, .str (rowT q1) c1, .str (rowT q2) c2, .str (rowT q3) c3]) ∈ news)
   : Ctr w p loose mean mg mb (.ref 778) [.ref D] [] news 40 600 (WkPost news (TM (RR q0 q1 q2 q3))) := by
  intro dp un gd cn cs a ccd cl outer A₀ base h₀ L m s Q E B F X N T hk hd hu hret
  refine wpAny_call ?_
  k_dflt (walk_at "mine:enter")
  refine gen_pos (Nat.le_add_left 1 s.toks) ?_
  intro tk htk
  (k_with_none; (k_with "w1" => ((refine' code_def ?k1 ?k2 ?k3 ?k4 ?k5 ?kA ?kF ?kK ?k6 ?k7 ?k8 ?k9 ?kB ?_ ?c2 ?c3 ?c4 ?c5; (case kA => exact rfl); (case kF => exact rfl); (case kK => first | (with_reducible assumption) | assumption); (case k1 => k_asm); (case k2 => k_asm); (case k3 => k_asm); (case k4 => k_asm); (case k5 => k_asm); (case k6 => k_is); (case k7 => k_is); (case k8 => ktr_room); (case k9 => first | exact BindsTo.of_eq rfl | exact binds_K (by k_in) rfl (by k_is) rfl rfl rfl); (case c5 => decide); (case kB => exact locs rfl); (case c2 => exact rfl); (case c3 => exact rfl); (case c4 => exact rfl); k_whole; intro g'zz L'zz h'zz FG'zz F'zz N'zz B'zz X'zz T'zz; (try dsimp only); (try k_fold)))); (k_with "w2" => (((case k1 => k_asm); (case k2 => k_asm); (case k3 => k_asm); (case k4 => k_asm); (case k5 => k_asm); (case kK => first | (with_reducible assumption) | exact rfl | assumption); (case kd => ktr_room); (case ku => ktr_units)))); (k_with "w3" => (first | (refine in_has (b := false) ?hh ?_; (case hh => first | assumption | decide +kernel)) | (refine in_has (b := true) ?hh ?_; (case hh => first | assumption | decide +kernel)) | (refine in_has rfl ?_))); (k_with "w4" => (first | (refine notin_has (b := false) ?hh ?_; (case hh => first | assumption | decide +kernel)) | (refine notin_has (b := true) ?hh ?_; (case hh => first | assumption | decide +kernel)))); (k_with "w5" => (first | (refine eq_b (b := false) ?hh ?_; (case hh => first | assumption | decide +kernel)) | (refine eq_b (b := true) ?hh ?_; (case hh => first | assumption | decide +kernel)))); (k_with "w6" => (((first | (refine truthy_b (b := true) ?hh ?hl ?_; (case hh => first | assumption | exact full_one _ | decide +kernel); (case hl => first | assumption | exact one_short _ | decide +kernel)) | (refine truthy_b (b := false) ?hh ?hl ?_; (case hh => first | assumption | decide +kernel); (case hl => first | assumption | decide +kernel))); intro _))); (k_with "w7" => ((refine' kp_both ?k1 ?k2 ?k3 ?k4 ?k5 ?kA ?kF ?kK ?k6 ?k7 ?k8 ?kV ?kX ?kQ ?kM ?kN ?kD ?kR ?kP ?kS ?kT ?kB ?_ ?c2 ?c3 ?c4 ?c5; (case kA => exact rfl); (case kF => exact rfl); (case kK => first | (with_reducible assumption) | assumption); (case k1 => k_asm); (case k2 => k_asm); (case k3 => k_asm); (case k4 => k_asm); (case k5 => k_asm); (case k6 => k_is); (case k7 => k_is); (case k8 => ktr_room); (case kV => kp_lit); (case kX => kp_lit); (case kQ => exact rfl); (case kM => exact rfl); (case kN => exact rfl); (case kD => kp_flats); (case kR => exact rfl); (case kP => exact rfl); (case kS => exact fun _ => rfl); (case kT => exact fun _ _ => rfl); (case kB => exact fun _ _ => locs rfl); (case c5 => decide); (case c2 => exact rfl); (case c3 => exact rfl); (case c4 => exact rfl); k_whole; intro C'zz D'zz o'zz g'zz L'zz h'zz tk'zz l1zz l2zz lo'zz hs'zz fs'zz FG'zz F'zz N'zz B'zz X'zz T'zz; (try k_lt l1zz); (try k_lt2 l2zz); (try dsimp only); (try k_fold)))); (k_with "w8" => (((with_reducible show wpAny _ _ (callWith _ (Value.builtin _) (_ :: _) (backTo _ (starEach (_ :: _) _)) []) _ _ _); refine callWith_method1 ?_))); (k_with "w9" => ((k_here; k_dflt (refine' get_own ?k1 ?k2 ?k3 ?k4 ?k5 ?k6 ?k7 ?k8 ?k9 ?_; (case k1 => k_asm); (case k2 => k_asm); (case k3 => k_inst); (case k4 => k_is); (case k5 => k_is); (case k6 => k_is); (case k7 => k_is); (case k8 => k_get); (case k9 => k_handed); k_whole)))); (k_with "w10" => (((repeat (first | (with_reducible exact List.forall_mem_nil _) | (intro pzz hpzz; (repeat (first | (with_reducible exact hpzz) | (with_reducible refine List.mem_cons_of_mem _ ?_))); done) | (refine List.forall_mem_cons.mpr ⟨by k_mem, ?_⟩))); first | done | (intro pzz hpzz; repeat (first | exact hpzz | apply List.Mem.tail))))); (k_with "w35" => ((k_here; with_reducible refine gen_toks ?_; intro tkzz htkzz; (try dsimp only at htkzz)))); (k_with "w36" => ((k_here; with_reducible refine gen_toks ?_; intro tkzz htkzz; (try dsimp only at htkzz)))); (k_with "w37" => ((k_here; k_extra "mine:replace"))); (k_with "w48" => ((have hcL9zz := cLine_is; (try simp only [units_make, units_in1, units_deeper, Around.mark_units, units_caller] at *); (try dsimp only [ktrTop] at *); omega))); (k_with "w49" => (((try simp only [depth_make, depth_in1, depth_deeper, depth_caller] at *); (try dsimp only [ktrTop] at *); (try simp only [recursionLimit] at *); omega))); (k_with "w47" => (first | assumption | exact List.forall_mem_nil _ | (refine' List.forall_mem_cons.mpr ⟨?a, ?b⟩; (case a => k_ne); (case b => k_all)))); (k_with "w43" => ((k_here; k_dflt (refine' row_item ?N ?hm ?e ?h0 ?h6 ?_; (case N => k_asm); (case hm => first | k_mem | assumption); (case e => first | assumption | exact rfl); (case h0 => first | decide | omega); (case h6 => first | decide | omega))))); (k_with "w44" => ((k_here; k_dflt (refine' row_item ?N ?hm ?e ?h0 ?h6 ?_; (case N => k_asm); (case hm => first | k_mem | assumption); (case e => first | assumption | exact rfl); (case h0 => first | decide | omega); (case h6 => first | decide | omega))))); (k_with "w45" => ((k_here; k_dflt (refine' row_item ?N ?hm ?e ?h0 ?h6 ?_; (case N => k_asm); (case hm => first | k_mem | assumption); (case e => first | assumption | exact rfl); (case h0 => first | decide | omega); (case h6 => first | decide | omega))))); (k_with "w46" => ((k_here; k_extra "mine:ifexp"))); (k_with "w32" => ((k_here; k_dflt (refine' append_N ?F ?N ?U ?hz ?_; (case F => k_asm); (case N => k_asm); (case U => k_upd); (case hz => omega)); intro h'zz F'zz N'zz))); skip)
  (k_with "mine:call ref" => (k_dflt (refine Held.into ?_)))
  k_steps
  refine Held.out ?_
  refine' ctr_use (c_shlex _ _ _ _ _ _ _ _ _) ?k1 ?k2 ?k3 ?k4 ?k5 ?kK ?kd ?ku ?_
  walk_at "mine:call"
  intro r9 n9 h9 tk9 F9 N9 P9
  obtain ⟨io, dio, lx, dlx, pb, fs, h1, h2, h3, t1, t2, t3, u1, u2, u3, ks, vs, s1, s2, s3, e9, e9', o1, o2, o3, o4, o5, o6, o7⟩ := P9
  subst e9 e9'
  have d1 : fs ≠ dlx := by (first | assumption | exact Ne.symm (by assumption) | exact ne_obj N9 (by k_mem) (by k_mem) dq_ne_inst | exact ne_obj N9 (by k_mem) (by k_mem) dq_ne_dict | exact ne_obj N9 (by k_mem) (by k_mem) inst_ne_dict | exact (ne_obj N9 (by k_mem) (by k_mem) dq_ne_inst).symm | exact (ne_obj N9 (by k_mem) (by k_mem) dq_ne_dict).symm | exact (ne_obj N9 (by k_mem) (by k_mem) inst_ne_dict).symm | exact ne_obj N9 (by k_mem) (by k_mem) (inst_ne_inst (by decide)) | exact ne_obj N9 (by k_mem) (by k_mem) (dict_ne_len (by show (3 : Nat) ≠ 19; decide)))
  have d2 : pb ≠ dlx := by (first | assumption | exact Ne.symm (by assumption) | exact ne_obj N9 (by k_mem) (by k_mem) dq_ne_inst | exact ne_obj N9 (by k_mem) (by k_mem) dq_ne_dict | exact ne_obj N9 (by k_mem) (by k_mem) inst_ne_dict | exact (ne_obj N9 (by k_mem) (by k_mem) dq_ne_inst).symm | exact (ne_obj N9 (by k_mem) (by k_mem) dq_ne_dict).symm | exact (ne_obj N9 (by k_mem) (by k_mem) inst_ne_dict).symm | exact ne_obj N9 (by k_mem) (by k_mem) (inst_ne_inst (by decide)) | exact ne_obj N9 (by k_mem) (by k_mem) (dict_ne_len (by show (3 : Nat) ≠ 19; decide)))
  have d3 : io ≠ dlx := by (first | assumption | exact Ne.symm (by assumption) | exact ne_obj N9 (by k_mem) (by k_mem) dq_ne_inst | exact ne_obj N9 (by k_mem) (by k_mem) dq_ne_dict | exact ne_obj N9 (by k_mem) (by k_mem) inst_ne_dict | exact (ne_obj N9 (by k_mem) (by k_mem) dq_ne_inst).symm | exact (ne_obj N9 (by k_mem) (by k_mem) dq_ne_dict).symm | exact (ne_obj N9 (by k_mem) (by k_mem) inst_ne_dict).symm | exact ne_obj N9 (by k_mem) (by k_mem) (inst_ne_inst (by decide)) | exact ne_obj N9 (by k_mem) (by k_mem) (dict_ne_len (by show (3 : Nat) ≠ 19; decide)))
  have d4 : dio ≠ dlx := by (first | assumption | exact Ne.symm (by assumption) | exact ne_obj N9 (by k_mem) (by k_mem) dq_ne_inst | exact ne_obj N9 (by k_mem) (by k_mem) dq_ne_dict | exact ne_obj N9 (by k_mem) (by k_mem) inst_ne_dict | exact (ne_obj N9 (by k_mem) (by k_mem) dq_ne_inst).symm | exact (ne_obj N9 (by k_mem) (by k_mem) dq_ne_dict).symm | exact (ne_obj N9 (by k_mem) (by k_mem) inst_ne_dict).symm | exact ne_obj N9 (by k_mem) (by k_mem) (inst_ne_inst (by decide)) | exact ne_obj N9 (by k_mem) (by k_mem) (dict_ne_len (by show (3 : Nat) ≠ 19; decide)))
  have d5 : lx ≠ dlx := by (first | assumption | exact Ne.symm (by assumption) | exact ne_obj N9 (by k_mem) (by k_mem) dq_ne_inst | exact ne_obj N9 (by k_mem) (by k_mem) dq_ne_dict | exact ne_obj N9 (by k_mem) (by k_mem) inst_ne_dict | exact (ne_obj N9 (by k_mem) (by k_mem) dq_ne_inst).symm | exact (ne_obj N9 (by k_mem) (by k_mem) dq_ne_dict).symm | exact (ne_obj N9 (by k_mem) (by k_mem) inst_ne_dict).symm | exact ne_obj N9 (by k_mem) (by k_mem) (inst_ne_inst (by decide)) | exact ne_obj N9 (by k_mem) (by k_mem) (dict_ne_len (by show (3 : Nat) ≠ 19; decide)))
  have d6 : io ≠ dio := by (first | assumption | exact Ne.symm (by assumption) | exact ne_obj N9 (by k_mem) (by k_mem) dq_ne_inst | exact ne_obj N9 (by k_mem) (by k_mem) dq_ne_dict | exact ne_obj N9 (by k_mem) (by k_mem) inst_ne_dict | exact (ne_obj N9 (by k_mem) (by k_mem) dq_ne_inst).symm | exact (ne_obj N9 (by k_mem) (by k_mem) dq_ne_dict).symm | exact (ne_obj N9 (by k_mem) (by k_mem) inst_ne_dict).symm | exact ne_obj N9 (by k_mem) (by k_mem) (inst_ne_inst (by decide)) | exact ne_obj N9 (by k_mem) (by k_mem) (dict_ne_len (by show (3 : Nat) ≠ 19; decide)))
  have d7 : io ≠ lx := by (first | assumption | exact Ne.symm (by assumption) | exact ne_obj N9 (by k_mem) (by k_mem) dq_ne_inst | exact ne_obj N9 (by k_mem) (by k_mem) dq_ne_dict | exact ne_obj N9 (by k_mem) (by k_mem) inst_ne_dict | exact (ne_obj N9 (by k_mem) (by k_mem) dq_ne_inst).symm | exact (ne_obj N9 (by k_mem) (by k_mem) dq_ne_dict).symm | exact (ne_obj N9 (by k_mem) (by k_mem) inst_ne_dict).symm | exact ne_obj N9 (by k_mem) (by k_mem) (inst_ne_inst (by decide)) | exact ne_obj N9 (by k_mem) (by k_mem) (dict_ne_len (by show (3 : Nat) ≠ 19; decide)))
  have d8 : io ≠ fs := by (first | assumption | exact Ne.symm (by assumption) | exact ne_obj N9 (by k_mem) (by k_mem) dq_ne_inst | exact ne_obj N9 (by k_mem) (by k_mem) dq_ne_dict | exact ne_obj N9 (by k_mem) (by k_mem) inst_ne_dict | exact (ne_obj N9 (by k_mem) (by k_mem) dq_ne_inst).symm | exact (ne_obj N9 (by k_mem) (by k_mem) dq_ne_dict).symm | exact (ne_obj N9 (by k_mem) (by k_mem) inst_ne_dict).symm | exact ne_obj N9 (by k_mem) (by k_mem) (inst_ne_inst (by decide)) | exact ne_obj N9 (by k_mem) (by k_mem) (dict_ne_len (by show (3 : Nat) ≠ 19; decide)))
  have d9 : io ≠ pb := by (first | assumption | exact Ne.symm (by assumption) | exact ne_obj N9 (by k_mem) (by k_mem) dq_ne_inst | exact ne_obj N9 (by k_mem) (by k_mem) dq_ne_dict | exact ne_obj N9 (by k_mem) (by k_mem) inst_ne_dict | exact (ne_obj N9 (by k_mem) (by k_mem) dq_ne_inst).symm | exact (ne_obj N9 (by k_mem) (by k_mem) dq_ne_dict).symm | exact (ne_obj N9 (by k_mem) (by k_mem) inst_ne_dict).symm | exact ne_obj N9 (by k_mem) (by k_mem) (inst_ne_inst (by decide)) | exact ne_obj N9 (by k_mem) (by k_mem) (dict_ne_len (by show (3 : Nat) ≠ 19; decide)))
  have da : dio ≠ lx := by (first | assumption | exact Ne.symm (by assumption) | exact ne_obj N9 (by k_mem) (by k_mem) dq_ne_inst | exact ne_obj N9 (by k_mem) (by k_mem) dq_ne_dict | exact ne_obj N9 (by k_mem) (by k_mem) inst_ne_dict | exact (ne_obj N9 (by k_mem) (by k_mem) dq_ne_inst).symm | exact (ne_obj N9 (by k_mem) (by k_mem) dq_ne_dict).symm | exact (ne_obj N9 (by k_mem) (by k_mem) inst_ne_dict).symm | exact ne_obj N9 (by k_mem) (by k_mem) (inst_ne_inst (by decide)) | exact ne_obj N9 (by k_mem) (by k_mem) (dict_ne_len (by show (3 : Nat) ≠ 19; decide)))
  have db : dio ≠ fs := by (first | assumption | exact Ne.symm (by assumption) | exact ne_obj N9 (by k_mem) (by k_mem) dq_ne_inst | exact ne_obj N9 (by k_mem) (by k_mem) dq_ne_dict | exact ne_obj N9 (by k_mem) (by k_mem) inst_ne_dict | exact (ne_obj N9 (by k_mem) (by k_mem) dq_ne_inst).symm | exact (ne_obj N9 (by k_mem) (by k_mem) dq_ne_dict).symm | exact (ne_obj N9 (by k_mem) (by k_mem) inst_ne_dict).symm | exact ne_obj N9 (by k_mem) (by k_mem) (inst_ne_inst (by decide)) | exact ne_obj N9 (by k_mem) (by k_mem) (dict_ne_len (by show (3 : Nat) ≠ 19; decide)))
  have dc : dio ≠ pb := by (first | assumption | exact Ne.symm (by assumption) | exact ne_obj N9 (by k_mem) (by k_mem) dq_ne_inst | exact ne_obj N9 (by k_mem) (by k_mem) dq_ne_dict | exact ne_obj N9 (by k_mem) (by k_mem) inst_ne_dict | exact (ne_obj N9 (by k_mem) (by k_mem) dq_ne_inst).symm | exact (ne_obj N9 (by k_mem) (by k_mem) dq_ne_dict).symm | exact (ne_obj N9 (by k_mem) (by k_mem) inst_ne_dict).symm | exact ne_obj N9 (by k_mem) (by k_mem) (inst_ne_inst (by decide)) | exact ne_obj N9 (by k_mem) (by k_mem) (dict_ne_len (by show (3 : Nat) ≠ 19; decide)))
  have de : lx ≠ fs := by (first | assumption | exact Ne.symm (by assumption) | exact ne_obj N9 (by k_mem) (by k_mem) dq_ne_inst | exact ne_obj N9 (by k_mem) (by k_mem) dq_ne_dict | exact ne_obj N9 (by k_mem) (by k_mem) inst_ne_dict | exact (ne_obj N9 (by k_mem) (by k_mem) dq_ne_inst).symm | exact (ne_obj N9 (by k_mem) (by k_mem) dq_ne_dict).symm | exact (ne_obj N9 (by k_mem) (by k_mem) inst_ne_dict).symm | exact ne_obj N9 (by k_mem) (by k_mem) (inst_ne_inst (by decide)) | exact ne_obj N9 (by k_mem) (by k_mem) (dict_ne_len (by show (3 : Nat) ≠ 19; decide)))
  have df : lx ≠ pb := by (first | assumption | exact Ne.symm (by assumption) | exact ne_obj N9 (by k_mem) (by k_mem) dq_ne_inst | exact ne_obj N9 (by k_mem) (by k_mem) dq_ne_dict | exact ne_obj N9 (by k_mem) (by k_mem) inst_ne_dict | exact (ne_obj N9 (by k_mem) (by k_mem) dq_ne_inst).symm | exact (ne_obj N9 (by k_mem) (by k_mem) dq_ne_dict).symm | exact (ne_obj N9 (by k_mem) (by k_mem) inst_ne_dict).symm | exact ne_obj N9 (by k_mem) (by k_mem) (inst_ne_inst (by decide)) | exact ne_obj N9 (by k_mem) (by k_mem) (dict_ne_len (by show (3 : Nat) ≠ 19; decide)))
  (try dsimp only)
  k_steps
  refine Held.out ?_
  rename (_ ∧ _) => l1
  obtain ⟨l11, l12, l13, l14, l15, l16, l17⟩ := l1
  have l18 := off_allLt l17 (Nat.le_refl _)
  have d1' := Nat.ne_of_gt l11
  have d2' := Nat.ne_of_gt l12
  have d3' := Nat.ne_of_gt l13
  have d4' := Nat.ne_of_gt l14
  have d5' := Nat.ne_of_gt l15
  have d6' := Nat.ne_of_gt l16
  rename News _ _ _ _ => N5
  refine head_of N5 fun ta hta => ?_
  subst hta
  have hx0 : FrR ⟨0, io, dio, h1, h2, h3, t1, t2, t3, u1, u2, u3, tx (q0.map (·.1)), 0, .none, .int 1 s2⟩ (-1, rowAt (RR q0 q1 q2 q3) (-1)) := by
    refine ⟨rfl, ?_, rfl, .inl ⟨rfl, rfl⟩⟩
    have e1 := tx_len (q0.map (·.1))
    have e2 := hsm.1
    show (tx _).length ≤ _
    dsimp only at e2
    omega
  refine' ctr_use (c_getA (RR q0 q1 q2 q3) w p loose mean mg mb ((ta, listOf ([] : List Value).toArray 0) :: news) lx dlx pb fs ks vs (Str.ofString "#") (by decide +kernel) [] [] _ _ 0 s1 s3 hx0 .nil (Int.le_refl _) (by show (-1 : Int) ≤ 2; decide) trivial ?hnd) ?k1 ?k2 ?k3 ?k4 ?k5 ?kK ?kd ?ku ?_
  case k1 => k_asm
  case k2 => k_asm
  case k3 => k_asm
  case k4 => exact N5.perm (List.forall_mem_cons.mpr ⟨.tail _ (.tail _ (.tail _ (.head _))), List.forall_mem_cons.mpr ⟨.tail _ (.tail _ (.tail _ (.tail _ (.head _)))), List.forall_mem_cons.mpr ⟨.tail _ (.tail _ (.tail _ (.tail _ (.tail _ (.head _))))), List.forall_mem_cons.mpr ⟨.tail _ (.tail _ (.tail _ (.tail _ (.tail _ (.tail _ (.head _)))))), List.forall_mem_cons.mpr ⟨.tail _ (.head _), List.forall_mem_cons.mpr ⟨.tail _ (.tail _ (.head _)), List.forall_mem_cons.mpr ⟨.head _, fun q hq => .tail _ (.tail _ (.tail _ (.tail _ (.tail _ (.tail _ (.tail _ hq))))))⟩⟩⟩⟩⟩⟩⟩)
  case k5 => k_asm
  case kK => exact rfl
  case kd => ktr_room
  case ku => ktr_units
  case hnd =>
    show ND (0 + 1 + 1 + 1 + 1 + 1 + 1) _
    simp only [gLed, rtLed, fmsLed, nd_cons, List.forall_mem_cons]
    (repeat' apply And.intro) <;> first | exact List.forall_mem_nil _ | assumption | exact Ne.symm (by assumption) | trivial
  intro r9 n9 h9 tk9 F9 N9 P9
  (try dsimp only)
  (k_with_none; (k_with "w1" => ((refine' code_def ?k1 ?k2 ?k3 ?k4 ?k5 ?kA ?kF ?kK ?k6 ?k7 ?k8 ?k9 ?kB ?_ ?c2 ?c3 ?c4 ?c5; (case kA => exact rfl); (case kF => exact rfl); (case kK => first | (with_reducible assumption) | assumption); (case k1 => k_asm); (case k2 => k_asm); (case k3 => k_asm); (case k4 => k_asm); (case k5 => k_asm); (case k6 => k_is); (case k7 => k_is); (case k8 => ktr_room); (case k9 => first | exact BindsTo.of_eq rfl | exact binds_K (by k_in) rfl (by k_is) rfl rfl rfl); (case c5 => decide); (case kB => exact locs rfl); (case c2 => exact rfl); (case c3 => exact rfl); (case c4 => exact rfl); k_whole; intro g'zz L'zz h'zz FG'zz F'zz N'zz B'zz X'zz T'zz; (try dsimp only); (try k_fold)))); (k_with "w2" => (((case k1 => k_asm); (case k2 => k_asm); (case k3 => k_asm); (case k4 => k_asm); (case k5 => k_asm); (case kK => first | (with_reducible assumption) | exact rfl | assumption); (case kd => ktr_room); (case ku => ktr_units)))); (k_with "w3" => (first | (refine in_has (b := false) ?hh ?_; (case hh => first | assumption | decide +kernel)) | (refine in_has (b := true) ?hh ?_; (case hh => first | assumption | decide +kernel)) | (refine in_has rfl ?_))); (k_with "w4" => (first | (refine notin_has (b := false) ?hh ?_; (case hh => first | assumption | decide +kernel)) | (refine notin_has (b := true) ?hh ?_; (case hh => first | assumption | decide +kernel)))); (k_with "w5" => (first | (refine eq_b (b := false) ?hh ?_; (case hh => first | assumption | decide +kernel)) | (refine eq_b (b := true) ?hh ?_; (case hh => first | assumption | decide +kernel)))); (k_with "w6" => (((first | (refine truthy_b (b := true) ?hh ?hl ?_; (case hh => first | assumption | exact full_one _ | decide +kernel); (case hl => first | assumption | exact one_short _ | decide +kernel)) | (refine truthy_b (b := false) ?hh ?hl ?_; (case hh => first | assumption | decide +kernel); (case hl => first | assumption | decide +kernel))); intro _))); (k_with "w7" => ((refine' kp_both ?k1 ?k2 ?k3 ?k4 ?k5 ?kA ?kF ?kK ?k6 ?k7 ?k8 ?kV ?kX ?kQ ?kM ?kN ?kD ?kR ?kP ?kS ?kT ?kB ?_ ?c2 ?c3 ?c4 ?c5; (case kA => exact rfl); (case kF => exact rfl); (case kK => first | (with_reducible assumption) | assumption); (case k1 => k_asm); (case k2 => k_asm); (case k3 => k_asm); (case k4 => k_asm); (case k5 => k_asm); (case k6 => k_is); (case k7 => k_is); (case k8 => ktr_room); (case kV => kp_lit); (case kX => kp_lit); (case kQ => exact rfl); (case kM => exact rfl); (case kN => exact rfl); (case kD => kp_flats); (case kR => exact rfl); (case kP => exact rfl); (case kS => exact fun _ => rfl); (case kT => exact fun _ _ => rfl); (case kB => exact fun _ _ => locs rfl); (case c5 => decide); (case c2 => exact rfl); (case c3 => exact rfl); (case c4 => exact rfl); k_whole; intro C'zz D'zz o'zz g'zz L'zz h'zz tk'zz l1zz l2zz lo'zz hs'zz fs'zz FG'zz F'zz N'zz B'zz X'zz T'zz; (try k_lt l1zz); (try k_lt2 l2zz); (try dsimp only); (try k_fold)))); (k_with "w8" => (((with_reducible show wpAny _ _ (callWith _ (Value.builtin _) (_ :: _) (backTo _ (starEach (_ :: _) _)) []) _ _ _); refine callWith_method1 ?_))); (k_with "w9" => ((k_here; k_dflt (refine' get_own ?k1 ?k2 ?k3 ?k4 ?k5 ?k6 ?k7 ?k8 ?k9 ?_; (case k1 => k_asm); (case k2 => k_asm); (case k3 => k_inst); (case k4 => k_is); (case k5 => k_is); (case k6 => k_is); (case k7 => k_is); (case k8 => k_get); (case k9 => k_handed); k_whole)))); (k_with "w10" => (((repeat (first | (with_reducible exact List.forall_mem_nil _) | (intro pzz hpzz; (repeat (first | (with_reducible exact hpzz) | (with_reducible refine List.mem_cons_of_mem _ ?_))); done) | (refine List.forall_mem_cons.mpr ⟨by k_mem, ?_⟩))); first | done | (intro pzz hpzz; repeat (first | exact hpzz | apply List.Mem.tail))))); (k_with "w35" => ((k_here; with_reducible refine gen_toks ?_; intro tkzz htkzz; (try dsimp only at htkzz)))); (k_with "w36" => ((k_here; with_reducible refine gen_toks ?_; intro tkzz htkzz; (try dsimp only at htkzz)))); (k_with "w37" => ((k_here; k_extra "mine:replace"))); (k_with "w48" => ((have hcL9zz := cLine_is; (try simp only [units_make, units_in1, units_deeper, Around.mark_units, units_caller] at *); (try dsimp only [ktrTop] at *); omega))); (k_with "w49" => (((try simp only [depth_make, depth_in1, depth_deeper, depth_caller] at *); (try dsimp only [ktrTop] at *); (try simp only [recursionLimit] at *); omega))); (k_with "w47" => (first | assumption | exact List.forall_mem_nil _ | (refine' List.forall_mem_cons.mpr ⟨?a, ?b⟩; (case a => k_ne); (case b => k_all)))); (k_with "w43" => ((k_here; k_dflt (refine' row_item ?N ?hm ?e ?h0 ?h6 ?_; (case N => k_asm); (case hm => first | k_mem | assumption); (case e => first | assumption | exact rfl); (case h0 => first | decide | omega); (case h6 => first | decide | omega))))); (k_with "w44" => ((k_here; k_dflt (refine' row_item ?N ?hm ?e ?h0 ?h6 ?_; (case N => k_asm); (case hm => first | k_mem | assumption); (case e => first | assumption | exact rfl); (case h0 => first | decide | omega); (case h6 => first | decide | omega))))); (k_with "w45" => ((k_here; k_dflt (refine' row_item ?N ?hm ?e ?h0 ?h6 ?_; (case N => k_asm); (case hm => first | k_mem | assumption); (case e => first | assumption | exact rfl); (case h0 => first | decide | omega); (case h6 => first | decide | omega))))); (k_with "w46" => ((k_here; k_extra "mine:ifexp"))); (k_with "w32" => ((k_here; k_dflt (refine' append_N ?F ?N ?U ?hz ?_; (case F => k_asm); (case N => k_asm); (case U => k_upd); (case hz => omega)); intro h'zz F'zz N'zz))); skip)
  (k_with "mine:while" => (k_dflt (refine Held.into ?_)))
  k_steps
  refine Held.out ?_
  refine' while_start (IL news (RR q0 q1 q2 q3) w.params lx dlx pb fs ta ks vs (Str.ofString "#") _) ?hE ?hI ?F ?N ?_
  case F => k_asm
  case N => k_asm
  case hE => passes_own
  case hI =>
    refine ⟨r9, none, none, news, [], 0, [], _, [], 0, n9, ?em, fun _ z => z, .nil, fun _ z => z, l18, ?tm, rfl, by show (-1 : Int) ≤ 2; decide, Nat.zero_le _, P9⟩
    case em => refine frame3 ?_ ?_ ?_ <;> kernel_rfl
    case tm =>
      unfold outF outS
      rw [List.nil_append, List.flatMap_nil, List.append_nil]
      exact (tt_unf (RR q0 q1 q2 q3) (Int.le_refl _) (by show (-1 : Int) ≤ 2; decide)).symm
  refine Held.out ?_
  clear P9 hx0 d1 d2 d3 d4 d5 d6 d7 d8 d9 da db dc de df d1' d2' d3' d4' d5' d6' l11 l12 l13 l14 l15 l16 l17 l18 o1 o2 o3 o4 o5 o6 o7
  intro n m8 news1 h8 tk8 hI F8 N8
  obtain ⟨tokv, vp, vn, oth, vsd, nn, told, ⟨pl0, ws0⟩, sa, kk, exact', em, en, htol, hb, hta, htm, hn, ha2, hk90, hG⟩ := hI
  subst em
  rcases hG with ⟨etok, hout, hsub⟩ | ⟨y, t, nq, ⟨tp, io, dio, h1, h2, h3, t1, t2, t3, u1, u2, u3, l, pp, vfile, vln⟩, st, ⟨pl, ws⟩, sa', s1, s2, etok, fx, fst, g1, g2, g3, g4, g5, g6, hnd, eex⟩
  · subst etok
    replace N8 := N8.perm fun q hq => en q (hsub q hq)
    rw [hout, List.append_nil] at htm
    subst htm
    (try k_fold)
    k_steps
    all_goals exact hret _ _ _ _ (by k_asm) (by k_asm) ⟨ta, nn, vsd, rfl, .head _, htol.mono fun _ _ _ _ z => .tail _ z, fun q hq => .tail _ (hb q hq)⟩
  · subst etok
    dsimp only at g1 g2 g3 g5 g6 ha2
    have hlen : st.length ≤ 3 := by
      rw [fst.len]
      have := desc_len g3
      omega
    rw [eex] at en
    clear eex exact'
    rw [g5] at htm
    have hgv := fx.2.2.2
    dsimp only at hgv
    by_cases hgt : y.n > pl
    · have hpl : (pl = -1 ∧ vfile = .none) ∨ (0 ≤ pl ∧ ∃ t, vfile = .int pl t) := hgv
      rw [out_push (a := (pl, ws)) g1 hgt] at htm
      have hj0 : 0 ≤ y.n := by omega
      have hj2 := nums_le y
      obtain ⟨qj, tj, htx, hrow, hqj⟩ := text_at (t0 := c0) (t1 := c1) (t2 := c2) (t3 := c3) hsm (pl := y.n) (by omega) hj2
      obtain ⟨G, hG⟩ : ∃ G, G = gLed w.params lx dlx pb fs ((ta, listOf vsd.toArray nn) :: oth) ks vs (Str.ofString "#") nq ⟨tp, io, dio, h1, h2, h3, t1, t2, t3, u1, u2, u3, l, pp, vfile, vln⟩ st (.str (Str.ofString " ") s1) (.str (Str.ofString "") s2) := ⟨_, rfl⟩
      have hV : ∀ q ∈ (D, LCg.lst [.str (rowT q0) c0, .str (rowT q1) c1, .str (rowT q2) c2, .str (rowT q3) c3]) :: (lx, instObj 738 dlx) :: (dlx, lexD w.params ks vs (Str.ofString "#") true pb fs (.ref io) vfile (.str (Str.ofString " ") s1) vln (.str (Str.ofString "") s2)) :: G, q ∈ news1 := by
        subst hG
        exact List.forall_mem_cons.mpr ⟨en _ (.tail _ (.tail _ (.tail _ (.tail _ (.tail _ (.tail _ (fms_sub _ (.tail _ (hb _ hm))))))))), List.forall_mem_cons.mpr ⟨en _ (.tail _ (.tail _ (.head _))), List.forall_mem_cons.mpr ⟨en _ (.tail _ (.tail _ (.tail _ (.head _)))), en⟩⟩⟩
      replace N8 := N8.perm hV
      clear hV en hgv
      (k_with_none; (k_with "w1" => ((refine' code_def ?k1 ?k2 ?k3 ?k4 ?k5 ?kA ?kF ?kK ?k6 ?k7 ?k8 ?k9 ?kB ?_ ?c2 ?c3 ?c4 ?c5; (case kA => exact rfl); (case kF => exact rfl); (case kK => first | (with_reducible assumption) | assumption); (case k1 => k_asm); (case k2 => k_asm); (case k3 => k_asm); (case k4 => k_asm); (case k5 => k_asm); (case k6 => k_is); (case k7 => k_is); (case k8 => ktr_room); (case k9 => first | exact BindsTo.of_eq rfl | exact binds_K (by k_in) rfl (by k_is) rfl rfl rfl); (case c5 => decide); (case kB => exact locs rfl); (case c2 => exact rfl); (case c3 => exact rfl); (case c4 => exact rfl); k_whole; intro g'zz L'zz h'zz FG'zz F'zz N'zz B'zz X'zz T'zz; (try dsimp only); (try k_fold)))); (k_with "w2" => (((case k1 => k_asm); (case k2 => k_asm); (case k3 => k_asm); (case k4 => k_asm); (case k5 => k_asm); (case kK => first | (with_reducible assumption) | exact rfl | assumption); (case kd => ktr_room); (case ku => ktr_units)))); (k_with "w3" => (first | (refine in_has (b := false) ?hh ?_; (case hh => first | assumption | decide +kernel)) | (refine in_has (b := true) ?hh ?_; (case hh => first | assumption | decide +kernel)) | (refine in_has rfl ?_))); (k_with "w4" => (first | (refine notin_has (b := false) ?hh ?_; (case hh => first | assumption | decide +kernel)) | (refine notin_has (b := true) ?hh ?_; (case hh => first | assumption | decide +kernel)))); (k_with "w5" => (first | (refine eq_b (b := false) ?hh ?_; (case hh => first | assumption | decide +kernel)) | (refine eq_b (b := true) ?hh ?_; (case hh => first | assumption | decide +kernel)))); (k_with "w6" => (((first | (refine truthy_b (b := true) ?hh ?hl ?_; (case hh => first | assumption | exact full_one _ | decide +kernel); (case hl => first | assumption | exact one_short _ | decide +kernel)) | (refine truthy_b (b := false) ?hh ?hl ?_; (case hh => first | assumption | decide +kernel); (case hl => first | assumption | decide +kernel))); intro _))); (k_with "w7" => ((refine' kp_both ?k1 ?k2 ?k3 ?k4 ?k5 ?kA ?kF ?kK ?k6 ?k7 ?k8 ?kV ?kX ?kQ ?kM ?kN ?kD ?kR ?kP ?kS ?kT ?kB ?_ ?c2 ?c3 ?c4 ?c5; (case kA => exact rfl); (case kF => exact rfl); (case kK => first | (with_reducible assumption) | assumption); (case k1 => k_asm); (case k2 => k_asm); (case k3 => k_asm); (case k4 => k_asm); (case k5 => k_asm); (case k6 => k_is); (case k7 => k_is); (case k8 => ktr_room); (case kV => kp_lit); (case kX => kp_lit); (case kQ => exact rfl); (case kM => exact rfl); (case kN => exact rfl); (case kD => kp_flats); (case kR => exact rfl); (case kP => exact rfl); (case kS => exact fun _ => rfl); (case kT => exact fun _ _ => rfl); (case kB => exact fun _ _ => locs rfl); (case c5 => decide); (case c2 => exact rfl); (case c3 => exact rfl); (case c4 => exact rfl); k_whole; intro C'zz D'zz o'zz g'zz L'zz h'zz tk'zz l1zz l2zz lo'zz hs'zz fs'zz FG'zz F'zz N'zz B'zz X'zz T'zz; (try k_lt l1zz); (try k_lt2 l2zz); (try dsimp only); (try k_fold)))); (k_with "w8" => (((with_reducible show wpAny _ _ (callWith _ (Value.builtin _) (_ :: _) (backTo _ (starEach (_ :: _) _)) []) _ _ _); refine callWith_method1 ?_))); (k_with "w9" => ((k_here; k_dflt (refine' get_own ?k1 ?k2 ?k3 ?k4 ?k5 ?k6 ?k7 ?k8 ?k9 ?_; (case k1 => k_asm); (case k2 => k_asm); (case k3 => k_inst); (case k4 => k_is); (case k5 => k_is); (case k6 => k_is); (case k7 => k_is); (case k8 => k_get); (case k9 => k_handed); k_whole)))); (k_with "w10" => (((repeat (first | (with_reducible exact List.forall_mem_nil _) | (intro pzz hpzz; (repeat (first | (with_reducible exact hpzz) | (with_reducible refine List.mem_cons_of_mem _ ?_))); done) | (refine List.forall_mem_cons.mpr ⟨by k_mem, ?_⟩))); first | done | (intro pzz hpzz; repeat (first | exact hpzz | apply List.Mem.tail))))); (k_with "w35" => ((k_here; with_reducible refine gen_toks ?_; intro tkzz htkzz; (try dsimp only at htkzz)))); (k_with "w36" => ((k_here; with_reducible refine gen_toks ?_; intro tkzz htkzz; (try dsimp only at htkzz)))); (k_with "w37" => ((k_here; k_extra "mine:replace"))); (k_with "w48" => ((have hcL9zz := cLine_is; (try simp only [units_make, units_in1, units_deeper, Around.mark_units, units_caller] at *); (try dsimp only [ktrTop] at *); omega))); (k_with "w49" => (((try simp only [depth_make, depth_in1, depth_deeper, depth_caller] at *); (try dsimp only [ktrTop] at *); (try simp only [recursionLimit] at *); omega))); (k_with "w47" => (first | assumption | exact List.forall_mem_nil _ | (refine' List.forall_mem_cons.mpr ⟨?a, ?b⟩; (case a => k_ne); (case b => k_all)))); (k_with "w43" => ((k_here; k_dflt (refine' row_item ?N ?hm ?e ?h0 ?h6 ?_; (case N => k_asm); (case hm => first | k_mem | assumption); (case e => first | assumption | exact rfl); (case h0 => first | decide | omega); (case h6 => first | decide | omega))))); (k_with "w44" => ((k_here; k_dflt (refine' row_item ?N ?hm ?e ?h0 ?h6 ?_; (case N => k_asm); (case hm => first | k_mem | assumption); (case e => first | assumption | exact rfl); (case h0 => first | decide | omega); (case h6 => first | decide | omega))))); (k_with "w45" => ((k_here; k_dflt (refine' row_item ?N ?hm ?e ?h0 ?h6 ?_; (case N => k_asm); (case hm => first | k_mem | assumption); (case e => first | assumption | exact rfl); (case h0 => first | decide | omega); (case h6 => first | decide | omega))))); (k_with "w46" => ((k_here; k_extra "mine:ifexp"))); (k_with "w32" => ((k_here; k_dflt (refine' append_N ?F ?N ?U ?hz ?_; (case F => k_asm); (case N => k_asm); (case U => k_upd); (case hz => omega)); intro h'zz F'zz N'zz))); skip)
      (k_with "mine:call ref" => (k_dflt (first
        | ((with_reducible show wpAny _ _ (call (Value.ref 764) _ _) _ _ _); refine' ctr_use (c_num _ _ _ _ _ _ _ _ _) ?k1 ?k2 ?k3 ?k4 ?k5 ?kK ?kd ?ku ?_; walk_at "mine:call"; intro r9 n9 h9 tk9 F9 N9 P9; obtain ⟨⟨t9, e9⟩, e9'⟩ := P9; subst e9 e9'; (try dsimp only))
        | refine Held.into ?_)))
      (k_with "mine:ifexp" => (refine' mono_pl (pl := pl) ?pl1 ?pl2; (case' pl2 => (intro t9 k9; (try dsimp only)))))
      (try k_fold)
      k_steps
      all_goals (refine Held.out ?_)
      all_goals first
       | ((with_reducible show wpAny _ _ (eval _ _) _ _ _)
          (k_with "mine:ifexp" => (fail))
          rcases hpl with ⟨epl, evf⟩ | ⟨hp0, tv, evf⟩ <;> subst evf
          · subst epl
            (try k_fold)
            k_steps
            all_goals exact ⟨_, _, rfl, rfl⟩
          · (try k_fold)
            k_steps
            all_goals exact ⟨_, _, rfl, rfl⟩)
       | (
        rename News _ _ _ _ => N5
        refine' ctr_use (c_pushA w p loose mean mg mb ((ta, listOf vsd.toArray nn) :: oth) lx dlx pb fs ks vs (Str.ofString "#") st sa' _ _ nq _ _ fx fst (Nat.le_trans hlen (by decide)) hnd qj hqj _ y.n hj0 _) ?k1 ?k2 ?k3 ?k4 ?k5 ?kK ?kd ?ku ?_
        case k1 => k_asm
        case k2 => k_asm
        case k3 => k_asm
        case k4 => exact N5.perm (fun q hq => .tail _ (.tail _ (.tail _ (hG ▸ hq))))
        case k5 => k_asm
        case kK => exact rfl
        case kd => ktr_room
        case ku => ktr_units
        intro r9 n9 h9 tk9 F9 N9 P9
        obtain ⟨e9, nq9, f9, x9, fx9, ff9, e9', hnd9⟩ := P9
        rw [← hrow] at fx9
        replace ff9 := StR.cons (ff9 _ fx) fst
        obtain ⟨G9, hG9⟩ : ∃ G9, G9 = n9 := ⟨_, rfl⟩
        have hV : ∀ q ∈ (lx, instObj 738 dlx) :: (dlx, lexD w.params ks vs (Str.ofString "#") true pb fs (.ref x9.io) x9.vfile (.str (Str.ofString " ") s1) x9.vln (.str (Str.ofString "") s2)) :: G9, q ∈ n9 := by
          subst hG9
          rw [e9']
          exact List.forall_mem_cons.mpr ⟨.tail _ (.tail _ (.head _)), List.forall_mem_cons.mpr ⟨.tail _ (.tail _ (.tail _ (.head _))), fun _ z => z⟩⟩
        replace N9 := N9.perm hV
        clear hV hG N5
        rw [e9'] at hG9
        subst e9
        clear e9'
        (try dsimp only)
        k_steps
        refine Held.out ?_
        refine' ctr_use (c_getA (RR q0 q1 q2 q3) w p loose mean mg mb ((ta, listOf vsd.toArray nn) :: oth) lx dlx pb fs ks vs (Str.ofString "#") (by decide +kernel) (f9 :: st) ((pl, ws) :: sa') x9 _ nq9 s1 s2 fx9 ff9 ?h1 hj2 ⟨hgt, g1, g3⟩ hnd9) ?k1 ?k2 ?k3 ?k4 ?k5 ?kK ?kd ?ku ?_
        case h1 => exact Int.le_trans (by decide) hj0
        case k1 => k_asm
        case k2 => k_asm
        case k3 => k_asm
        case k4 => exact N9.perm (fun q hq => .tail _ (.tail _ (hG9 ▸ hq)))
        case k5 => k_asm
        case kK => exact rfl
        case kd => ktr_room
        case ku => ktr_units
        clear N9
        intro r9 n9 h9 tk9 F9 N9 P9
        (try dsimp only)
        k_steps
        all_goals (
          refine' wpost_of (n' := costF (y.n, rowAt (RR q0 q1 q2 q3) y.n) + costS ((pl, ws) :: sa')) ?hlt ?F ?N ?h
          case hlt => rw [hn, g6]; exact cost_push (a := (pl, ws)) (sa := sa') hsm hgt hj2
          case F => k_asm
          case N => k_asm
          case h =>
            refine' ⟨_, _, _, oth, vsd, nn, told, (y.n, rowAt (RR q0 q1 q2 q3) y.n), (pl, ws) :: sa', _, _, ?em, fun _ z => z, htol, hb, hta, htm, rfl, hj2, ?k90, P9⟩
            case em =>
              refine' frame_of ?x1 ?x2
              case x1 => exact if_pos rfl
              case x2 =>
                intro y n1 n2 n3
                (try dsimp only)
                simp only [if_neg n1, if_neg n2, if_neg n3]
            case k90 => exact Nat.le_trans (Nat.succ_le_succ hlen) (by decide)))
    · have hpl : (pl = -1 ∧ vfile = .none) ∨ (0 ≤ pl ∧ ∃ t, vfile = .int pl t) := hgv
      have e1 : told1 pl y (TT (RR q0 q1 q2 q3) y.n) = [(y.out pl, pl)] := by unfold told1; rw [if_neg hgt]
      rw [e1, ← List.append_assoc] at htm
      clear e1
      have hlenv : vsd.length ≤ 256 := by
        have e2 := tm_len hsm
        rw [← htm, List.length_append, List.length_append] at e2
        rw [htol.len]; omega
      have hwl := wd_len y
      have hge := nums_ge y
      obtain ⟨G, hG⟩ : ∃ G, G = gLed w.params lx dlx pb fs [] ks vs (Str.ofString "#") nq ⟨tp, io, dio, h1, h2, h3, t1, t2, t3, u1, u2, u3, l, pp, vfile, vln⟩ st (.str (Str.ofString " ") s1) (.str (Str.ofString "") s2) ++ oth := ⟨_, rfl⟩
      have hGta : ∀ q ∈ G, q.1 ≠ ta := by
        subst hG
        intro q hq
        rcases List.mem_append.mp hq with hq | hq
        · exact lx_off (N8.perm en) (.head _) q hq
        · exact hta q hq
      have hV : ∀ q ∈ (ta, listOf vsd.toArray nn) :: (lx, instObj 738 dlx) :: (dlx, lexD w.params ks vs (Str.ofString "#") true pb fs (.ref io) vfile (.str (Str.ofString " ") s1) vln (.str (Str.ofString "") s2)) :: G, q ∈ news1 := by
        subst hG
        rw [g_app] at en
        refine List.forall_mem_cons.mpr ⟨en _ (List.mem_append.mpr (.inr (.head _))), List.forall_mem_cons.mpr ⟨en _ (.tail _ (.tail _ (.head _))), List.forall_mem_cons.mpr ⟨en _ (.tail _ (.tail _ (.tail _ (.head _)))), fun q hq => en q ?_⟩⟩⟩
        rcases List.mem_append.mp hq with hq | hq
        · exact List.mem_append.mpr (.inl hq)
        · exact List.mem_append.mpr (.inr (.tail _ hq))
      have hlxta : lx ≠ ta := hGta (lx, _) (by rw [hG]; exact .tail _ (.tail _ (.head _)))
      have hdlxta : dlx ≠ ta := hGta (dlx, _) (by rw [hG]; exact .tail _ (.tail _ (.tail _ (.head _))))
      replace N8 := N8.perm hV
      clear hV en hgv
      (k_with_none; (k_with "w1" => ((refine' code_def ?k1 ?k2 ?k3 ?k4 ?k5 ?kA ?kF ?kK ?k6 ?k7 ?k8 ?k9 ?kB ?_ ?c2 ?c3 ?c4 ?c5; (case kA => exact rfl); (case kF => exact rfl); (case kK => first | (with_reducible assumption) | assumption); (case k1 => k_asm); (case k2 => k_asm); (case k3 => k_asm); (case k4 => k_asm); (case k5 => k_asm); (case k6 => k_is); (case k7 => k_is); (case k8 => ktr_room); (case k9 => first | exact BindsTo.of_eq rfl | exact binds_K (by k_in) rfl (by k_is) rfl rfl rfl); (case c5 => decide); (case kB => exact locs rfl); (case c2 => exact rfl); (case c3 => exact rfl); (case c4 => exact rfl); k_whole; intro g'zz L'zz h'zz FG'zz F'zz N'zz B'zz X'zz T'zz; (try dsimp only); (try k_fold)))); (k_with "w2" => (((case k1 => k_asm); (case k2 => k_asm); (case k3 => k_asm); (case k4 => k_asm); (case k5 => k_asm); (case kK => first | (with_reducible assumption) | exact rfl | assumption); (case kd => ktr_room); (case ku => ktr_units)))); (k_with "w3" => (first | (refine in_has (b := false) ?hh ?_; (case hh => first | assumption | decide +kernel)) | (refine in_has (b := true) ?hh ?_; (case hh => first | assumption | decide +kernel)) | (refine in_has rfl ?_))); (k_with "w4" => (first | (refine notin_has (b := false) ?hh ?_; (case hh => first | assumption | decide +kernel)) | (refine notin_has (b := true) ?hh ?_; (case hh => first | assumption | decide +kernel)))); (k_with "w5" => (first | (refine eq_b (b := false) ?hh ?_; (case hh => first | assumption | decide +kernel)) | (refine eq_b (b := true) ?hh ?_; (case hh => first | assumption | decide +kernel)))); (k_with "w6" => (((first | (refine truthy_b (b := true) ?hh ?hl ?_; (case hh => first | assumption | exact full_one _ | decide +kernel); (case hl => first | assumption | exact one_short _ | decide +kernel)) | (refine truthy_b (b := false) ?hh ?hl ?_; (case hh => first | assumption | decide +kernel); (case hl => first | assumption | decide +kernel))); intro _))); (k_with "w7" => ((refine' kp_both ?k1 ?k2 ?k3 ?k4 ?k5 ?kA ?kF ?kK ?k6 ?k7 ?k8 ?kV ?kX ?kQ ?kM ?kN ?kD ?kR ?kP ?kS ?kT ?kB ?_ ?c2 ?c3 ?c4 ?c5; (case kA => exact rfl); (case kF => exact rfl); (case kK => first | (with_reducible assumption) | assumption); (case k1 => k_asm); (case k2 => k_asm); (case k3 => k_asm); (case k4 => k_asm); (case k5 => k_asm); (case k6 => k_is); (case k7 => k_is); (case k8 => ktr_room); (case kV => kp_lit); (case kX => kp_lit); (case kQ => exact rfl); (case kM => exact rfl); (case kN => exact rfl); (case kD => kp_flats); (case kR => exact rfl); (case kP => exact rfl); (case kS => exact fun _ => rfl); (case kT => exact fun _ _ => rfl); (case kB => exact fun _ _ => locs rfl); (case c5 => decide); (case c2 => exact rfl); (case c3 => exact rfl); (case c4 => exact rfl); k_whole; intro C'zz D'zz o'zz g'zz L'zz h'zz tk'zz l1zz l2zz lo'zz hs'zz fs'zz FG'zz F'zz N'zz B'zz X'zz T'zz; (try k_lt l1zz); (try k_lt2 l2zz); (try dsimp only); (try k_fold)))); (k_with "w8" => (((with_reducible show wpAny _ _ (callWith _ (Value.builtin _) (_ :: _) (backTo _ (starEach (_ :: _) _)) []) _ _ _); refine callWith_method1 ?_))); (k_with "w9" => ((k_here; k_dflt (refine' get_own ?k1 ?k2 ?k3 ?k4 ?k5 ?k6 ?k7 ?k8 ?k9 ?_; (case k1 => k_asm); (case k2 => k_asm); (case k3 => k_inst); (case k4 => k_is); (case k5 => k_is); (case k6 => k_is); (case k7 => k_is); (case k8 => k_get); (case k9 => k_handed); k_whole)))); (k_with "w10" => (((repeat (first | (with_reducible exact List.forall_mem_nil _) | (intro pzz hpzz; (repeat (first | (with_reducible exact hpzz) | (with_reducible refine List.mem_cons_of_mem _ ?_))); done) | (refine List.forall_mem_cons.mpr ⟨by k_mem, ?_⟩))); first | done | (intro pzz hpzz; repeat (first | exact hpzz | apply List.Mem.tail))))); (k_with "w35" => ((k_here; with_reducible refine gen_toks ?_; intro tkzz htkzz; (try dsimp only at htkzz)))); (k_with "w36" => ((k_here; with_reducible refine gen_toks ?_; intro tkzz htkzz; (try dsimp only at htkzz)))); (k_with "w37" => ((k_here; k_extra "mine:replace"))); (k_with "w48" => ((have hcL9zz := cLine_is; (try simp only [units_make, units_in1, units_deeper, Around.mark_units, units_caller] at *); (try dsimp only [ktrTop] at *); omega))); (k_with "w49" => (((try simp only [depth_make, depth_in1, depth_deeper, depth_caller] at *); (try dsimp only [ktrTop] at *); (try simp only [recursionLimit] at *); omega))); (k_with "w47" => (first | assumption | exact List.forall_mem_nil _ | (refine' List.forall_mem_cons.mpr ⟨?a, ?b⟩; (case a => k_ne); (case b => k_all)))); (k_with "w43" => ((k_here; k_dflt (refine' row_item ?N ?hm ?e ?h0 ?h6 ?_; (case N => k_asm); (case hm => first | k_mem | assumption); (case e => first | assumption | exact rfl); (case h0 => first | decide | omega); (case h6 => first | decide | omega))))); (k_with "w44" => ((k_here; k_dflt (refine' row_item ?N ?hm ?e ?h0 ?h6 ?_; (case N => k_asm); (case hm => first | k_mem | assumption); (case e => first | assumption | exact rfl); (case h0 => first | decide | omega); (case h6 => first | decide | omega))))); (k_with "w45" => ((k_here; k_dflt (refine' row_item ?N ?hm ?e ?h0 ?h6 ?_; (case N => k_asm); (case hm => first | k_mem | assumption); (case e => first | assumption | exact rfl); (case h0 => first | decide | omega); (case h6 => first | decide | omega))))); (k_with "w46" => ((k_here; k_extra "mine:ifexp"))); (k_with "w32" => ((k_here; k_dflt (refine' append_N ?F ?N ?U ?hz ?_; (case F => k_asm); (case N => k_asm); (case U => k_upd); (case hz => omega)); intro h'zz F'zz N'zz))); skip)
      (k_with "mine:replace" => (k_dflt (refine' repl_T ?hu ?hv ?huv ?hyz ?hx ?hz ?hab ?_; (case hu => ((try dsimp only); (show @Ne Nat _ _); omega)); (case hv => ((try dsimp only); (show @Ne Nat _ _); omega)); (case huv => ((try dsimp only); (show @Ne Nat _ _); omega)); (case hyz => decide +kernel); (case hx => assumption); (case hz => exact Nat.le_refl 1); (case hab => decide); intro t' k' hk' hlen'; (try dsimp only at hk'))))
      (k_with "mine:call ref" => (k_dflt (first
        | ((with_reducible show wpAny _ _ (call (Value.ref 764) _ _) _ _ _); refine' ctr_use (c_num _ _ _ _ _ _ _ _ _) ?k1 ?k2 ?k3 ?k4 ?k5 ?kK ?kd ?ku ?_; walk_at "mine:call"; intro r9 n9 h9 tk9 F9 N9 P9; obtain ⟨⟨t9, e9⟩, e9'⟩ := P9; subst e9 e9'; (try dsimp only))
        | ((with_reducible show wpAny _ _ (call (Value.ref 55) _ _) _ _ _); refine' ctr_use (c_unesc1 _ _ _ _ _ _ _ _ ?hx _) ?k1 ?k2 ?k3 ?k4 ?k5 ?kK ?kd ?ku ?_; walk_at "mine:call"; (case hx => omega); intro r9 n9 h9 tk9 F9 N9 P9; obtain ⟨⟨t9, e9⟩, e9'⟩ := P9; subst e9 e9'; (try dsimp only))
        | refine Held.into ?_)))
      rcases hpl with ⟨epl, evf⟩ | ⟨hp0, tv, evf⟩ <;> subst evf
      · subst epl
        (try k_fold)
        k_steps
        refine Held.out ?_
        rename News _ _ _ _ => N5
        refine head_of N5 fun tq htq => ?_
        subst htq
        have hin : ∀ q ∈ gLed w.params lx dlx pb fs [] ks vs (Str.ofString "#") nq ⟨tp, io, dio, h1, h2, h3, t1, t2, t3, u1, u2, u3, l, pp, .none, vln⟩ st (.str (Str.ofString " ") s1) (.str (Str.ofString "") s2) ++ oth, q ∈ G := by rw [hG]; exact fun _ z => z
        have hnd9 := nd_told (y := (y.out (-1), -1)) (its' := (vsd ++ [Value.ref tq]).toArray) (nn' := nn + 1) hnd N5 (.head _) (fun q hq => .tail _ (.tail _ (.tail _ (.tail _ (hin q (List.mem_append.mpr (.inl hq)))))))
        have hta9 : tq ≠ ta := ne_obj N5 (.head _) (.tail _ (.head _)) (tup_ne_list (x := (y.out (-1), -1)))
        refine' ctr_use (c_getA (RR q0 q1 q2 q3) w p loose mean mg mb _ lx dlx pb fs ks vs (Str.ofString "#") (by decide +kernel) st sa' _ (-1, ws) nq s1 s2 fx fst g1 ?h2 g3 hnd9) ?k1 ?k2 ?k3 ?k4 ?k5 ?kK ?kd ?ku ?_
        case h2 => exact Int.le_trans g2 ha2
        case k1 => k_asm
        case k2 => k_asm
        case k3 => k_asm
        case k4 =>
          refine N5.perm ?_
          rw [g_app]
          intro q hq
          rcases List.mem_append.mp hq with hq | hq
          · exact .tail _ (.tail _ (.tail _ (.tail _ (hin q (List.mem_append.mpr (.inl hq))))))
          rcases List.mem_cons.mp hq with rfl | hq
          · exact .tail _ (.head _)
          rcases List.mem_cons.mp hq with rfl | hq
          · exact .head _
          · exact .tail _ (.tail _ (.tail _ (.tail _ (hin q (List.mem_append.mpr (.inr hq))))))
        case k5 => k_asm
        case kK => exact rfl
        case kd => ktr_room
        case ku => ktr_units
        clear N5 hin hG hGta
        intro r9 n9 h9 tk9 F9 N9 P9
        (try dsimp only)
        k_steps
        all_goals (
          refine' wpost_of (n' := costF (-1, ws) + costS sa') ?hlt ?F ?N ?h
          case hlt =>
            have := Wt_pos (-1)
            rw [hn, g6]; omega
          case F => k_asm
          case N => k_asm
          case h =>
            refine' ⟨_, _, _, _, vsd ++ [.ref tq], nn + 1, told ++ [(y.out (-1), (-1))], (-1, ws), sa', _, _, ?em, fun _ z => z, ?tol, ?hb, ?hta, htm, rfl, Int.le_trans g2 ha2, ?k90, P9⟩
            case em =>
              refine' frame_of ?x1 ?x2
              case x1 => exact if_pos rfl
              case x2 =>
                intro y n1 n2 n3
                (try dsimp only)
                simp only [if_neg n1, if_neg n2, if_neg n3]
            case tol => exact Tol.app (htol.mono fun _ _ _ _ z => .tail _ z) (tol_one (.head _) rfl)
            case hb => exact fun q hq => .tail _ (hb q hq)
            case hta => exact List.forall_mem_cons.mpr ⟨hta9, hta⟩
            case k90 => exact Nat.le_trans hlen (by decide))
      · (try k_fold)
        k_steps
        refine Held.out ?_
        rename News _ _ _ _ => N5
        rw [amp_word y hp0] at N5
        refine head_of N5 fun tq htq => ?_
        subst htq
        have hin : ∀ q ∈ gLed w.params lx dlx pb fs [] ks vs (Str.ofString "#") nq ⟨tp, io, dio, h1, h2, h3, t1, t2, t3, u1, u2, u3, l, pp, .int pl tv, vln⟩ st (.str (Str.ofString " ") s1) (.str (Str.ofString "") s2) ++ oth, q ∈ G := by rw [hG]; exact fun _ z => z
        have hnd9 := nd_told (y := (y.out pl, pl)) (its' := (vsd ++ [Value.ref tq]).toArray) (nn' := nn + 1) hnd N5 (.head _) (fun q hq => .tail _ (.tail _ (.tail _ (.tail _ (hin q (List.mem_append.mpr (.inl hq)))))))
        have hta9 : tq ≠ ta := ne_obj N5 (.head _) (.tail _ (.head _)) (tup_ne_list (x := (y.out pl, pl)))
        refine' ctr_use (c_getA (RR q0 q1 q2 q3) w p loose mean mg mb _ lx dlx pb fs ks vs (Str.ofString "#") (by decide +kernel) st sa' _ (pl, ws) nq s1 s2 fx fst g1 ?h2 g3 hnd9) ?k1 ?k2 ?k3 ?k4 ?k5 ?kK ?kd ?ku ?_
        case h2 => exact Int.le_trans g2 ha2
        case k1 => k_asm
        case k2 => k_asm
        case k3 => k_asm
        case k4 =>
          refine N5.perm ?_
          rw [g_app]
          intro q hq
          rcases List.mem_append.mp hq with hq | hq
          · exact .tail _ (.tail _ (.tail _ (.tail _ (hin q (List.mem_append.mpr (.inl hq))))))
          rcases List.mem_cons.mp hq with rfl | hq
          · exact .tail _ (.head _)
          rcases List.mem_cons.mp hq with rfl | hq
          · exact .head _
          · exact .tail _ (.tail _ (.tail _ (.tail _ (hin q (List.mem_append.mpr (.inr hq))))))
        case k5 => k_asm
        case kK => exact rfl
        case kd => ktr_room
        case ku => ktr_units
        clear N5 hin hG hGta
        intro r9 n9 h9 tk9 F9 N9 P9
        (try dsimp only)
        k_steps
        all_goals (
          refine' wpost_of (n' := costF (pl, ws) + costS sa') ?hlt ?F ?N ?h
          case hlt =>
            have := Wt_pos pl
            rw [hn, g6]; omega
          case F => k_asm
          case N => k_asm
          case h =>
            refine' ⟨_, _, _, _, vsd ++ [.ref tq], nn + 1, told ++ [(y.out pl, pl)], (pl, ws), sa', _, _, ?em, fun _ z => z, ?tol, ?hb, ?hta, htm, rfl, Int.le_trans g2 ha2, ?k90, P9⟩
            case em =>
              refine' frame_of ?x1 ?x2
              case x1 => exact if_pos rfl
              case x2 =>
                intro y n1 n2 n3
                (try dsimp only)
                simp only [if_neg n1, if_neg n2, if_neg n3]
            case tol => exact Tol.app (htol.mono fun _ _ _ _ z => .tail _ z) (tol_one (.head _) rfl)
            case hb => exact fun q hq => .tail _ (hb q hq)
            case hta => exact List.forall_mem_cons.mpr ⟨hta9, hta⟩
            case k90 => exact Nat.le_trans hlen (by decide))
end
section
open PySem PySem.W PyProof.Rows
theorem ws_LA : True := by
  (k_with_none; (k_with "w1" => ((refine' code_def ?k1 ?k2 ?k3 ?k4 ?k5 ?kA ?kF ?kK ?k6 ?k7 ?k8 ?k9 ?kB ?_ ?c2 ?c3 ?c4 ?c5; (case kA => exact rfl); (case kF => exact rfl); (case kK => first | (with_reducible assumption) | assumption); (case k1 => k_asm); (case k2 => k_asm); (case k3 => k_asm); (case k4 => k_asm); (case k5 => k_asm); (case k6 => k_is); (case k7 => k_is); (case k8 => ktr_room); (case k9 => first | exact BindsTo.of_eq rfl | exact binds_K (by k_in) rfl (by k_is) rfl rfl rfl); (case c5 => decide); (case kB => exact locs rfl); (case c2 => exact rfl); (case c3 => exact rfl); (case c4 => exact rfl); k_whole; intro g'zz L'zz h'zz FG'zz F'zz N'zz B'zz X'zz T'zz; (try dsimp only); (try k_fold)))); (k_with "w2" => (((case k1 => k_asm); (case k2 => k_asm); (case k3 => k_asm); (case k4 => k_asm); (case k5 => k_asm); (case kK => first | (with_reducible assumption) | exact rfl | assumption); (case kd => ktr_room); (case ku => ktr_units)))); (k_with "w3" => (first | (refine in_has (b := false) ?hh ?_; (case hh => first | assumption | decide +kernel)) | (refine in_has (b := true) ?hh ?_; (case hh => first | assumption | decide +kernel)) | (refine in_has rfl ?_))); (k_with "w4" => (first | (refine notin_has (b := false) ?hh ?_; (case hh => first | assumption | decide +kernel)) | (refine notin_has (b := true) ?hh ?_; (case hh => first | assumption | decide +kernel)))); (k_with "w5" => (first | (refine eq_b (b := false) ?hh ?_; (case hh => first | assumption | decide +kernel)) | (refine eq_b (b := true) ?hh ?_; (case hh => first | assumption | decide +kernel)))); (k_with "w6" => (((first | (refine truthy_b (b := true) ?hh ?hl ?_; (case hh => first | assumption | exact full_one _ | decide +kernel); (case hl => first | assumption | exact one_short _ | decide +kernel)) | (refine truthy_b (b := false) ?hh ?hl ?_; (case hh => first | assumption | decide +kernel); (case hl => first | assumption | decide +kernel))); intro _))); (k_with "w7" => ((refine' kp_both ?k1 ?k2 ?k3 ?k4 ?k5 ?kA ?kF ?kK ?k6 ?k7 ?k8 ?kV ?kX ?kQ ?kM ?kN ?kD ?kR ?kP ?kS ?kT ?kB ?_ ?c2 ?c3 ?c4 ?c5; (case kA => exact rfl); (case kF => exact rfl); (case kK => first | (with_reducible assumption) | assumption); (case k1 => k_asm); (case k2 => k_asm); (case k3 => k_asm); (case k4 => k_asm); (case k5 => k_asm); (case k6 => k_is); (case k7 => k_is); (case k8 => ktr_room); (case kV => kp_lit); (case kX => kp_lit); (case kQ => exact rfl); (case kM => exact rfl); (case kN => exact rfl); (case kD => kp_flats); (case kR => exact rfl); (case kP => exact rfl); (case kS => exact fun _ => rfl); (case kT => exact fun _ _ => rfl); (case kB => exact fun _ _ => locs rfl); (case c5 => decide); (case c2 => exact rfl); (case c3 => exact rfl); (case c4 => exact rfl); k_whole; intro C'zz D'zz o'zz g'zz L'zz h'zz tk'zz l1zz l2zz lo'zz hs'zz fs'zz FG'zz F'zz N'zz B'zz X'zz T'zz; (try k_lt l1zz); (try k_lt2 l2zz); (try dsimp only); (try k_fold)))); (k_with "w8" => (((with_reducible show wpAny _ _ (callWith _ (Value.builtin _) (_ :: _) (backTo _ (starEach (_ :: _) _)) []) _ _ _); refine callWith_method1 ?_))); (k_with "w9" => ((k_here; k_dflt (refine' get_own ?k1 ?k2 ?k3 ?k4 ?k5 ?k6 ?k7 ?k8 ?k9 ?_; (case k1 => k_asm); (case k2 => k_asm); (case k3 => k_inst); (case k4 => k_is); (case k5 => k_is); (case k6 => k_is); (case k7 => k_is); (case k8 => k_get); (case k9 => k_handed); k_whole)))); (k_with "w10" => (((repeat (first | (with_reducible exact List.forall_mem_nil _) | (intro pzz hpzz; (repeat (first | (with_reducible exact hpzz) | (with_reducible refine List.mem_cons_of_mem _ ?_))); done) | (refine List.forall_mem_cons.mpr ⟨by k_mem, ?_⟩))); first | done | (intro pzz hpzz; repeat (first | exact hpzz | apply List.Mem.tail))))); (k_with "w35" => ((k_here; with_reducible refine gen_toks ?_; intro tkzz htkzz; (try dsimp only at htkzz)))); (k_with "w36" => ((k_here; with_reducible refine gen_toks ?_; intro tkzz htkzz; (try dsimp only at htkzz)))); (k_with "w37" => ((k_here; k_extra "mine:replace"))); trivial)
theorem tokb {t : Tok} {k : Nat} (h : 1 ≤ t ∧ t < k) : @LE.le Nat instLENat 1 t ∧ @LT.lt Nat instLTNat t k := h
local macro_rules | `(tactic| walk_at "eval ListComp") => `(tactic| (k_here; (with_reducible show wpAny _ _ (eval (PySem.Expr.ListComp _ [⟨PySem.Expr.Name _ _, _, _, _⟩] _ _) _) _ _ _); k_dflt (refine comp_T (by k_asm) (by with_unfolding_all rfl) (by decide) (by rfl) (by decide) (by rfl) ?_)))
local macro_rules | `(tactic| walk_at "exec Assign cons ListComp") => `(tactic| (k_here; k_dflt (refine comp_A (by k_asm) (by rfl) (by with_unfolding_all rfl) (by with_unfolding_all rfl) (by decide) (by rfl) (by decide) (by rfl) (by rfl) (by rfl) ?_)))
local macro_rules | `(tactic| walk_at "CSrcA") => `(tactic| (k_here; k_dflt (refine' csrc_rows ?hh ?F ?N ?hrows ?hq ?h1 ?turn ?fin; (case hh => exact rfl); (case F => k_asm); (case N => k_asm); (case hrows => walk_at "mine:sub"); (case hq => assumption); (case h1 => first | exact Nat.le_add_left 1 _ | ((try dsimp only); omega)); (all_goals refine Held.out ?_); (case' turn => (intro r kk q I oI C oC D m₂ ys h tk E' hr hq4 h1 hC hx F' N')); (case' fin => (intro D' ys h' tk hlt hys F' N' l1; (try dsimp only at hlt); obtain ⟨t0, t1, t2, t3, ey, hb0, hb1, hb2, hb3⟩ := strsT4 hys; subst ey; clear hys; (replace hb0 := tokb hb0); (replace hb1 := tokb hb1); (replace hb2 := tokb hb2); (replace hb3 := tokb hb3))))))
local macro_rules | `(tactic| walk_at "CSrcT") => `(tactic| (k_here; k_dflt (refine' csrc_row ?hh ?F ?N ?hm ?hq ?h1 ?turn ?fin; (case hh => exact rfl); (case F => k_asm); (case N => k_asm); (case hm => k_mem); (case hq => assumption); (case h1 => first | exact Nat.le_add_left 1 _ | ((try dsimp only); omega)); (all_goals refine Held.out ?_); (case' turn => (intro xw t I oI C oC D m₂ ys h tk E' h1 hC hx F' N')); (case' fin => (intro D' ys h' tk hlt hys F' N' l1; (try dsimp only at hlt))))))
local macro_rules | `(tactic| walk_at "call builtin:str.join") => `(tactic| (k_here; k_dflt (refine' join_rowT ?N ?hm ?hys ?hq ?_; (case N => k_asm); (case hm => k_mem); (case hys => assumption); (case hq => assumption)); intro t' k' hk' ht1 ht2; (try dsimp only at hk')))
local macro_rules | `(tactic| walk_at "binaryOp Add str str") => `(tactic| (k_here; refine add_wordT ?_))
local macro_rules | `(tactic| walk_at "mine:cel") => `(tactic| (refine ⟨_, _, _, rfl, by k_asm, ?N, rfl, ?h1, ?h2, ?h3⟩; (case N => exact News.perm (by k_asm) (by (repeat (first | (with_reducible exact List.forall_mem_nil _) | (intro p hp; (repeat (first | (with_reducible exact hp) | (with_reducible refine List.mem_cons_of_mem _ ?_))); done) | (refine List.forall_mem_cons.mpr ⟨by k_mem, ?_⟩))))); (all_goals (try dsimp only)); (case h1 => omega); (case h2 => first | assumption | exact Nat.le_add_left 1 _); (case h3 => first | assumption | exact Nat.lt_succ_self _)))
local macro_rules | `(tactic| walk_at "CElT") => `(tactic| walk_at "mine:cel")
local macro_rules | `(tactic| walk_at "mine:sub") => `(tactic| (repeat (first | (with_reducible exact List.forall_mem_nil _) | (intro p hp; (repeat (first | (with_reducible exact hp) | (with_reducible refine List.mem_cons_of_mem _ ?_))); done) | (refine List.forall_mem_cons.mpr ⟨by k_mem, ?_⟩))))
local macro_rules | `(tactic| walk_at "SrcLP") => `(tactic| (k_here; k_dflt (refine' csrc_pairs ?hh ?F ?N ?hm ?hT ?hz ?turn ?fin; (case hh => exact rfl); (case F => k_asm); (case N => k_asm); (case hm => k_mem); (case hT => k_extra "mine:tol"); (case hz => k_extra "mine:tolz"); (all_goals refine Held.out ?_); (case' turn => (intro g z pl t u I oI C oC D m₂ ys h tk E' hC hx hx2 F' N')); (case' fin => (intro g ysc hysc)))))
local macro_rules | `(tactic| walk_at "mine:cel1") => `(tactic| (refine ⟨_, _, _, rfl, by k_asm, ?N, rfl⟩; (case N => exact News.perm (by k_asm) (by (repeat (first | (with_reducible exact List.forall_mem_nil _) | (intro p hp; (repeat (first | (with_reducible exact hp) | (with_reducible refine List.mem_cons_of_mem _ ?_))); done) | (refine List.forall_mem_cons.mpr ⟨by k_mem, ?_⟩)))))))
local macro_rules | `(tactic| walk_at "CEl") => `(tactic| walk_at "mine:cel1")
local macro_rules | `(tactic| walk_at "compareOp Eq ref ref") => `(tactic| (k_here; k_extra "mine:cmp"))
local macro_rules | `(tactic| walk_at "mine:ne3") => `(tactic| ((try dsimp only); (refine ⟨?_, ?_, ?_⟩) <;> (show @Ne Nat _ _; omega)))
local macro_rules | `(tactic| walk_at "eval Dict") => `(tactic| (k_here; k_dflt (refine' dict3 ?F ?N ?hb ?a ?l ?h3 ?_; (case F => k_asm); (case N => k_asm); (case hb => exact Top.nolimit (by assumption)); (case a => rfl); (case l => rfl); (case h3 => rfl)); intro d' h' F' N' l1 lo'))
local macro_rules | `(tactic| walk_at "D3") => `(tactic| ((try dsimp only); (rename News _ _ _ _ => kn9); (rename (∀ p ∈ (_ : List (Addr × Obj)), p.1 < _) => kl9); k_dflt (refine' d3_led ?F kn9 (Upd.head (off_of kl9)) ?a ?b ?c ?_; (case F => k_asm); (case a => decide +kernel); (case b => decide +kernel); (case c => decide +kernel)); intro h' F' N'))
local macro_rules | `(tactic| k_qdec) => `(tactic| first | exact names_ok | exact imports_none)
set_option maxRecDepth 100000 in
set_option maxHeartbeats 0 in
theorem law0 : PySem.Challenge.rw_ij0055_01.Holds := hd (by
  k_go0
  all_goals try k_fold
  (k_with_none; (k_with "w1" => ((refine' code_def ?k1 ?k2 ?k3 ?k4 ?k5 ?kA ?kF ?kK ?k6 ?k7 ?k8 ?k9 ?kB ?_ ?c2 ?c3 ?c4 ?c5; (case kA => exact rfl); (case kF => exact rfl); (case kK => first | (with_reducible assumption) | assumption); (case k1 => k_asm); (case k2 => k_asm); (case k3 => k_asm); (case k4 => k_asm); (case k5 => k_asm); (case k6 => k_is); (case k7 => k_is); (case k8 => ktr_room); (case k9 => first | exact BindsTo.of_eq rfl | exact binds_K (by k_in) rfl (by k_is) rfl rfl rfl); (case c5 => decide); (case kB => exact locs rfl); (case c2 => exact rfl); (case c3 => exact rfl); (case c4 => exact rfl); k_whole; intro g'zz L'zz h'zz FG'zz F'zz N'zz B'zz X'zz T'zz; (try dsimp only); (try k_fold)))); (k_with "w2" => (((case k1 => k_asm); (case k2 => k_asm); (case k3 => k_asm); (case k4 => k_asm); (case k5 => k_asm); (case kK => first | (with_reducible assumption) | exact rfl | assumption); (case kd => ktr_room); (case ku => ktr_units)))); (k_with "w3" => (first | (refine in_has (b := false) ?hh ?_; (case hh => first | assumption | decide +kernel)) | (refine in_has (b := true) ?hh ?_; (case hh => first | assumption | decide +kernel)) | (refine in_has rfl ?_))); (k_with "w4" => (first | (refine notin_has (b := false) ?hh ?_; (case hh => first | assumption | decide +kernel)) | (refine notin_has (b := true) ?hh ?_; (case hh => first | assumption | decide +kernel)))); (k_with "w5" => (first | (refine eq_b (b := false) ?hh ?_; (case hh => first | assumption | decide +kernel)) | (refine eq_b (b := true) ?hh ?_; (case hh => first | assumption | decide +kernel)))); (k_with "w6" => (((first | (refine truthy_b (b := true) ?hh ?hl ?_; (case hh => first | assumption | exact full_one _ | decide +kernel); (case hl => first | assumption | exact one_short _ | decide +kernel)) | (refine truthy_b (b := false) ?hh ?hl ?_; (case hh => first | assumption | decide +kernel); (case hl => first | assumption | decide +kernel))); intro _))); (k_with "w7" => ((refine' kp_both ?k1 ?k2 ?k3 ?k4 ?k5 ?kA ?kF ?kK ?k6 ?k7 ?k8 ?kV ?kX ?kQ ?kM ?kN ?kD ?kR ?kP ?kS ?kT ?kB ?_ ?c2 ?c3 ?c4 ?c5; (case kA => exact rfl); (case kF => exact rfl); (case kK => first | (with_reducible assumption) | assumption); (case k1 => k_asm); (case k2 => k_asm); (case k3 => k_asm); (case k4 => k_asm); (case k5 => k_asm); (case k6 => k_is); (case k7 => k_is); (case k8 => ktr_room); (case kV => kp_lit); (case kX => kp_lit); (case kQ => exact rfl); (case kM => exact rfl); (case kN => exact rfl); (case kD => kp_flats); (case kR => exact rfl); (case kP => exact rfl); (case kS => exact fun _ => rfl); (case kT => exact fun _ _ => rfl); (case kB => exact fun _ _ => locs rfl); (case c5 => decide); (case c2 => exact rfl); (case c3 => exact rfl); (case c4 => exact rfl); k_whole; intro C'zz D'zz o'zz g'zz L'zz h'zz tk'zz l1zz l2zz lo'zz hs'zz fs'zz FG'zz F'zz N'zz B'zz X'zz T'zz; (try k_lt l1zz); (try k_lt2 l2zz); (try dsimp only); (try k_fold)))); (k_with "w8" => (((with_reducible show wpAny _ _ (callWith _ (Value.builtin _) (_ :: _) (backTo _ (starEach (_ :: _) _)) []) _ _ _); refine callWith_method1 ?_))); (k_with "w9" => ((k_here; k_dflt (refine' get_own ?k1 ?k2 ?k3 ?k4 ?k5 ?k6 ?k7 ?k8 ?k9 ?_; (case k1 => k_asm); (case k2 => k_asm); (case k3 => k_inst); (case k4 => k_is); (case k5 => k_is); (case k6 => k_is); (case k7 => k_is); (case k8 => k_get); (case k9 => k_handed); k_whole)))); (k_with "w10" => (((repeat (first | (with_reducible exact List.forall_mem_nil _) | (intro pzz hpzz; (repeat (first | (with_reducible exact hpzz) | (with_reducible refine List.mem_cons_of_mem _ ?_))); done) | (refine List.forall_mem_cons.mpr ⟨by k_mem, ?_⟩))); first | done | (intro pzz hpzz; repeat (first | exact hpzz | apply List.Mem.tail))))); (k_with "w35" => ((k_here; with_reducible refine gen_toks ?_; intro tkzz htkzz; (try dsimp only at htkzz)))); (k_with "w36" => ((k_here; with_reducible refine gen_toks ?_; intro tkzz htkzz; (try dsimp only at htkzz)))); (k_with "w37" => ((k_here; k_extra "mine:replace"))); skip)
  (k_with "mine:tol" => (exact tol9.mono (fun _ _ _ _ h => by (repeat (first | exact h | apply List.Mem.tail)))))
  (k_with "mine:tolz" => (rw [tol9.len]; exact Nat.le_trans (tm_len hsm) (by decide)))
  (k_with "mine:cmp" => (first
    | ((have tol7 := tol8); refine Held.into ?_)
    | (k_dflt (refine' cmp_strs ?N ?ma ?mb ?hx ?hy ?ok ?hu ?_; (case N => k_asm); (case ma => k_mem); (case mb => k_mem); (case hx => assumption); (case hy => assumption); (case ok => exact fun z hz => by obtain ⟨y, hy, rfl⟩ := List.mem_map.mp hz; exact tm_ok _ y hy); (case hu => ktr_units)))))
  (k_with "mine:call ref" => (k_dflt (first
        | ((with_reducible show wpAny _ _ (call (Value.ref 757) _ _) _ _ _); refine' ctr_use (c_rows _ _ _ _ _ _ _ _ _ _ _ ?hI) ?k1 ?k2 ?k3 ?k4 ?k5 ?kK ?kd ?ku ?_; walk_at "mine:call"; (case hI => assumption); intro r9 n9 h9 tk9 F9 N9 P9; obtain ⟨ra, r0, r1, r2, r3, k, k0, k1, k2, k3, q0, q1, q2, q3, e9, e9', b0, b1, b2, b3⟩ := P9; subst e9 e9'; (have hsm : Small (RR q0 q1 q2 q3) := ⟨by simpa using b0, by simpa using b1, by simpa using b2, by simpa using b3⟩); (try dsimp only))
        | ((with_reducible show wpAny _ _ (call (Value.ref 771) _ _) _ _ _); refine' ctr_up (c_walk_all _ _ _ _ _ _ _ _ _ _ _ _ _ _ _ _ _ _ _ _ hsm 3 (-1) (by decide) (by decide) (by decide) _ _ ?hr) ?k1 ?k2 ?k3 ?k4 ?k5 ?kK ?kd ?ku ?_; walk_at "mine:call"; (case hr => walk_at "mine:sub"); intro r9 n9 h9 tk9 hle9 F9 N9 P9; obtain ⟨ta, nn, vsd, e9, m9, tol9, sub9⟩ := P9; subst e9; (replace N9 := N9.perm (List.forall_mem_cons.mpr ⟨sub9 _ (.head _), List.forall_mem_cons.mpr ⟨m9, fun _ z => z⟩⟩)); (try dsimp only at hle9); (try dsimp only))
        | ((with_reducible show wpAny _ _ (call (Value.ref 55) _ _) _ _ _); refine' ctr_use (c_unesc _ _ _ _ _ _ _ _ _ _ _ _ _ _ _ _ _ _ _ (rowT_len b0) (rowT_len b1) (rowT_len b2) (rowT_len b3) ?lo ?n0 ?n1 ?n2 (row_ne0 _) (row_ne1 _) (row_ne2 _)) ?k1 ?k2 ?k3 ?k4 ?k5 ?kK ?kd ?ku ?_; walk_at "mine:call"; (case lo => assumption); (case n0 => walk_at "mine:ne3"); (case n1 => walk_at "mine:ne3"); (case n2 => walk_at "mine:ne3"); intro r9 n9 h9 tk9 F9 N9 P9; obtain ⟨⟨t9, e9⟩, e9'⟩ := P9; rw [show unesc _ _ _ _ = _ from unesc_page _ _ _ _] at e9; subst e9 e9'; (try dsimp only))
        | ((with_reducible show wpAny _ _ (call (Value.ref 750) _ _) _ _ _); refine' c_split _ _ _ _ _ _ _ _ _ ?hl (okr_dTx _) ?hz _ _ _ _ _ _ _ _ _ _ _ _ _ _ _ ?k1 ?k2 ?k3 ?k4 ?k5 ?kK ?kd ?ku ?_; walk_at "mine:call"; (case hl => exact Nat.le_trans (dTx_len _) (by have := page_len (R := RR _ _ _ _) hsm; omega)); (case hz => exact Nat.le_trans (lexW_len _ _) (by have := page_len (R := RR _ _ _ _) hsm; have := dTx_len (pageF (RR q0 q1 q2 q3)); omega)); intro D9 ys9 nn9 h9 tk9 hys9 F9 N9; rw [lex_dTx, page_words] at hys9; (try dsimp only))
        | ((with_reducible show wpAny _ _ (call (Value.ref 778) _ _) _ _ _); refine' ctr_use (c_laid _ _ _ _ _ _ _ _ _ _ _ _ _ _ _ _ hsm ?hm) ?k1 ?k2 ?k3 ?k4 ?k5 ?kK ?kd ?ku ?_; walk_at "mine:call"; (case hm => k_mem); intro r9 n9 h9 tk9 F9 N9 P9; obtain ⟨tb, nb, vsb, e9, mb9, tol8, sub8⟩ := P9; subst e9; (try dsimp only))
        | refine Held.into ?_)))
  k_steps
  refine Held.out ?_
  refine' cmp_tols ?N ?ma ?mb tol8 ?hy (tm_ok _) ?hu ?_
  case N => k_asm
  case ma => k_mem
  case mb => (first | (refine sub8 _ ?_; k_mem) | k_mem)
  case hy => exact tol9.mono (fun _ _ _ _ h => sub8 _ (by repeat (first | exact h | apply List.Mem.tail)))
  case hu => ktr_units
  k_steps)
end
end
end Mine
set_option maxRecDepth 100000 in
set_option maxHeartbeats 8000000 in
theorem PySem.Challenge.cw_ij0055_01_holds : PySem.Challenge.rw_ij0055_01.Holds :=
  Mine.law0
