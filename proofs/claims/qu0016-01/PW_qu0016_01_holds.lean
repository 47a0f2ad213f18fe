import PyProof.Rows.All
import Wide.All
import OpenK.AllK
import Wide.FinOn
import Lean
import PySem.Challenge.RW_qu0016_01
set_option Elab.async false
section 
-- text A0
open PySem PySem.W PyProof.Rows
set_option maxRecDepth 1000000
set_option maxHeartbeats 0
namespace Mine
abbrev P : Program := PySem.Challenge.pw_qu0016_01
def q : Program := view P [0, 3, 4, 5, 10, 11, 13, 18, 19, 23, 24, 26, 27, 28]
def loose : List Str := ["IPV4_RE", "_twin_re_1", "_QUOPRI_MAP", "_QUOPRI_HEADER_MAP", "_QUOPRI_BODY_MAP", "ascii_letters", "_QUOPRI_BODY_ENCODE_MAP"]
/-- the code words of the two patterns -/
def ipCode : List Nat := [14, 8, 1, 2, 4294967295, 1, 1, 46, 0, 16, 46, 24, 9, 1, 4294967295, 13, 4, 8, 0, 0, 1, 6, 5, 1]
def twCode : List Nat := [14, 8, 1, 3, 3, 1, 1, 61, 0, 16, 61, 24, 16, 2, 2, 13, 11, 9, 0, 67043328, 126, 126, 0, 0, 0, 0, 0, 1, 1]
def natOf (v : Value) : Nat := match v with | .int i _ => i.toNat | _ => 0
def patOk (h : Heap) (x : Str) (code : List Nat) : Bool := match h.nsMap mainGlobals x with
  | some (.ref a) => match h.get? a with
    | some ⟨.type "re.Pattern", none, .fields vs, _⟩ => match vs.toList with
      | [_, _, .int 0 _, _, _, .ref c, .int 0 _] => match h.get? c with
        | some ⟨_, _, .seq xs _, _⟩ => decide (xs.toList.map natOf = code)
        | _ => false
      | _ => false
    | _ => false
  | _ => false
def mapOk (h : Heap) : Bool := match h.nsMap mainGlobals "_QUOPRI_MAP" with
  | some (.ref a) => match h.get? a with
    | some ⟨.type "list", _, .seq xs _, _⟩ => match (xs.toList : List Value)[46]? with
      | some (Value.str x _) => decide (x = "=2E")
      | _ => false
    | _ => false
  | _ => false
def fnOk (h : Heap) (x : Str) : Bool := match h.nsMap mainGlobals x with
  | some (.ref a) => match h.get? a with
    | some ⟨.type "function", _, _, _⟩ => true
    | _ => false
  | _ => false
def hookOk (h : Heap) : Bool := patOk h "IPV4_RE" ipCode && patOk h "_twin_re_1" twCode && mapOk h && fnOk h "_unquote_match"

/-- a compiled pattern of texts, without groups -/
def IsPat (h : Heap) (a : Addr) (code : List Nat) : Prop := ∃ c p0 p1 p3 p4 t2 t6 n sl od ol oc xs, h.get? a = some ⟨.type "re.Pattern", none, .fields #[p0, p1, .int 0 t2, p3, p4, .ref c, .int 0 t6], sl⟩ ∧
  h.get? c = some ⟨oc, od, .seq xs n, ol⟩ ∧ xs.toList.map natOf = code
theorem IsPat.keeps {h h' : Heap} {a : Addr} {code : List Nat} (x : IsPat h a code) (k : ∀ b o, h.get? b = some o → h'.get? b = some o) : IsPat h' a code := by
  obtain ⟨c, p0, p1, p3, p4, t2, t6, n, sl, od, ol, oc, xs, e1, e2, e3⟩ := x
  exact ⟨c, p0, p1, p3, p4, t2, t6, n, sl, od, ol, oc, xs, k _ _ e1, k _ _ e2, e3⟩
theorem patOk_is {h : Heap} {x : Str} {code : List Nat} (e : patOk h x code = true) : ∃ a, h.nsMap mainGlobals x = some (.ref a) ∧ IsPat h a code := by
  unfold patOk at e
  split at e
  · rename_i a hx
    refine ⟨a, hx, ?_⟩
    split at e
    · rename_i vs sl ho
      split at e
      · rename_i p0 p1 t2 p3 p4 c t6 hv
        split at e
        · rename_i oc od xs n ol hc
          refine ⟨c, p0, p1, p3, p4, t2, t6, n, sl, od, ol, oc, xs, ?_, hc, of_decide_eq_true e⟩
          rw [ho]
          obtain ⟨l⟩ := vs
          simp only at hv
          rw [hv]
        · cases e
      · cases e
    · cases e
  · cases e
theorem mapOk_is {h : Heap} (e : mapOk h = true) : ∃ a xs t, h.nsMap mainGlobals "_QUOPRI_MAP" = some (.ref a) ∧ h.IsList a xs ∧ xs[46]? = some (.str "=2E" t) := by
  unfold mapOk at e
  split at e
  · rename_i a hx
    split at e
    · rename_i dd xs n sl ho
      split at e
      · rename_i x t hv
        have := of_decide_eq_true e
        subst this
        exact ⟨a, xs, t, hx, ⟨_, ho, rfl, n, rfl⟩, by rw [← Array.getElem?_toList]; exact hv⟩
      · cases e
    · cases e
  · cases e
theorem fnOk_is {h : Heap} {x : Str} (e : fnOk h x = true) : ∃ a o, h.nsMap mainGlobals x = some (.ref a) ∧ h.get? a = some o ∧ o.cls = .type "function" := by
  unfold fnOk at e
  split at e
  · rename_i a hx
    split at e
    · rename_i ho
      exact ⟨a, _, hx, ho, rfl⟩
    · cases e
  · cases e
theorem nsMap_keeps {h h' : Heap} (k : ∀ b o, h.get? b = some o → h'.get? b = some o) {a : Addr} {x : Str} {v : Value} (e : h.nsMap a x = some v) : h'.nsMap a x = some v := by
  unfold Heap.nsMap at e ⊢
  cases q : h.get? a with
  | none => rw [q] at e; cases e
  | some o => rw [q] at e; rw [k _ _ q]; exact e
theorem nsMap_is {h : Heap} {a : Addr} {m : Str → Option Value} (x : h.Ns a m) (n : Str) : h.nsMap a n = m n := by
  obtain ⟨o, es, ep, ho, hd, _, hf⟩ := x
  unfold Heap.nsMap
  rw [ho]
  dsimp only
  rw [hd]
  exact hf n
/-- what the top leaves, beside its defs -/
structure Hooked (h : Heap) : Prop where
  ip : ∃ a, h.nsMap mainGlobals "IPV4_RE" = some (.ref a) ∧ IsPat h a ipCode
  tw : ∃ a, h.nsMap mainGlobals "_twin_re_1" = some (.ref a) ∧ IsPat h a twCode
  mp : ∃ a xs t, h.nsMap mainGlobals "_QUOPRI_MAP" = some (.ref a) ∧ h.IsList a xs ∧ xs[46]? = some (.str "=2E" t)
  um : ∃ a o, h.nsMap mainGlobals "_unquote_match" = some (.ref a) ∧ h.get? a = some o ∧ o.cls = .type "function"
theorem Hooked.of {h : Heap} (e : hookOk h = true) : Hooked h := by
  unfold hookOk at e
  simp only [Bool.and_eq_true] at e
  exact ⟨patOk_is e.1.1.1, patOk_is e.1.1.2, mapOk_is e.1.2, fnOk_is e.2⟩
theorem Hooked.keeps {h h' : Heap} (x : Hooked h) (k : ∀ b o, h.get? b = some o → h'.get? b = some o) : Hooked h' := by
  obtain ⟨⟨a, a1, a2⟩, ⟨b, b1, b2⟩, ⟨c, xs, t, c1, ⟨o, c2, c3⟩, c4⟩, d, od, d1, d2, d3⟩ := x
  exact ⟨⟨a, nsMap_keeps k a1, a2.keeps k⟩, ⟨b, nsMap_keeps k b1, b2.keeps k⟩, ⟨c, xs, t, nsMap_keeps k c1, ⟨o, k _ _ c2, c3⟩, c4⟩, d, od, nsMap_keeps k d1, k _ _ d2, d3⟩
end Mine

end

section 
-- text H1
open PySem PySem.W PyProof.Rows
set_option maxRecDepth 1000000
set_option maxHeartbeats 0
namespace Mine
def treeGo : Nat → BT → List Obj → Option BT
  | _, t, [] => some t
  | n, t, o :: r => match ((t.ins n o).get n).isSome with
    | true => treeGo (n + 1) (t.ins n o) r
    | false => none
theorem treeGo_abs {life : Life} : ∀ (l : List Obj) (n : Nat) (t t' : BT), treeGo n t l = some t' → absHeap t' (n + l.length) life = ⟨(absHeap t n life).objs ++ l.toArray, life⟩
  | [], n, t, t', h => by
    cases h
    simp [absHeap]
  | o :: r, n, t, t', h => by
    unfold treeGo at h
    cases e : ((t.ins n o).get n).isSome with
    | false => rw [e] at h; cases h
    | true =>
      rw [e] at h
      have := treeGo_abs (life := life) r (n + 1) _ t' h
      rw [List.length_cons, show n + (r.length + 1) = n + 1 + r.length by omega, this, absHeap_ins e]
      simp [Heap.push]
def topRunT (tb : String → Option Builtin) (p : Program) (w : World) (n₀ : Nat) (ann : Option Value) : Nat → SharedT → Thread → Option SharedT
  | 0, _, _ => none
  | n + 1, s, t => match through t with
    | true => some s
    | false => match stepOk n₀ ann t with
      | false => none
      | true => match stepT (denote tb) p w s t with
        | some (s', t') => topRunT tb p w n₀ ann n s' t'
        | none => none
theorem topRunT_abs {tb : String → Option Builtin} {p : Program} {w : World} {n₀ : Nat} {ann : Option Value} : ∀ (n : Nat) (s s' : SharedT) (t : Thread), topRunT tb p w n₀ ann n s t = some s' → topRun tb p w n₀ ann n s.abs t = some s'.abs
  | 0, _, _, _, h => by cases h
  | n + 1, s, s', t, h => by
    unfold topRunT at h
    unfold topRun
    cases ht : through t with
    | true => rw [ht] at h; cases h; rfl
    | false =>
      rw [ht] at h
      cases hk : stepOk n₀ ann t with
      | false => rw [hk] at h; cases h
      | true =>
        rw [hk] at h
        cases hs : stepT (denote tb) p w s t with
        | none => rw [hs] at h; cases h
        | some r => obtain ⟨s₂, t₂⟩ := r; rw [hs] at h; rw [stepT_spec hs]; exact topRunT_abs n s₂ s' t₂ h
def NN : Nat := 20000
def openT (w : World) : Option SharedT := match fencedOpening treeTable P w NN with
  | none => none
  | some s₀ => match s₀.heap.isNs mainGlobals && s₀.gens.size == 0 with
    | false => none
    | true => match treeGo 0 .nil s₀.heap.objs.toList with
      | none => none
      | some T => match topRunT treeTable P w s₀.heap.objs.size (s₀.heap.nsMap mainGlobals "__annotations__") NN ⟨T, s₀.heap.objs.toList.length, s₀.heap.life, s₀.gens, s₀.drawn, s₀.toks, s₀.os⟩ (topStub P) with
        | none => none
        | some s₁ => match staticsOk (importedModules P.main.body) s₀.heap s₁.abs.heap && namesBound P s₁.abs.heap && gensDone s₁.abs && laidKept s₀.heap s₁.abs.heap with
          | true => some s₁
          | false => none
theorem openT_abs {w : World} {s : SharedT} (h : openT w = some s) : openEnds treeTable P w NN = some s.abs := by
  unfold openT at h
  unfold openEnds
  cases e0 : fencedOpening treeTable P w NN with
  | none => rw [e0] at h; cases h
  | some s₀ =>
    rw [e0] at h
    dsimp only at h
    show topFrom treeTable P w NN s₀ = _
    unfold topFrom
    cases e1 : (s₀.heap.isNs mainGlobals && s₀.gens.size == 0) with
    | false => rw [e1] at h; cases h
    | true =>
      rw [e1] at h
      dsimp only at h ⊢
      cases e2 : treeGo 0 .nil s₀.heap.objs.toList with
      | none => rw [e2] at h; cases h
      | some T =>
        rw [e2] at h
        dsimp only at h
        have ea : (⟨T, s₀.heap.objs.toList.length, s₀.heap.life, s₀.gens, s₀.drawn, s₀.toks, s₀.os⟩ : SharedT).abs = s₀ := by
          have := treeGo_abs (life := s₀.heap.life) _ _ _ _ e2
          rw [Nat.zero_add] at this
          obtain ⟨⟨objs, life⟩, gens, drawn, toks, os⟩ := s₀
          simp only [SharedT.abs, this]
          simp [absHeap, BT.list]
        cases e3 : topRunT treeTable P w s₀.heap.objs.size (s₀.heap.nsMap mainGlobals "__annotations__") NN ⟨T, s₀.heap.objs.toList.length, s₀.heap.life, s₀.gens, s₀.drawn, s₀.toks, s₀.os⟩ (topStub P) with
        | none => rw [e3] at h; cases h
        | some s₁ =>
          rw [e3] at h
          dsimp only at h
          have r := topRunT_abs _ _ _ _ e3
          rw [ea] at r
          rw [r]
          cases e4 : (staticsOk (importedModules P.main.body) s₀.heap s₁.abs.heap && namesBound P s₁.abs.heap && gensDone s₁.abs && laidKept s₀.heap s₁.abs.heap) with
          | false => rw [e4] at h; cases h
          | true =>
            rw [e4] at h
            obtain rfl : s₁ = s := Option.some.inj h
            show (match staticsOk (importedModules P.main.body) s₀.heap s₁.abs.heap && namesBound P s₁.abs.heap && gensDone s₁.abs && laidKept s₀.heap s₁.abs.heap with | true => some s₁.abs | false => none) = _
            rw [e4]
def Xt (s : Shared) : Bool := recOk [] s
def look (w : World) := (openT w).map fun s => (openSeen q loose (importedModules P.main.body) Xt true s.abs, hookOk s.abs.heap)
theorem look_self : look = look := rfl
end Mine
name_quick lookQ for Mine.look by Mine.look_self

end

section 
-- text H2
open PySem PySem.W PyProof.Rows
set_option maxRecDepth 1000000
set_option maxHeartbeats 0
namespace Mine
theorem look_ff (w : World) : PySem.W.Fast.lookQ ((w.withFollow "special-get-raises" false).withFollow "comprehension-iter-twice" false) = some (openGood q loose, true) := by kernel_rfl
theorem look_ft (w : World) : PySem.W.Fast.lookQ ((w.withFollow "special-get-raises" false).withFollow "comprehension-iter-twice" true) = some (openGood q loose, true) := by kernel_rfl
theorem look_tf (w : World) : PySem.W.Fast.lookQ ((w.withFollow "special-get-raises" true).withFollow "comprehension-iter-twice" false) = some (openGood q loose, true) := by kernel_rfl
theorem look_tt (w : World) : PySem.W.Fast.lookQ ((w.withFollow "special-get-raises" true).withFollow "comprehension-iter-twice" true) = some (openGood q loose, true) := by kernel_rfl
theorem look_all (w : World) : look w = some (openGood q loose, true) := by
  rw [PySem.W.Fast.lookQ_eq]
  refine byRow2 "special-get-raises" (P := fun w => PySem.W.Fast.lookQ w = some (openGood q loose, true)) (fun w => ?_) (fun w => ?_) w
  · have h : ∀ b, PySem.W.Fast.lookQ ((w.withFollow "special-get-raises" false).withFollow "comprehension-iter-twice" b) = some (openGood q loose, true) := fun b => by cases b; exact look_ff w; exact look_ft w
    have := h ((w.withFollow "special-get-raises" false).params.followText "comprehension-iter-twice")
    rwa [World.withFollow_self] at this
  · have h : ∀ b, PySem.W.Fast.lookQ ((w.withFollow "special-get-raises" true).withFollow "comprehension-iter-twice" b) = some (openGood q loose, true) := fun b => by cases b; exact look_tf w; exact look_tt w
    have := h ((w.withFollow "special-get-raises" true).params.followText "comprehension-iter-twice")
    rwa [World.withFollow_self] at this
theorem left : LeftO P q loose Xt (fun s => hookOk s.heap) (fun _ => true) NN := fun w => by
  obtain ⟨s, h1, h2⟩ := Option.map_eq_some_iff.mp (look_all w)
  rw [openT_abs h1]
  exact congrArg some h2
end Mine

end

section 
-- text H3
open PySem PySem.W PyProof.Rows
set_option maxRecDepth 1000000
set_option maxHeartbeats 0
namespace Mine
def lawD : DefRec := ((defOf q "law").get (by decide +kernel)).1
theorem head (call : WalkO q loose (fun _ _ => True) (fun _ h => Hooked h) PySem.Challenge.rw_qu0016_01.row.toRowW lawD [] fun f vs => PySem.call f vs) : PySem.Challenge.rw_qu0016_01.Holds := by
  w_on
  o_law
  refine PySem.W.holds_open (q := q) (loose := loose) (Xt := Xt) (XP := fun _ _ => True) (Yf := fun s => hookOk s.heap) (Ya := fun _ => true) (YP := fun _ h => Hooked h) (N := NN) left (fun _ _ e => Hooked.of e) (fun _ _ _ x k => x.keeps k)
    (fun _ _ => trivial) (fun _ _ _ _ _ => trivial) (d := lawD) (kwd := []) (by rfl) (by rfl) (by rfl) (fun s e => recFacts_of e) (by rfl) (by assumption) (by decide +kernel) ⟨rfl, rfl, rfl, rfl, rfl, by decide +kernel⟩ (by w_witness2) call
end Mine

end

section 
-- text RX
open PySem PySem.W PyProof.Rows
set_option maxRecDepth 100000
set_option maxHeartbeats 4000000
namespace Mine
open PySem.Builtin.Re

theorem plainP : PlainAttrs "re.Pattern" :=
  ⟨⟨"object.__getattribute__", by rw [typeLookup_type, builtinLookup_eq_fast]; kernel_rfl, by decide +kernel⟩, by rw [typeLookup_type, builtinLookup_eq_fast]; kernel_rfl⟩
theorem plainM : PlainAttrs "re.Match" :=
  ⟨⟨"object.__getattribute__", by rw [typeLookup_type, builtinLookup_eq_fast]; kernel_rfl, by decide +kernel⟩, by rw [typeLookup_type, builtinLookup_eq_fast]; kernel_rfl⟩
theorem slotSearch : Slot "re.Pattern" "search" "re.Pattern.search" :=
  .of (owner := "re.Pattern") (n := "search") (by rw [typeLookup_type, builtinLookup_eq_fast]; kernel_rfl) (by decide +kernel) (by decide +kernel) (by decide +kernel)
    (by first | exact .inl (by decide +kernel) | exact .inr (by decide +kernel)) (by rw [isSubtype_type]; kernel_rfl)
theorem slotSub : Slot "re.Pattern" "sub" "re.Pattern.sub" :=
  .of (owner := "re.Pattern") (n := "sub") (by rw [typeLookup_type, builtinLookup_eq_fast]; kernel_rfl) (by decide +kernel) (by decide +kernel) (by decide +kernel)
    (by first | exact .inl (by decide +kernel) | exact .inr (by decide +kernel)) (by rw [isSubtype_type]; kernel_rfl)
theorem slotGroup : Slot "re.Match" "group" "re.Match.group" :=
  .of (owner := "re.Match") (n := "group") (by rw [typeLookup_type, builtinLookup_eq_fast]; kernel_rfl) (by decide +kernel) (by decide +kernel) (by decide +kernel)
    (by first | exact .inl (by decide +kernel) | exact .inr (by decide +kernel)) (by rw [isSubtype_type]; kernel_rfl)
theorem typeSearch : typeOf (.builtin "re.Pattern.search") = pure (.type "method_descriptor") := by show builtinType _ = _; rw [builtinType_eq_fast]; kernel_rfl
theorem typeSub : typeOf (.builtin "re.Pattern.sub") = pure (.type "method_descriptor") := by show builtinType _ = _; rw [builtinType_eq_fast]; kernel_rfl
theorem typeGroup : typeOf (.builtin "re.Match.group") = pure (.type "method_descriptor") := by show builtinType _ = _; rw [builtinType_eq_fast]; kernel_rfl
theorem entrySearch : entryFor table "re.Pattern.search" = some Builtin.«re.Pattern.search» := entryFor_of_tree (by kernel_rfl)
theorem entrySub : entryFor table "re.Pattern.sub" = some Builtin.«re.Pattern.sub» := entryFor_of_tree (by kernel_rfl)
theorem entrySubLoop : entryFor table "re.Pattern.sub.loop" = some Builtin.«re.Pattern.sub.loop» := entryFor_of_tree (by kernel_rfl)
theorem entryGroup : entryFor table "re.Match.group" = some Builtin.«re.Match.group» := entryFor_of_tree (by kernel_rfl)
theorem argsSearch (a b : Value) : argsOk "re.Pattern.search" ⟨[a, b], []⟩ := by
  unfold argsOk; kernel_rfl
theorem argsSub (a b c : Value) : argsOk "re.Pattern.sub" ⟨[a, b, c], []⟩ := by
  unfold argsOk; kernel_rfl
theorem argsGroup (a b : Value) : argsOk "re.Match.group" ⟨[a, b], []⟩ := by
  unfold argsOk; kernel_rfl

/-- the engine driven: its last state, if n turns are enough -/
def drv : Nat → Sre.M → Option Sre.M
  | 0, _ => none
  | n + 1, m => if (m.runFor 4).outcome.isSome then some (m.runFor 4) else drv n (m.runFor 4)

section
variable {M : Model} {A : Around} {E : Value → Shared → Prop} {s : Shared}
theorem drive_any {Q : Sre.M → Shared → Prop} {m' : Sre.M} : ∀ (n k : Nat) (m : Sre.M), drv n m = some m' → n ≤ k → Q m' s → wpAny M A (reDrive k m) Q E s
  | 0, _, _, h, _, _ => by cases h
  | n + 1, 0, _, _, hk, _ => by omega
  | n + 1, k + 1, m, h, hk, hq => by
    unfold reDrive
    unfold drv at h
    show wpAny M A (if (m.runFor 4).outcome.isSome = true then pure (m.runFor 4) else do rule "sre.turn"; reDrive k (m.runFor 4)) Q E s
    split at h
    · rename_i e
      rw [if_pos e]
      cases h
      exact wpAny_pure hq
    · rename_i e
      rw [if_neg e]
      exact wpAny_bind (wpAny_rule (drive_any n k _ h (by omega) hq))
theorem rules_any {Q : PUnit → Shared → Prop} (c : Nat → Bool) (f : Nat → String) (hq : Q ⟨⟩ s) : ∀ l : List Nat, wpAny M A (forIn l PUnit.unit (fun i (_ : PUnit) => do
    if c i = true then do rule (f i); pure (ForInStep.yield PUnit.unit) else pure (ForInStep.yield PUnit.unit))) Q E s
  | [] => by simp only [List.forIn_nil]; exact wpAny_pure hq
  | i :: l => by
    rw [List.forIn_cons]
    refine wpAny_bind ?_
    by_cases h : c i = true
    · rw [if_pos h]; exact wpAny_bind (wpAny_rule (wpAny_pure (rules_any c f hq l)))
    · rw [if_neg h]; exact wpAny_pure (rules_any c f hq l)
theorem toEnd_any {Q : Option Sre.M → Shared → Prop} {m m' : Sre.M} {n : Nat} (h : drv n m = some m') (hn : n ≤ 2 ^ 64)
    (hq : match m'.outcome with | some .matched => Q (some m') s | some .failed => Q none s | _ => False) : wpAny M A (reRunToEnd m) Q E s := by
  unfold reRunToEnd
  refine wpAny_bind (drive_any n _ m h hn ?_)
  refine wpAny_bind ?_
  refine rules_any (fun i => m'.seen.has i) (fun i => Sre.names.getD i "") ?_ _
  revert hq
  cases m'.outcome with
  | none => exact False.elim
  | some o => cases o with
    | matched => exact fun hq => wpAny_pure hq
    | failed => exact fun hq => wpAny_pure hq
    | stuck why => exact False.elim
end

theorem raw_back (xs : Array Value) {code : List Nat} (h : xs.toList.map natOf = code) : ((xs.map reRawOf).map (·.toNat)) = code.toArray := by
  subst h
  apply Array.toList_inj.mp
  simp only [Array.toList_map, List.map_map]
  refine List.map_congr_left fun a _ => ?_
  cases a <;> rfl
def targetOf (a : Addr) (code : List Nat) (x : Str) (tk : Tok) : ReTarget := { pattern := .ref a, string := .str x tk, code := code.toArray, text := x.cps, kind := 0, groups := 0, pos := 0, lim := x.cps.size }
section
variable {prog : Program} {w : World} {A : Around} {E : Value → Shared → Prop} {s : Shared}
theorem whole_any {Q : ReTarget → Shared → Prop} {a : Addr} {code : List Nat} {x : Str} {tk : Tok} (hp : IsPat s.heap a code) (hq : Q (targetOf a code x tk) s) :
    wpAny (model prog w) A (reWholeTarget (.ref a) (.str x tk)) Q E s := by
  obtain ⟨c, p0, p1, p3, p4, t2, t6, n, sl, od, ol, oc, xs, e1, e2, e3⟩ := hp
  unfold reWholeTarget
  refine wpAny_bind (wpAny_bind (wpAny_load e1 (wpAny_pure ?_)))
  refine wpAny_bind (wpAny_bind (wpAny_pure (wpAny_pure ?_)))
  refine wpAny_bind (wpAny_pure ?_)
  refine wpAny_bind (wpAny_bind (wpAny_bind (wpAny_load e2 (wpAny_pure (wpAny_pure ?_)))))
  refine wpAny_pure ?_
  have e : ((some xs).getD #[]).map reRawOf = xs.map reRawOf := rfl
  have : ({ pattern := .ref a, string := .str x tk, code := (((some xs).getD #[]).map reRawOf).map (·.toNat), text := x.cps, kind := 0, groups := 0, pos := 0, lim := x.cps.size } : ReTarget) = targetOf a code x tk := by
    rw [e, raw_back xs e3]; rfl
  exact this ▸ hq
theorem target_any {Q : ReTarget → Shared → Prop} {a : Addr} {code : List Nat} {x : Str} {tk : Tok} (hp : IsPat s.heap a code) (hx : x.cps.size ≤ 2 ^ 62) (hq : Q (targetOf a code x tk) s) :
    wpAny (model prog w) A (reTarget "re.Pattern.search" "search" ⟨[.ref a, .str x tk], []⟩) Q E s := by
  obtain ⟨c, p0, p1, p3, p4, t2, t6, n, sl, od, ol, oc, xs, e1, e2, e3⟩ := hp
  have h0 : reTarget "re.Pattern.search" "search" ⟨[.ref a, .str x tk], []⟩ = (do
      let fs ← fieldsOf (.ref a)
      let (text, kind) ← reTextOf (.str x tk)
      let want := reRawNat (fs.getD 6 .none)
      if want == 0 && kind == 1 then raiseError "TypeError" "cannot use a string pattern on a bytes-like object"
      if want == 1 && kind == 0 then raiseError "TypeError" "cannot use a bytes pattern on a string-like object"
      reNoCollectionInside (.str x tk) kind
      let clip (i : Int) : Nat := min i.toNat text.size
      pure { pattern := .ref a, string := .str x tk, code := (← reRawItems (fs.getD 5 .none)).map (·.toNat), text, kind, groups := reRawNat (fs.getD 2 .none), pos := clip 0, lim := clip (2 ^ 63 - 1) }) := by rfl
  rw [h0]
  refine wpAny_bind (wpAny_bind (wpAny_load e1 (wpAny_pure ?_)))
  refine wpAny_bind (wpAny_bind (wpAny_pure (wpAny_pure ?_)))
  refine wpAny_bind (wpAny_pure ?_)
  refine wpAny_bind (wpAny_bind (wpAny_bind (wpAny_load e2 (wpAny_pure (wpAny_pure ?_)))))
  refine wpAny_pure ?_
  have e : ((some xs).getD #[]).map reRawOf = xs.map reRawOf := rfl
  have z1 : min (0 : Int).toNat x.cps.size = 0 := by simp
  have z2 : min ((2 : Int) ^ 63 - 1).toNat x.cps.size = x.cps.size := by omega
  have : ({ pattern := .ref a, string := .str x tk, code := (((some xs).getD #[]).map reRawOf).map (·.toNat), text := x.cps, kind := 0, groups := 0, pos := min (0 : Int).toNat x.cps.size, lim := min ((2 : Int) ^ 63 - 1).toNat x.cps.size } : ReTarget) = targetOf a code x tk := by
    rw [e, raw_back xs e3, z1, z2]; rfl
  exact this ▸ hq
/-- the object of a match -/
def matchObj (a : Addr) (x : Str) (tk : Tok) (sp : Addr) (lim : Nat) (m : Sre.M) : Obj := { cls := .type "re.Match", data := .fields #[.str x tk, .ref a, rawInt 0, rawInt lim, rawInt m.lastindex, .ref sp] }
theorem newMatch_any {Q : Value → Shared → Prop} {a : Addr} {x : Str} {tk : Tok} {lim : Nat} {m : Sre.M}
    (hq : ∀ h' f sp n, (∀ b o, s.heap.get? b = some o → h'.get? b = some o) → s.heap.get? f = none → h'.get? f = some (matchObj a x tk sp lim m) → h'.get? sp = some { cls := .type "tuple", data := .seq #[rawInt m.start, rawInt m.handed] n } → Q (.ref f) { s with heap := h' }) :
    wpAny (model prog w) A (reNewMatch (.ref a) (.str x tk) 0 0 lim m) Q E s := by
  have h0 : reNewMatch (.ref a) (.str x tk) 0 0 lim m = (do newFields "re.Match" [.str x tk, .ref a, rawInt ((0 : Nat) : Int), rawInt lim, rawInt m.lastindex, ← newTuple [rawInt m.start, rawInt m.handed]]) := by rfl
  rw [h0]
  refine wpAny_bind (wpAny_newObj_type ?_)
  refine wpAny_newObj_type ?_
  dsimp only
  have hs : ∀ f o, s.heap.get? f = some o → f < s.heap.objs.size := fun f o e => Heap.lt_size e
  refine hq _ _ s.heap.objs.size 0 (fun b o e => Heap.get?_push_of_some _ (Heap.get?_push_of_some _ e)) ?_ (Heap.get?_push_size _ rfl) (Heap.get?_push_of_some _ (Heap.get?_push_size _ rfl))
  cases e : s.heap.get? (s.heap.push { cls := .type "tuple", data := .seq [rawInt m.start, rawInt m.handed].toArray }).objs.size with
  | none => rfl
  | some o => have := hs _ _ e; rw [Heap.size_push] at this; exact absurd this (Nat.not_lt.mpr (Nat.le_succ _))
/-- the outcome of a run of the engine: matched or not -/
def outB (m : Sre.M) : Option Bool := match m.outcome with
  | some .matched => some true
  | some .failed => some false
  | _ => none
def srch (code : List Nat) (x : Str) : Option Bool := match drv 400 (Sre.forSearch code.toArray x.cps 0 0 x.cps.size false) with
  | some m => outB m
  | none => none
theorem search_any {Q : Value → Shared → Prop} {a : Addr} {code : List Nat} {x : Str} {tk : Tok} {b : Bool} (hp : IsPat s.heap a code) (hx : x.cps.size ≤ 2 ^ 62) (hs : srch code x = some b)
    (hq1 : b = true → ∀ h' f o, (∀ b o, s.heap.get? b = some o → h'.get? b = some o) → s.heap.get? f = none → h'.get? f = some o → o.cls = .type "re.Match" → Q (.ref f) { s with heap := h' })
    (hq2 : b = false → Q .none s) :
    wpAny (model prog w) A (call (.builtin "re.Pattern.search") [.ref a, .str x tk]) Q E s := by
  have hT : s.TypeIs (.ref a) "re.Pattern" := by
    obtain ⟨c, p0, p1, p3, p4, t2, t6, n, sl, od, ol, oc, xs, e1, e2, e3⟩ := hp
    exact ⟨_, e1, rfl⟩
  unfold srch at hs
  split at hs
  case h_2 => cases hs
  rename_i m hd
  refine wpAny_call (codeAny_call_builtin slotSearch.plain entrySearch (slotSearch.check _ _ _ _ _ _ _ _ hT (argsSearch _ _) ?_))
  unfold Builtin.«re.Pattern.search»
  refine wpAny_bind (target_any hp hx ?_)
  unfold reAnswer
  refine wpAny_bind (toEnd_any (n := 400) hd (by decide) ?_)
  unfold outB at hs
  cases e : m.outcome with
  | none => rw [e] at hs; cases hs
  | some o =>
    rw [e] at hs
    cases o with
    | matched =>
      exact wpAny_bind (newMatch_any fun h' f sp n k1 k2 k3 k4 => wpAny_pure (hq1 (Option.some.inj hs).symm h' f _ k1 k2 k3 rfl))
    | failed => exact wpAny_pure (hq2 (Option.some.inj hs).symm)
    | stuck why => cases hs
end
end Mine

end

section 
-- text C1
open PySem PySem.W PyProof.Rows PySem.Calls
set_option maxRecDepth 100000
set_option maxHeartbeats 4000000
namespace Mine
def fdef (i : Nat) : DefRec := match P.main.body[i]? with
  | some (.FunctionDef n a b _ _ _ sc _ _ pos) => ⟨n, a, b, sc, pos⟩
  | _ => ⟨"", ⟨[], [], none, [], [], none, []⟩, [], P.main.scope, ⟨0, 0, 0, 0⟩⟩
theorem fdef_in {i : Nat} (j : Nat) (h : (recsOf q)[j]? = some (fdef i)) : fdef i ∈ recsOf q := List.mem_of_getElem? h
structure Wd (mean : ExcName → Option Value) (mg mb : Str → Option Value) (h : Heap) : Prop where
  T : Top q (looseW q loose) mean mg mb h
  H : Hooked h
theorem Wd.keeps {mean : ExcName → Option Value} {mg mb : Str → Option Value} {h h' : Heap} (x : Wd mean mg mb h) (k : ∀ b o, h.get? b = some o → h'.get? b = some o) : Wd mean mg mb h' := ⟨x.T.keeps k, x.H.keeps k⟩
section
variable {w : World} {A : Around} {E : Value → Shared → Prop} {s : Shared} {mean : ExcName → Option Value} {mg mb : Str → Option Value} {Q : Value → Shared → Prop}
local macro_rules | `(tactic| walk_at "go") => `(tactic| repeat' ((fail_if_success (with_reducible show wpAny _ _ (call (Value.ref _) _) _ _ _)); (fail_if_success (with_reducible show wpAny _ _ (subscriptTail _ _ (Value.ref _) _) _ _ _)); (fail_if_success (with_reducible show wpAny _ _ (newList _) _ _ _)); walk1))
theorem name_g {M : Model} {h₀ : Heap} {L : Addr} {m : Str → Option Value} {env : Env} {x : Str} {pos : Pos} {v : Value} (F : Fr h₀ L s.heap m) (W : Wd mean mg mb h₀) (e : mg x = some v) (h : Q v s)
    (hg : env.globals = mainGlobals := by rfl) (hk : env.scope.kind = .function := by rfl) (hx : env.kindOf x = some .globalImplicit := by rfl) (hd : (x == ("__debug__" : Str)) = false := by decide) :
    wpAny M A (eval (.Name x pos) env) Q E s :=
  Name_function_global hk hx (loadGlobal_global (env := env) (by rw [hg]; exact W.T.g.keeps F.keep) e h) hd
def FnAt (h : Heap) (f : Addr) : Prop := ∃ o fd, h.get? f = some o ∧ o.data = .func fd
def Here (h₀ : Heap) (L : Addr) (s : Shared) (p : Prop) : Prop := (∃ m, Fr h₀ L s.heap m) ∧ p
theorem call_def {M : Model} {h₀ : Heap} {L f : Addr} {m : Str → Option Value} {env : Env} {x : Str} {px pos : Pos} {e : Expr} {rest : List Expr} (F : Fr h₀ L s.heap m) (W : Wd mean mg mb h₀) (hf : mg x = some (.ref f)) (hfn : FnAt h₀ f)
    (h : wpAny M A (spliced (backTo pos (starEach (e :: rest) env))) (fun vs s₁ => Here h₀ L s₁ (wpAny M A (call (.ref f) vs) Q E s₁)) E s)
    (hg : env.globals = mainGlobals := by rfl) (hk : env.scope.kind = .function := by rfl) (hx : env.kindOf x = some .globalImplicit := by rfl) (hd : (x == ("__debug__" : Str)) = false := by decide)
    (he : starEach (e :: rest) env = (false, eval e env) :: starEach rest env := by rfl) :
    wpAny M A (eval (.Call (.Name x px) (e :: rest) [] pos) env) Q E s := by
  obtain ⟨o, fd, ho, hdat⟩ := hfn
  refine Call_ (name_g F W hf ?_ hg hk hx hd)
  refine callWith_def hdat (wpAny_mono h (fun vs s₁ hq => ?_) fun _ _ y => y) he
  obtain ⟨⟨m', F'⟩, hq⟩ := hq
  exact ⟨F'.keep _ _ ho, hq⟩
theorem meth_pat {h₀ : Heap} {L a : Addr} {m : Str → Option Value} {code : List Nat} {name : Str} {id : String} {pl : Sem Bool} {Q : Value × List Value → Shared → Prop} (F : Fr h₀ L s.heap m) (hp : IsPat h₀ a code)
    (slot : Slot "re.Pattern" name id) (hty : typeOf (.builtin id) = pure (.type "method_descriptor")) (h : Q (.builtin id, [.ref a]) s) : wpAny (model P w) A (getMethod (.ref a) name pl) Q E s := by
  obtain ⟨c, p0, p1, p3, p4, t2, t6, n, sl, od, ol, oc, xs, e1, e2, e3⟩ := hp
  exact getMethod_builtin ⟨_, F.keep _ _ e1, rfl⟩ plainP slot hty (fun b e => by cases e; exact ⟨_, F.keep _ _ e1, rfl⟩) h
theorem fn_at {h : Heap} (W : Wd mean mg mb h) {i : Nat} (j : Nat) (hj : (recsOf q)[j]? = some (fdef i)) {f : Addr} (hf : mg (fdef i).name = some (.ref f)) :
    ∃ o pm code doc, h.get? f = some o ∧ o.data = .func (docDef (fdef i).name (fdef i).params (fdef i).body (fdef i).scope pm code doc) ∧ h.CodeRec code (fdef i).name := by
  obtain ⟨f', o, pm, cd, doc, h1, h2, h3, h4⟩ := W.T.fn _ (fdef_in j hj)
  rw [hf] at h1
  cases h1
  exact ⟨o, pm, cd, doc, h2, h3, h4⟩
theorem noBoolM : typeLookup (.type "re.Match") "__bool__" = pure none := by rw [typeLookup_type, builtinLookup_eq_fast]; kernel_rfl
theorem noLenM : typeLookup (.type "re.Match") "__len__" = pure none := by rw [typeLookup_type, builtinLookup_eq_fast]; kernel_rfl
theorem truthy_match {g : Addr} {o : Obj} {Q : Bool → Shared → Prop} (ho : s.heap.get? g = some o) (hc : o.cls = .type "re.Match") (h : Q true s) : wpAny (model P w) A (truthy (.ref g)) Q E s := by
  have hT : s.TypeIs (.ref g) "re.Match" := ⟨o, ho, hc⟩
  unfold truthy
  refine wpAny_bind (wpAny_callSpecial?_none (name := Str.ofString "__bool__") hT noBoolM ?_)
  refine wpAny_bind (wpAny_specialOf (name := Str.ofString "__len__") hT noLenM ?_)
  exact wpAny_pure h
/-- is_HDN, as a plain function -/
def hdn (x : Str) : Option Bool := (srch ipCode x).map fun b => !b && !(x == Str.ofString "") && !(Txt.item x 0 == Str.ofString ".") && !(Txt.item x (-1) == Str.ofString ".")
theorem hdn_call {f : Addr} {x : Str} {tk : Tok} {b : Bool} (W : Wd mean mg mb s.heap) (hroom : A.depth + 8 < recursionLimit) (hf : mg "is_HDN" = some (.ref f)) (hx : x.length ≤ 1048576) (hr : hdn x = some b)
    (hq : ∀ h' t, (∀ b o, s.heap.get? b = some o → h'.get? b = some o) → Q (.bool b) { s with heap := h', toks := t }) :
    wpAny (model P w) A (call (.ref f) [.str x tk]) Q E s := by
  obtain ⟨o, pm, cd, doc, h2, h3, h4⟩ := fn_at (i := 3) W 0 (by kernel_rfl) hf
  obtain ⟨ip, ip1, ip2⟩ := W.H.ip
  rw [nsMap_is W.T.g] at ip1
  obtain ⟨b0, hs, hr⟩ := Option.map_eq_some_iff.mp hr
  refine wpAny_call (call_plain_ret (by omega) h2 h3 W.T.nolimit h4 (binds := [("text", .str x tk)]) (by rfl) (locs (by rfl)) (fun h₁ F => ?_) (by rfl) (by rfl) (by rfl) (by decide))
  refine wpAny_execs_cons ?_
  refine wpAny_If ?_
  refine isTrue_plain ?_
  walk1
  refine name_g F W ip1 ?_
  refine meth_pat F ip2 slotSearch typeSearch ?_
  walk_at "go"
  have ip3 := ip2.keeps F.keep
  refine search_any ip3 (by have : x.cps.size = x.length := rfl; omega) hs (fun hb h' g og k1 k2 k3 k4 => ?_) (fun hb => ?_)
  · have F' := F.keeps k1
    subst hb
    obtain rfl : false = b := hr
    refine truthy_match k3 k4 ?_
    walk_at "go"
    exact hq _ _ F'.keep
  · subst hb
    walk_at "go"
    all_goals (dsimp only; simp only [*, Bool.not_true, Bool.not_false, Bool.true_and, Bool.and_true, Bool.and_false, Bool.false_and] at hr; subst hr; exact hq _ _ F.keep)
theorem has_fn {h : Heap} (W : Wd mean mg mb h) {i : Nat} (j : Nat) (hj : (recsOf q)[j]? = some (fdef i)) : ∃ f, mg (fdef i).name = some (.ref f) ∧ FnAt h f := by
  obtain ⟨f, o, pm, cd, doc, h1, h2, h3, h4⟩ := W.T.fn _ (fdef_in j hj)
  exact ⟨f, h1, o, _, h2, h3⟩
theorem hdn_has {h : Heap} (W : Wd mean mg mb h) : ∃ f, mg "is_HDN" = some (.ref f) ∧ FnAt h f := has_fn (i := 3) W 0 (by kernel_rfl)
local macro_rules | `(tactic| walk_at "eval Call Name") => `(tactic| ((refine' call_def ?kF ?kW ?kf ?kn ?_); (case kF => assumption); (case kW => assumption); (case kf => assumption); (case kn => assumption)))
local macro_rules | `(tactic| walk_at "Here") => `(tactic| ((refine' And.intro (Exists.intro _ ?kF) ?_); (case kF => assumption)))
/-- domain_match, as a plain function -/
def dmatch (x y : Str) : Option Bool :=
  if (Txt.lower x == Txt.lower y) = true then some true else
  match hdn (Txt.lower x) with
  | none => none
  | some u => if u = false then some false else
    if Txt.rfind (Txt.lower x) (Txt.lower y) = -1 then some false else
    if Txt.rfind (Txt.lower x) (Txt.lower y) = 0 then some false else
    if Txt.startswith (Txt.lower y) (Str.ofString ".") = false then some false else hdn (Txt.slice (Txt.lower y) (some 1) none)
theorem dmatch_call {f : Addr} {x y : Str} {tx ty : Tok} {b : Bool} (W : Wd mean mg mb s.heap) (hroom : A.depth + 12 < recursionLimit) (hf : mg "domain_match" = some (.ref f)) (hx : x.length ≤ 1000) (hy : y.length ≤ 1000) (hr : dmatch x y = some b)
    (hq : ∀ h' t, (∀ b o, s.heap.get? b = some o → h'.get? b = some o) → Q (.bool b) { s with heap := h', toks := t }) :
    wpAny (model P w) A (call (.ref f) [.str x tx, .str y ty]) Q E s := by
  obtain ⟨o, pm, cd, doc, h2, h3, h4⟩ := fn_at (i := 4) W 1 (by kernel_rfl) hf
  obtain ⟨hd, hhd, hfn⟩ := hdn_has W
  refine wpAny_call (call_plain_ret (by omega) h2 h3 W.T.nolimit h4 (binds := [("A", .str x tx), ("B", .str y ty)]) (by rfl) (locs (by rfl)) (fun h₁ F => ?_) (by rfl) (by rfl) (by rfl) (by decide))
  refine wpAny_execs_cons ?_
  unfold dmatch at hr
  walk_at "go"
  · rename_i F' e
    rw [if_pos e] at hr
    obtain rfl : true = b := Option.some.inj hr
    exact hq _ _ F'.keep
  · rename_i F' e
    rw [if_neg (by rw [e]; exact Bool.false_ne_true)] at hr
    cases hu : hdn (Txt.lower x) with
    | none => rw [hu] at hr; cases hr
    | some u =>
      rw [hu] at hr
      refine hdn_call (W.keeps F'.keep) (by show A.depth + 1 + 8 < _; omega) hhd (by omega) hu (fun h' t k => ?_)
      have F'' := F'.keeps k
      dsimp only at hr
      walk_at "go"
      · rename_i F3 _
        simp only [*, if_true, if_false, Bool.true_eq_false] at hr
        cases hr; exact hq _ _ F3.keep
      · rename_i F3 _ _
        simp only [*, if_true, if_false, Bool.true_eq_false, ne_eq] at hr
        cases hr; exact hq _ _ F3.keep
      · rename_i F3 _
        simp only [*, if_false, Bool.true_eq_false, ne_eq] at hr
        refine hdn_call (W.keeps F3.keep) (by show A.depth + 1 + 8 < _; omega) hhd (by omega) hr (fun h' t k => ?_)
        have F4 := F3.keeps k
        walk_at "go"
        · rename_i e; subst e; exact hq _ _ F4.keep
        · rename_i e; subst e; exact hq _ _ F4.keep
      · rename_i F3 _ _ _
        simp only [*, if_true, if_false, Bool.true_eq_false, ne_eq] at hr
        cases hr; exact hq _ _ F3.keep
      · rename_i e
        subst e
        cases hr
        exact hq _ _ F''.keep
end
end Mine

end

section 
-- text C2
open PySem PySem.W PyProof.Rows PySem.Calls
set_option maxRecDepth 100000
set_option maxHeartbeats 4000000
namespace Mine
section
variable {w : World} {A : Around} {E : Value → Shared → Prop} {s : Shared} {mean : ExcName → Option Value} {mg mb : Str → Option Value} {Q : Value → Shared → Prop}
local macro_rules | `(tactic| walk_at "go") => `(tactic| repeat' ((fail_if_success (with_reducible show wpAny _ _ (call (Value.ref _) _) _ _ _)); (fail_if_success (with_reducible show wpAny _ _ (subscriptTail _ _ (Value.ref _) _) _ _ _)); (fail_if_success (with_reducible show wpAny _ _ (newList _) _ _ _)); walk1))
local macro_rules | `(tactic| walk_at "eval Call Name") => `(tactic| ((refine' call_def ?kF ?kW ?kf ?kn ?_); (case kF => assumption); (case kW => assumption); (case kf => assumption); (case kn => assumption)))
local macro_rules | `(tactic| walk_at "Here") => `(tactic| ((refine' And.intro (Exists.intro _ ?kF) ?_); (case kF => assumption)))
/-- behind the first dot -/
def tl (x : Str) : Str := Txt.slice x (some (Txt.find x (Str.ofString ".") + 1)) none
/-- reach, as a plain function -/
def reachF (x : Str) : Option Str :=
  if 0 ≤ Txt.find x (Str.ofString ".") then
    match hdn x with
    | none => none
    | some u => if u = true ∧ (0 ≤ Txt.find (tl x) (Str.ofString ".") ∨ (tl x == Str.ofString "local") = true) then some (Str.ofString "." ++ tl x) else some x
  else some x
theorem reach_call {f : Addr} {x r : Str} {tx : Tok} (W : Wd mean mg mb s.heap) (hroom : A.depth + 12 < recursionLimit) (hf : mg "reach" = some (.ref f)) (hx : x.length ≤ 1000) (hr : reachF x = some r)
    (hq : ∀ h' t tk, (∀ b o, s.heap.get? b = some o → h'.get? b = some o) → Q (.str r tk) { s with heap := h', toks := t }) :
    wpAny (model P w) A (call (.ref f) [.str x tx]) Q E s := by
  obtain ⟨o, pm, cd, doc, h2, h3, h4⟩ := fn_at (i := 5) W 2 (by kernel_rfl) hf
  obtain ⟨hd, hhd, hfn⟩ := hdn_has W
  refine wpAny_call (call_plain_ret (by omega) h2 h3 W.T.nolimit h4 (binds := [("h", .str x tx)]) (by rfl) (locs (by rfl)) (fun h₁ F => ?_) (by rfl) (by rfl) (by rfl) (by decide))
  refine wpAny_execs_cons ?_
  unfold reachF at hr
  walk_at "go"
  · rename_i F'
    rw [if_pos (show 0 ≤ Txt.find x (Str.ofString ".") by assumption)] at hr
    cases hu : hdn x with
    | none => rw [hu] at hr; cases hr
    | some u =>
      rw [hu] at hr
      dsimp only at hr
      refine hdn_call (W.keeps F'.keep) (by show A.depth + 1 + 8 < _; omega) hhd (by omega) hu (fun h' t k => ?_)
      have F'' := F'.keeps k
      walk_at "go"
      · rename_i e2 e3 _ _ _
        rw [if_pos ⟨e2, .inl e3⟩] at hr
        cases hr
        exact hq _ _ _ F''.keep
      · rename_i e2 e3 e4 _ _ _
        rw [if_pos ⟨e2, .inr e4⟩] at hr
        cases hr
        exact hq _ _ _ F''.keep
      · rename_i e2 e3 e4
        rw [if_neg (fun z => z.2.elim e3 (fun y => by have y' : (Txt.slice x (some (Txt.find x (Str.ofString ".") + 1)) none == Str.ofString "local") = true := y; rw [e4] at y'; cases y'))] at hr
        cases hr
        exact hq _ _ _ F''.keep
      · rename_i e2
        rw [if_neg (fun z => by rw [e2] at z; cases z.1)] at hr
        cases hr
        exact hq _ _ _ F''.keep
  · rename_i F' e1
    rw [if_neg e1] at hr
    cases hr
    exact hq _ _ _ F'.keep
end
end Mine

end

section 
-- text C3
open PySem PySem.W PyProof.Rows PySem.Calls
set_option maxRecDepth 100000
set_option maxHeartbeats 4000000
namespace Mine
section
variable {w : World} {A : Around} {E : Value → Shared → Prop} {s : Shared} {mean : ExcName → Option Value} {mg mb : Str → Option Value} {Q : Value → Shared → Prop}
local macro_rules | `(tactic| walk_at "go") => `(tactic| repeat' ((fail_if_success (with_reducible show wpAny _ _ (call (Value.ref _) _) _ _ _)); (fail_if_success (with_reducible show wpAny _ _ (subscriptTail _ _ (Value.ref _) _) _ _ _)); (fail_if_success (with_reducible show wpAny _ _ (newList _) _ _ _)); walk1))
local macro_rules | `(tactic| walk_at "eval Call Name") => `(tactic| ((refine' call_def ?kF ?kW ?kf ?kn ?_); (case kF => assumption); (case kW => assumption); (case kf => assumption); (case kn => assumption)))
local macro_rules | `(tactic| walk_at "Here") => `(tactic| ((refine' And.intro (Exists.intro _ ?kF) ?_); (case kF => assumption)))
/-- a name of the built-ins, which the text does not bind -/
def Bt (mg mb : Str → Option Value) (x : Str) (v : Value) : Prop := mg x = none ∧ mb x = some v
theorem Bt.of {h : Heap} (W : Wd mean mg mb h) {x : Str} {v : Value} (hv : bootBuiltins x = some v) (hn : x ≠ "__name__") (h1 : x ∉ startupNames) (h2 : x ∉ looseW q loose) (h3 : x ∉ (recsOf q).map (·.name)) (h4 : x ∉ (litsOf q).map (·.1)) (h5 : x ∉ (clssOf q (looseW q loose)).map (·.name)) : Bt mg mb x v :=
  ⟨W.T.free x h1 h2 h3 h4 h5, (W.T.builtins x hn).trans hv⟩
theorem name_b {M : Model} {h₀ : Heap} {L : Addr} {m : Str → Option Value} {env : Env} {x : Str} {pos : Pos} {v : Value} (F : Fr h₀ L s.heap m) (W : Wd mean mg mb h₀) (e : Bt mg mb x v) (h : Q v s)
    (hg : env.globals = mainGlobals := by rfl) (hb : env.builtins = builtinsNs := by rfl) (hk : env.scope.kind = .function := by rfl) (hx : env.kindOf x = some .globalImplicit := by rfl) (hd : (x == ("__debug__" : Str)) = false := by decide) :
    wpAny M A (eval (.Name x pos) env) Q E s :=
  Name_function_global hk hx (loadGlobal_builtin (env := env) (by rw [hg]; exact W.T.g.keeps F.keep) e.1 (by rw [hb]; exact W.T.b.keeps F.keep) e.2 h) hd
theorem bt_ord {h : Heap} (W : Wd mean mg mb h) : Bt mg mb "ord" (.builtin "ord") := Bt.of W boot_ord (by decide) (by decide +kernel) (by decide +kernel) (by decide +kernel) (by decide +kernel) (by decide +kernel)
theorem bt_len {h : Heap} (W : Wd mean mg mb h) : Bt mg mb "len" (.builtin "len") := Bt.of W (by decide +kernel) (by decide) (by decide +kernel) (by decide +kernel) (by decide +kernel) (by decide +kernel) (by decide +kernel)
theorem bt_sum {h : Heap} (W : Wd mean mg mb h) : Bt mg mb "sum" (.builtin "sum") := Bt.of W (by decide +kernel) (by decide) (by decide +kernel) (by decide +kernel) (by decide +kernel) (by decide +kernel) (by decide +kernel)
theorem bt_max {h : Heap} (W : Wd mean mg mb h) : Bt mg mb "max" (.builtin "max") := Bt.of W (by decide +kernel) (by decide) (by decide +kernel) (by decide +kernel) (by decide +kernel) (by decide +kernel) (by decide +kernel)
theorem bt_chr {h : Heap} (W : Wd mean mg mb h) : Bt mg mb "chr" (.builtin "chr") := Bt.of W (by decide +kernel) (by decide) (by decide +kernel) (by decide +kernel) (by decide +kernel) (by decide +kernel) (by decide +kernel)
theorem bt_range {h : Heap} (W : Wd mean mg mb h) : Bt mg mb "range" (.type "range") := Bt.of W (by decide +kernel) (by decide) (by decide +kernel) (by decide +kernel) (by decide +kernel) (by decide +kernel) (by decide +kernel)
theorem bt_int {h : Heap} (W : Wd mean mg mb h) : Bt mg mb "int" (.type "int") := Bt.of W (by decide +kernel) (by decide) (by decide +kernel) (by decide +kernel) (by decide +kernel) (by decide +kernel) (by decide +kernel)
local macro_rules | `(tactic| walk_at "eval Name") => `(tactic| ((refine' name_g ?kF ?kW ?kf ?_); (case kF => assumption); (case kW => assumption); (case kf => assumption)))
local macro_rules | `(tactic| walk_at "eval Name") => `(tactic| ((refine' name_b ?kF ?kW ?kf ?_); (case kF => assumption); (case kW => assumption); (case kf => assumption)))
theorem item_at {value slice : PySem.Expr} {l : Addr} {xs : Array Value} {k : Int} {u : Tok} {v : Value} (hl : s.heap.IsList l xs) (h0 : 0 ≤ k) (hhi : k < 2 ^ 63) (hx : xs[k.toNat]? = some v) (h : Q v s)
    (hs : subscripted slice false (.ref l) (.int k u) = operate [.ref l, .int k u] (getItem (.ref l) (.int k u)) := by with_unfolding_all rfl) :
    wpAny (model P w) A (subscriptTail value slice (.ref l) (.int k u)) Q E s :=
  tail_any hl.typeIs slot_list_getitem.lookup (wpAny_getItem_list hl h0 hhi hx h) hs
theorem IsList.keeps {h h' : Heap} {a : Addr} {xs : Array Value} (x : h.IsList a xs) (k : ∀ b o, h.get? b = some o → h'.get? b = some o) : h'.IsList a xs := by
  obtain ⟨o, e, r⟩ := x
  exact ⟨o, k _ _ e, r⟩
theorem quote_call {f : Addr} {tx : Tok} (W : Wd mean mg mb s.heap) (hroom : A.depth + 12 < recursionLimit) (hf : mg "quote" = some (.ref f))
    (hq : ∀ h' t tk, (∀ b o, s.heap.get? b = some o → h'.get? b = some o) → Q (.str "=2E" tk) { s with heap := h', toks := t }) :
    wpAny (model P w) A (call (.ref f) [.str "." tx]) Q E s := by
  obtain ⟨o, pm, cd, doc, h2, h3, h4⟩ := fn_at (i := 19) W 4 (by kernel_rfl) hf
  have B1 := bt_ord W
  obtain ⟨a, xs, tk, m1, m2, m3⟩ := W.H.mp
  rw [nsMap_is W.T.g] at m1
  refine wpAny_call (call_plain_ret (by omega) h2 h3 W.T.nolimit h4 (binds := [("c", .str "." tx)]) (by rfl) (locs (by rfl)) (fun h₁ F => ?_) (by rfl) (by rfl) (by rfl) (by decide))
  walk_at "go"
  have z : (((Str.ofString ".").cps.getD 0 0 : Nat) : Int) = 46 := by decide +kernel
  refine item_at (IsList.keeps m2 F.keep) (by rw [z]; decide) (by rw [z]; decide) (by rw [z]; exact m3) ?_
  exact hq _ _ _ F.keep
end
end Mine

end

section 
-- text C4
open PySem PySem.W PyProof.Rows PySem.Calls
set_option maxRecDepth 100000
set_option maxHeartbeats 4000000
namespace Mine
section
variable {w : World} {A : Around} {E : Value → Shared → Prop} {s : Shared} {mean : ExcName → Option Value} {mg mb : Str → Option Value} {Q : Value → Shared → Prop}
local macro_rules | `(tactic| walk_at "go") => `(tactic| repeat' ((fail_if_success (with_reducible show wpAny _ _ (call (Value.ref _) _) _ _ _)); (fail_if_success (with_reducible show wpAny _ _ (subscriptTail _ _ (Value.ref _) _) _ _ _)); (fail_if_success (with_reducible show wpAny _ _ (newList _) _ _ _)); walk1))
local macro_rules | `(tactic| walk_at "eval Call Name") => `(tactic| ((refine' call_def ?kF ?kW ?kf ?kn ?_); (case kF => assumption); (case kW => assumption); (case kf => assumption); (case kn => assumption)))
local macro_rules | `(tactic| walk_at "Here") => `(tactic| ((refine' And.intro (Exists.intro _ ?kF) ?_); (case kF => assumption)))
local macro_rules | `(tactic| walk_at "eval Name") => `(tactic| ((refine' name_g ?kF ?kW ?kf ?_); (case kF => assumption); (case kW => assumption); (case kf => assumption)))
local macro_rules | `(tactic| walk_at "eval Name") => `(tactic| ((refine' name_b ?kF ?kW ?kf ?_); (case kF => assumption); (case kW => assumption); (case kf => assumption)))
/-- the numbers of the six texts that are read by base 16 here -/
def hex2 (x : Str) : Option Nat := if x = "61" then some 97 else if x = "64" then some 100 else if x = "6C" then some 108 else if x = "37" then some 55 else if x = "2E" then some 46 else if x = "2e" then some 46 else none
theorem int16_tree {x : Str} {n : Nat} (h : hex2 x = some n) (u t : Tok) : Builtin.«int.__new__» ⟨[.type "int", .str x u, .int 16 t], []⟩ = Sem.fresh fun t => Sem.pure (.done (.ret (.int n t))) := by
  unfold hex2 at h
  repeat' split at h
  all_goals (first | (cases h; done) | (cases h; rename_i e; subst e; kernel_rfl))
theorem int16_meets {x : Str} {n : Nat} (h : hex2 x = some n) (u t : Tok) : Meets (Builtin.«int.__new__» ⟨[.type "int", .str x u, .int 16 t], []⟩) (Made.int n).spec := fun prog w A R s hq => by
  rw [int16_tree h]
  exact fun _ _ _ => hq
theorem int16_call {x : Str} {n : Nat} {u t : Tok} (h : hex2 x = some n) (hq : Q (.int n s.toks) { s with toks := s.toks + 1 }) : wpAny (model P w) A (call (.type "int") [.str x u, .int 16 t]) Q E s :=
  callType_new F.called_int F.newNe_int (by kernel_rfl) (by kernel_rfl) (fun obj => by unfold argsOk; kernel_rfl) F.entry_int_new (int16_meets h u t) (show (Made.int n).post _ s from ⟨rfl, hq⟩)
theorem hex2_le {x : Str} {n : Nat} (h : hex2 x = some n) : n ≤ 108 := by
  unfold hex2 at h
  repeat' split at h
  all_goals (first | (cases h; done) | (cases h; decide))
theorem unquote_call {f : Addr} {x : Str} {n : Nat} {tx : Tok} (W : Wd mean mg mb s.heap) (hroom : A.depth + 12 < recursionLimit) (hf : mg "unquote" = some (.ref f)) (hx : x.length ≤ 1000) (hn : hex2 (Txt.slice x (some 1) (some 3)) = some n)
    (hq : ∀ h' t tk, (∀ b o, s.heap.get? b = some o → h'.get? b = some o) → Q (.str ⟨#[n]⟩ tk) { s with heap := h', toks := t }) :
    wpAny (model P w) A (call (.ref f) [.str x tx]) Q E s := by
  obtain ⟨o, pm, cd, doc, h2, h3, h4⟩ := fn_at (i := 18) W 3 (by kernel_rfl) hf
  have B1 := bt_chr W
  have B2 := bt_int W
  refine wpAny_call (call_plain_ret (by omega) h2 h3 W.T.nolimit h4 (binds := [("s", .str x tx)]) (by rfl) (locs (by rfl)) (fun h₁ F => ?_) (by rfl) (by rfl) (by rfl) (by decide))
  walk_at "go"
  rename_i F' _
  refine int16_call hn ?_
  have hb := hex2_le hn
  have hb0 : (0 : Int) ≤ (n : Int) := by omega
  have hb1 : (n : Int) < 1114112 := by omega
  walk_at "go"
  exact hq _ _ _ F'.keep
open PySem.Builtin.Re
/-- a match of the text x, from st up to en -/
def IsMatch (h : Heap) (g : Addr) (x : Str) (st en : Nat) : Prop := ∃ a tk sp lim li n, h.get? g = some { cls := .type "re.Match", data := .fields #[.str x tk, .ref a, rawInt 0, rawInt lim, rawInt li, .ref sp] } ∧
  h.get? sp = some { cls := .type "tuple", data := .seq #[rawInt st, rawInt en] n }
theorem IsMatch.keeps {h h' : Heap} {g : Addr} {x : Str} {st en : Nat} (y : IsMatch h g x st en) (k : ∀ b o, h.get? b = some o → h'.get? b = some o) : IsMatch h' g x st en := by
  obtain ⟨a, tk, sp, lim, li, n, e1, e2⟩ := y
  exact ⟨a, tk, sp, lim, li, n, k _ _ e1, k _ _ e2⟩
theorem meth_match {h₀ : Heap} {L g : Addr} {m : Str → Option Value} {x : Str} {st en : Nat} {pl : Sem Bool} {Q : Value × List Value → Shared → Prop} (F : Fr h₀ L s.heap m) (hp : IsMatch h₀ g x st en)
    (h : Q (.builtin "re.Match.group", [.ref g]) s) : wpAny (model P w) A (getMethod (.ref g) "group" pl) Q E s := by
  obtain ⟨a, tk, sp, lim, li, n, e1, e2⟩ := hp
  exact getMethod_builtin ⟨_, F.keep _ _ e1, rfl⟩ plainM slotGroup typeGroup (fun b e => by cases e; exact ⟨_, F.keep _ _ e1, rfl⟩) h
theorem group_any {g : Addr} {x : Str} {st en : Nat} {t : Tok} (hp : IsMatch s.heap g x st en) (hx : x.length ≤ 1000)
    (hq : Q (.str ⟨x.cps.extract st en⟩ s.toks) { s with toks := s.toks + 1 }) : wpAny (model P w) A (call (.builtin "re.Match.group") [.ref g, .int 0 t]) Q E s := by
  obtain ⟨a, tk, sp, lim, li, n, e1, e2⟩ := hp
  have hT : s.TypeIs (.ref g) "re.Match" := ⟨_, e1, rfl⟩
  refine wpAny_call (codeAny_call_builtin slotGroup.plain entryGroup (slotGroup.check _ _ _ _ _ _ _ _ hT (argsGroup _ _) ?_))
  have h0 : Builtin.«re.Match.group» ⟨[.ref g, .int 0 t], []⟩ = (do
      let y ← reFound (.ref g)
      ret (← reGroupText y (← reGroupNumber y (.int 0 t)) .none)) := by rfl
  rw [h0]
  have h1 : ∀ y : ReFound, y.spans.size = 2 → reGroupNumber y (.int 0 t) = pure 0 := fun y hy => by
    show (if ((0 : Int) < 0 || 2 * 0 ≥ (y.spans.size : Int)) = true then _ else _) = _
    rw [hy]
    rfl
  refine wpAny_bind (wpAny_bind (wpAny_bind (wpAny_load e1 (wpAny_pure ?_))))
  refine wpAny_bind (wpAny_bind (wpAny_bind (wpAny_load e2 (wpAny_pure (wpAny_pure ?_)))))
  refine wpAny_pure ?_
  rw [show (Array.map reRawOf ((some #[rawInt ↑st, rawInt ↑en]).getD #[])) = #[(st : Int), (en : Int)] from by simp [reRawOf, rawInt]]
  rw [h1 _ (by rfl)]
  refine wpAny_bind (wpAny_pure ?_)
  refine wpAny_bind ?_
  have h2 : reGroupText { fields := #[Value.str x tk, Value.ref a, rawInt 0, rawInt lim, rawInt li, Value.ref sp], spans := #[(st : Int), (en : Int)] } 0 .none = mkStr ⟨x.cps.extract st en⟩ := by
    show (if ((st : Int) < 0 || (en : Int) < 0) = true then pure Value.none else (do let (text, kind) ← reTextOf (.str x tk); reSlice text kind (st : Int).toNat (en : Int).toNat)) = _
    rw [if_neg (by simp)]
    rfl
  rw [h2]
  refine wpAny_mkStr (wpAny_pure hq) ?_
  show (x.cps.extract st en).size ≤ sizeLine
  rw [Array.size_extract, sizeLine_eq]
  have : x.cps.size = x.length := rfl
  omega
theorem unqm_call {f g : Addr} {x : Str} {st en n : Nat} (W : Wd mean mg mb s.heap) (hroom : A.depth + 16 < recursionLimit) (hf : mg "_unquote_match" = some (.ref f)) (hx : x.length ≤ 1000) (hp : IsMatch s.heap g x st en)
    (hn : hex2 (Txt.slice ⟨x.cps.extract st en⟩ (some 1) (some 3)) = some n)
    (hq : ∀ h' t tk, (∀ b o, s.heap.get? b = some o → h'.get? b = some o) → Q (.str ⟨#[n]⟩ tk) { s with heap := h', toks := t }) :
    wpAny (model P w) A (call (.ref f) [.ref g]) Q E s := by
  obtain ⟨o, pm, cd, doc, h2, h3, h4⟩ := fn_at (i := 23) W 5 (by kernel_rfl) hf
  obtain ⟨u, hu, hfn⟩ := has_fn (i := 18) W 3 (by kernel_rfl)
  have hu' : mg "unquote" = some (.ref u) := hu
  have hl : (⟨x.cps.extract st en⟩ : Str).length ≤ 1000 := by
    show (x.cps.extract st en).size ≤ 1000
    rw [Array.size_extract]
    have : x.cps.size = x.length := rfl
    omega
  refine wpAny_call (call_plain_ret (by omega) h2 h3 W.T.nolimit h4 (binds := [("match", .ref g)]) (by rfl) (locs (by rfl)) (fun h₁ F => ?_) (by rfl) (by rfl) (by rfl) (by decide))
  walk_at "go"
  refine meth_match F hp ?_
  walk_at "go"
  refine group_any (hp.keeps F.keep) hx ?_
  walk1
  walk1
  walk1
  rename_i F'
  refine call_def F' W hu' hfn ?_
  walk_at "go"
  refine unquote_call (W.keeps F'.keep) (by show A.depth + 1 + 12 < _; omega) hu' hl hn (fun h' t tk k => ?_)
  exact hq _ _ _ (F'.keeps k).keep
end
end Mine

end

section 
-- text C5
open PySem PySem.W PyProof.Rows PySem.Calls PySem.Builtin.Re
set_option maxRecDepth 100000
set_option maxHeartbeats 4000000
namespace Mine
section
variable {w : World} {A : Around} {E : Value → Shared → Prop} {s : Shared} {mean : ExcName → Option Value} {mg mb : Str → Option Value} {Q : Value → Shared → Prop}
/-- a list of the call's own that holds texts -/
def LD (h : Heap) (D : Addr) (ys : List Str) : Prop := ∃ vs n, h.get? D = some { cls := .type "list", data := .seq vs.toArray n } ∧ StrsAre vs ys
theorem LD.keeps {h h' : Heap} {D : Addr} {ys : List Str} (x : LD h D ys) (k : ∀ b o, h.get? b = some o → h'.get? b = some o) : LD h' D ys := by
  obtain ⟨vs, n, e, r⟩ := x
  exact ⟨vs, n, k _ _ e, r⟩
theorem LD.list {h : Heap} {D : Addr} {ys : List Str} (x : LD h D ys) : ∃ vs : List Value, h.IsList D vs.toArray ∧ StrsAre vs ys := by
  obtain ⟨vs, n, e, r⟩ := x
  exact ⟨vs, ⟨_, e, rfl, n, rfl⟩, r⟩
theorem strs_snoc {y : Str} {t : Tok} : ∀ {vs : List Value} {ys : List Str}, StrsAre vs ys → StrsAre (vs ++ [.str y t]) (ys ++ [y])
  | _, _, .nil => .cons y t .nil
  | _, _, .cons z u r => .cons z u (strs_snoc r)
theorem strs_len : ∀ {vs : List Value} {ys : List Str}, StrsAre vs ys → vs.length = ys.length
  | _, _, .nil => rfl
  | _, _, .cons _ _ r => by simp [strs_len r]
theorem push_any {D : Addr} {ys : List Str} {y : Str} {t : Tok} {Q : Unit → Shared → Prop} (x : LD s.heap D ys) (hl : ys.length ≤ 1000)
    (hq : ∀ h', LD h' D (ys ++ [y]) → (∀ b o, b ≠ D → s.heap.get? b = some o → h'.get? b = some o) → Q () { s with heap := h' }) : wpAny (model P w) A (updateSeq D (·.push (.str y t))) Q E s := by
  obtain ⟨vs, n, e, r⟩ := x
  have hv := strs_len r
  refine wpAny_updateSeq e rfl ?_ (by rw [List.size_toArray, sizeLine_eq]; omega) (by rw [Array.size_push, List.size_toArray, sizeLine_eq]; omega)
  refine hq _ ⟨vs ++ [.str y t], n + 1, ?_, strs_snoc r⟩ (fun b o hb eb => (Heap.get?_update_ne _ _ _ _ hb).trans eb)
  rw [Heap.get?_update_self _ e rfl]
  simp [Obj.mapSeq]
/-- the pieces that sub glues -/
def subGo : Nat → Str → Nat → Bool → List Str → Option (List Str)
  | 0, _, _, _, _ => none
  | n + 1, x, done, must, acc => match drv 400 (Sre.forSearch twCode.toArray x.cps 0 done x.cps.size must) with
    | none => none
    | some m => match outB m with
      | none => none
      | some false => some (if done < x.cps.size then acc ++ [⟨x.cps.extract done x.cps.size⟩] else acc)
      | some true => match hex2 (Txt.slice ⟨x.cps.extract m.start m.handed⟩ (some 1) (some 3)) with
        | none => none
        | some c => subGo n x m.handed (m.handed == m.start) ((if done < m.start then acc ++ [⟨x.cps.extract done m.start⟩] else acc) ++ [⟨#[c]⟩])
theorem slice_any {x : Str} {b e : Nat} {Q : Value → Shared → Prop} (hx : x.length ≤ 1000) (hq : Q (.str ⟨x.cps.extract b e⟩ s.toks) { s with toks := s.toks + 1 }) : wpAny (model P w) A (reSlice x.cps 0 b e) Q E s := by
  refine wpAny_mkStr hq ?_
  show (x.cps.extract b e).size ≤ sizeLine
  rw [Array.size_extract, sizeLine_eq]
  have : x.cps.size = x.length := rfl
  omega
theorem loop_any {a f D : Addr} {x : Str} {tk : Tok} {h₀ : Heap} {R : Result → Shared → Prop} (W : Wd mean mg mb h₀) (hp : IsPat h₀ a twCode) (hf : mg "_unquote_match" = some (.ref f)) (hroom : A.depth + 16 < recursionLimit) (hx : x.length ≤ 1000) {gl : Shared}
    {ys : List Str} (hy : ys ≠ []) (hw : (ys.map (·.length)).sum + ys.length ≤ 1000)
    (hR : ∀ h' t tk', (∀ b o, h₀.get? b = some o → h'.get? b = some o) → R (.ok (.ret (.str (Txt.join "" ys) tk'))) { gl with heap := h', toks := t }) (hD : h₀.get? D = none) :
    ∀ (k n done : Nat) (must : Bool) (acc : List Str) (h : Heap) (t : Nat), acc.length + 2 * k ≤ 500 → subGo k x done must acc = some ys → LD h D acc → (∀ b o, h₀.get? b = some o → h.get? b = some o) →
      codeAny (model P w) A (.builtin "re.Pattern.sub.loop" ⟨[.ref a, .str x tk, .ref f, rawInt 1, rawInt 0, rawInt n, rawInt done, rawInt done, .bool must, .ref D, .bool false], []⟩) R { gl with heap := h, toks := t }
  | 0, _, _, _, _, _, _, _, hs, _, _ => by cases hs
  | k + 1, n, done, must, acc, h, t, hk, hs, ld, kp => by
    refine codeAny_builtin entrySubLoop ?_
    rw [Around.under_plainId (by decide +kernel)]
    unfold Builtin.«re.Pattern.sub.loop»
    unfold subGo at hs
    cases hd : drv 400 (Sre.forSearch twCode.toArray x.cps 0 done x.cps.size must) with
    | none => rw [hd] at hs; cases hs
    | some m =>
      rw [hd] at hs
      dsimp only at hs
      refine wpAny_bind (whole_any (hp.keeps kp) ?_)
      refine wpAny_bind (wpAny_mono (toEnd_any (n := 400) hd (by decide) (Q := fun r s' => s' = { gl with heap := h, toks := t } ∧ r = (match outB m with | some true => some m | _ => none)) ?_) (fun r s' hr => ?_) fun _ _ e => e)
      · unfold outB at hs ⊢
        cases e : m.outcome with
        | none => rw [e] at hs; cases hs
        | some o =>
          rw [e] at hs
          cases o with
          | matched => exact ⟨rfl, rfl⟩
          | failed => exact ⟨rfl, rfl⟩
          | stuck why => cases hs
      · obtain ⟨rfl, rfl⟩ := hr
        cases ho : outB m with
        | none => rw [ho] at hs; cases hs
        | some b =>
          rw [ho] at hs
          cases b with
          | false =>
            dsimp only at hs ⊢
            by_cases hc : done < x.cps.size
            · rw [if_pos hc] at hs
              rw [if_pos (show ((done : Nat) : Int).toNat < (targetOf a twCode x tk).lim from hc)]
              obtain rfl := Option.some.inj hs
              refine wpAny_bind (slice_any hx ?_)
              refine wpAny_bind (push_any ld (by omega) fun h' ld' k' => ?_)
              have kp' : ∀ b o, h₀.get? b = some o → h'.get? b = some o := fun b o e => k' b o (fun q => by rw [q, hD] at e; cases e) (kp b o e)
              refine wpAny_bind (slice_any hx ?_)
              obtain ⟨vs, nn, e, r⟩ := ld'
              refine wpAny_bind (wpAny_bind (wpAny_load e (wpAny_pure ?_)))
              have hne : ((some vs.toArray).getD #[]).isEmpty = false := by
                have := strs_len r
                cases vs with
                | nil => exfalso; apply hy; exact List.length_eq_zero_iff.mp this.symm
                | cons v vs => rfl
              rw [if_neg (by rw [hne]; exact Bool.false_ne_true)]
              refine wpAny_bind (join_listW ⟨_, e, rfl, nn, rfl⟩ r (by show (x.cps.extract 0 0).size ≤ 16; simp) (Nat.le_trans hw (by decide)) (fun t' k => ?_))
              have hj : (⟨x.cps.extract 0 0⟩ : Str) = Str.ofString "" := by
                have : x.cps.extract 0 0 = #[] := by simp
                rw [this]; rfl
              rw [hj]
              exact wpAny_pure (hR _ _ _ kp')
            · rw [if_neg hc] at hs
              rw [if_neg (show ¬ ((done : Nat) : Int).toNat < (targetOf a twCode x tk).lim from hc)]
              obtain rfl := Option.some.inj hs
              refine wpAny_bind (slice_any hx ?_)
              obtain ⟨vs, nn, e, r⟩ := ld
              refine wpAny_bind (wpAny_bind (wpAny_load e (wpAny_pure ?_)))
              have hne : ((some vs.toArray).getD #[]).isEmpty = false := by
                have := strs_len r
                cases vs with
                | nil => exfalso; apply hy; exact List.length_eq_zero_iff.mp this.symm
                | cons v vs => rfl
              rw [if_neg (by rw [hne]; exact Bool.false_ne_true)]
              refine wpAny_bind (join_listW ⟨_, e, rfl, nn, rfl⟩ r (by show (x.cps.extract 0 0).size ≤ 16; simp) (Nat.le_trans hw (by decide)) (fun t' k => ?_))
              have hj : (⟨x.cps.extract 0 0⟩ : Str) = Str.ofString "" := by
                have : x.cps.extract 0 0 = #[] := by simp
                rw [this]; rfl
              rw [hj]
              exact wpAny_pure (hR _ _ _ kp)
          | true =>
            dsimp only at hs ⊢
            cases hh : hex2 (Txt.slice ⟨x.cps.extract m.start m.handed⟩ (some 1) (some 3)) with
            | none => rw [hh] at hs; cases hs
            | some c =>
              rw [hh] at hs
              dsimp only at hs
              have rest : ∀ (acc' : List Str) (h' : Heap) (t' : Nat), acc'.length + 2 * k ≤ 499 → subGo k x m.handed (m.handed == m.start) (acc' ++ [⟨#[c]⟩]) = some ys → LD h' D acc' → (∀ b o, h₀.get? b = some o → h'.get? b = some o) →
                  wpAny (model P w) A.in1 (do
                      let found ← reNewMatch (.ref a) (.str x tk) 0 0 x.cps.size m
                      let item ← holding [found] (call (.ref f) [found])
                      if (item != .none) = true then do
                        updateSeq D fun x => x.push item
                        again (.builtin "re.Pattern.sub.loop" ⟨[.ref a, .str x tk, .ref f, rawInt 1, rawInt 0, rawInt (n + 1), rawInt m.handed, rawInt m.handed, .bool (m.handed == m.start), .ref D, .bool false], []⟩)
                      else again (.builtin "re.Pattern.sub.loop" ⟨[.ref a, .str x tk, .ref f, rawInt 1, rawInt 0, rawInt (n + 1), rawInt m.handed, rawInt m.handed, .bool (m.handed == m.start), .ref D, .bool false], []⟩))
                    (fun fin s' => match fin with | .done f => R (.ok f) s' | .again c' => c'.quiet = true ∧ codeAny (model P w) A c' R s') (fun e s' => R (.error e) s') { gl with heap := h', toks := t' } := by
                intro acc' h' t' hk' hs' ld' kp'
                refine wpAny_bind (newMatch_any fun h1 g sp nn k1 k2 k3 k4 => ?_)
                have hm : IsMatch h1 g x m.start m.handed := ⟨_, _, _, _, _, _, k3, k4⟩
                refine wpAny_bind (wpAny_holding (unqm_call (W.keeps fun b o e => k1 _ _ (kp' b o e)) hroom hf hx hm hh fun h2 t2 tk2 kk => ?_))
                rw [if_pos (by rfl)]
                refine wpAny_bind (push_any ((ld'.keeps k1).keeps kk) (by omega) fun h3 ld3 k5 => ?_)
                refine wpAny_pure ⟨plainId_quiet (by decide +kernel) _, ?_⟩
                refine loop_any W hp hf hroom hx hy hw hR hD k (n + 1) m.handed (m.handed == m.start) _ h3 t2 (by simp only [List.length_append, List.length_singleton]; omega) hs' ld3 (fun b o e => k5 b o (fun q => by rw [q, hD] at e; cases e) (kk _ _ (k1 _ _ (kp' b o e))))
              by_cases hc : done < m.start
              · rw [if_pos hc] at hs
                rw [if_pos (show ((done : Nat) : Int).toNat < m.start from hc)]
                refine wpAny_bind (slice_any hx ?_)
                refine wpAny_bind (push_any ld (by omega) fun h' ld' k' => ?_)
                exact rest _ _ _ (by simp only [List.length_append, List.length_singleton]; omega) hs ld' (fun b o e => k' b o (fun q => by rw [q, hD] at e; cases e) (kp b o e))
              · rw [if_neg hc] at hs
                rw [if_neg (show ¬ ((done : Nat) : Int).toNat < m.start from hc)]
                exact rest _ _ _ (by omega) hs ld kp
theorem callFn : typeLookup (.type "function") "__call__" = pure (some (.builtin "function.__call__")) := by rw [typeLookup_type, builtinLookup_eq_fast]; kernel_rfl
theorem notBa : isSubtype (.type "str") (.type "bytearray") = pure false := by rw [isSubtype_type]; kernel_rfl
/-- header_decode, as a plain function -/
def hdec (x : Str) : Option Str := match subGo 20 (Txt.replace x (Str.ofString "_") (Str.ofString " ")) 0 false [] with
  | none => none
  | some ys => if ys ≠ [] ∧ (ys.map (·.length)).sum + ys.length ≤ 1000 ∧ (Txt.replace x (Str.ofString "_") (Str.ofString " ")).length ≤ 1000 then some (Txt.join "" ys) else none
theorem sub_any {a f : Addr} {x : Str} {tk : Tok} {ys : List Str} {of : Obj} (W : Wd mean mg mb s.heap) (hp : IsPat s.heap a twCode) (hf : mg "_unquote_match" = some (.ref f)) (hof : s.heap.get? f = some of) (hoc : of.cls = .type "function") (hroom : A.depth + 16 < recursionLimit) (hx : x.length ≤ 1000)
    (hs : subGo 20 x 0 false [] = some ys) (hy : ys ≠ []) (hw : (ys.map (·.length)).sum + ys.length ≤ 1000)
    (hq : ∀ h' t tk, (∀ b o, s.heap.get? b = some o → h'.get? b = some o) → Q (.str (Txt.join "" ys) tk) { s with heap := h', toks := t }) :
    wpAny (model P w) A (call (.builtin "re.Pattern.sub") [.ref a, .ref f, .str x tk]) Q E s := by
  have hT : s.TypeIs (.ref a) "re.Pattern" := by
    obtain ⟨c, p0, p1, p3, p4, t2, t6, n, sl, od, ol, oc, xs, e1, e2, e3⟩ := hp
    exact ⟨_, e1, rfl⟩
  have hF : s.TypeIs (.ref f) "function" := ⟨_, hof, hoc⟩
  refine wpAny_call (codeAny_call_builtin slotSub.plain entrySub (slotSub.check _ _ _ _ _ _ _ _ hT (argsSub _ _ _) ?_))
  have h0 : Builtin.«re.Pattern.sub» ⟨[.ref a, .ref f, .str x tk], []⟩ = (do
      let called := (← specialOf (.ref f) "__call__").isSome
      let literal ← if called then pure false else match ← asStr? (.ref f) with
        | some s => pure !s.cps.contains 92
        | none => do match ← Builtin.Bytes.bufferQuiet? "re.Pattern.sub" (.ref f) with
          | some b => pure !b.contains 92
          | none => pure false
      let (repl, way) ← if called then pure (Value.ref f, 1) else if literal then pure (Value.ref f, 0) else do
        let t ← reCompileTemplate (.ref a) (.ref f)
        if ← reOnlyLiteral t then pure (← field t 0, 0) else pure (t, 2)
      let _ ← holding [repl] (reWholeTarget (.ref a) (.str x tk))
      if way == 1 then reNotHeld "re.Pattern.sub" (.str x tk)
      again (.builtin "re.Pattern.sub.loop" ⟨[.ref a, .str x tk, repl, rawInt way, rawInt 0, rawInt 0, rawInt 0, rawInt 0, .bool false, ← newList [], .bool false], []⟩)) := by rfl
  rw [h0]
  refine wpAny_bind (wpAny_specialOf hF callFn ?_)
  dsimp only [Option.isSome]
  rw [if_pos rfl]
  refine wpAny_bind (wpAny_pure ?_)
  try dsimp only
  rw [if_pos rfl]
  refine wpAny_bind (wpAny_pure ?_)
  try dsimp only
  refine wpAny_bind (wpAny_holding (whole_any hp ?_))
  try dsimp only
  rw [if_pos (by rfl)]
  refine wpAny_bind ?_
  unfold reNotHeld
  refine wpAny_bind (wpAny_isInstance (T := "str") (typeIs_str _ _ _) notBa ?_)
  try dsimp only
  rw [if_neg Bool.false_ne_true]
  refine wpAny_pure ?_
  try dsimp only
  refine wpAny_bind (wpAny_newObj_type ?_)
  refine wpAny_pure ⟨plainId_quiet (by decide +kernel) _, ?_⟩
  have hD : s.heap.get? s.heap.objs.size = none := by
    cases e : s.heap.get? s.heap.objs.size with
    | none => rfl
    | some o => exact absurd (Heap.lt_size e) (Nat.lt_irrefl _)
  refine loop_any (gl := s) (h₀ := s.heap) W hp hf hroom hx hy hw (fun h' t tk' k => hq h' t tk' k) hD 20 0 0 false [] _ _ (by decide) hs ⟨[], 0, Heap.get?_push_size _ rfl, .nil⟩ (fun b o e => Heap.get?_push_of_some _ e)
end
end Mine

end

section 
-- text C6
open PySem PySem.W PyProof.Rows PySem.Calls PySem.Builtin.Re
set_option maxRecDepth 100000
set_option maxHeartbeats 4000000
namespace Mine
section
variable {w : World} {A : Around} {E : Value → Shared → Prop} {s : Shared} {mean : ExcName → Option Value} {mg mb : Str → Option Value} {Q : Value → Shared → Prop}
local macro_rules | `(tactic| walk_at "go") => `(tactic| repeat' ((fail_if_success (with_reducible show wpAny _ _ (call (Value.ref _) _) _ _ _)); (fail_if_success (with_reducible show wpAny _ _ (subscriptTail _ _ (Value.ref _) _) _ _ _)); (fail_if_success (with_reducible show wpAny _ _ (newList _) _ _ _)); walk1))
local macro_rules | `(tactic| walk_at "eval Call Name") => `(tactic| ((refine' call_def ?kF ?kW ?kf ?kn ?_); (case kF => assumption); (case kW => assumption); (case kf => assumption); (case kn => assumption)))
local macro_rules | `(tactic| walk_at "Here") => `(tactic| ((refine' And.intro (Exists.intro _ ?kF) ?_); (case kF => assumption)))
local macro_rules | `(tactic| walk_at "eval Name") => `(tactic| ((refine' name_g ?kF ?kW ?kf ?_); (case kF => assumption); (case kW => assumption); (case kf => assumption)))
local macro_rules | `(tactic| walk_at "eval Name") => `(tactic| ((refine' name_b ?kF ?kW ?kf ?_); (case kF => assumption); (case kW => assumption); (case kf => assumption)))
theorem hdec_call {f : Addr} {x r : Str} {tx : Tok} (W : Wd mean mg mb s.heap) (hroom : A.depth + 20 < recursionLimit) (hf : mg "header_decode" = some (.ref f)) (hx : x.length ≤ 300) (hr : hdec x = some r)
    (hq : ∀ h' t tk, (∀ b o, s.heap.get? b = some o → h'.get? b = some o) → Q (.str r tk) { s with heap := h', toks := t }) :
    wpAny (model P w) A (call (.ref f) [.str x tx]) Q E s := by
  obtain ⟨o, pm, cd, doc, h2, h3, h4⟩ := fn_at (i := 24) W 6 (by kernel_rfl) hf
  obtain ⟨um, ou, u1, u2, u3⟩ := W.H.um
  rw [nsMap_is W.T.g] at u1
  obtain ⟨tw, t1, t2⟩ := W.H.tw
  rw [nsMap_is W.T.g] at t1
  refine wpAny_call (call_plain_ret (by omega) h2 h3 W.T.nolimit h4 (binds := [("s", .str x tx)]) (by rfl) (locs (by rfl)) (fun h₁ F => ?_) (by rfl) (by rfl) (by rfl) (by decide))
  unfold hdec at hr
  split at hr
  · cases hr
  rename_i ys hs
  split at hr
  case isFalse => cases hr
  rename_i hyw
  cases hr
  walk_at "go"
  rename_i F'
  refine meth_pat F' t2 slotSub typeSub ?_
  walk_at "go"
  refine sub_any (W.keeps F'.keep) (t2.keeps F'.keep) u1 (F'.keep _ _ u2) u3 (by show A.depth + 1 + 16 < _; omega) hyw.2.2 hs hyw.1 hyw.2.1 (fun h' t tk k => ?_)
  exact hq _ _ _ (F'.keeps k).keep
end
end Mine

end

section 
-- text C7
open PySem PySem.W PyProof.Rows PySem.Calls
set_option maxRecDepth 100000
set_option maxHeartbeats 4000000
namespace Mine
/-- all that the frame has made, as a ledger -/
def allNews (h₀ : Heap) (L : Addr) (h : Heap) : List (Addr × Obj) := (List.range h.objs.size).filterMap fun b => match h.get? b with
  | none => none
  | some o => if b = L then none else match h₀.get? b with
    | some _ => none
    | none => some (b, o)
theorem allNews_is {h₀ h : Heap} {L b : Addr} {o : Obj} : (b, o) ∈ allNews h₀ L h ↔ h.get? b = some o ∧ b ≠ L ∧ h₀.get? b = none := by
  unfold allNews
  rw [List.mem_filterMap]
  constructor
  · rintro ⟨c, hc, e⟩
    cases q : h.get? c with
    | none => rw [q] at e; cases e
    | some o' =>
      rw [q] at e
      dsimp only at e
      split at e
      · cases e
      · rename_i hne
        cases q' : h₀.get? c with
        | some _ => rw [q'] at e; cases e
        | none => rw [q'] at e; cases e; exact ⟨q, hne, q'⟩
  · rintro ⟨e1, e2, e3⟩
    refine ⟨b, List.mem_range.mpr (Heap.lt_size e1), ?_⟩
    rw [e1]
    dsimp only
    rw [if_neg e2, e3]
theorem allNews_news (h₀ : Heap) (L : Addr) (h : Heap) : News h₀ L h (allNews h₀ L h) := fun p hp => by
  obtain ⟨e1, e2, e3⟩ := allNews_is.mp (show (p.1, p.2) ∈ allNews h₀ L h from hp)
  exact ⟨e1, e2, e3⟩
/-- all but L is kept -/
def KB (L : Addr) (h h' : Heap) : Prop := ∀ b o, b ≠ L → h.get? b = some o → h'.get? b = some o
theorem KB.of {h₀ h h' : Heap} {L : Addr} {m m' : Str → Option Value} (F : Fr h₀ L h m) (F' : Fr h₀ L h' m') (N : News h₀ L h' (allNews h₀ L h)) : KB L h h' := fun b o hb e => by
  cases q : h₀.get? b with
  | some o' =>
    have := F.keep _ _ q
    rw [e] at this
    cases this
    exact F'.keep _ _ q
  | none => exact (N (b, o) (allNews_is.mpr ⟨e, hb, q⟩)).1
theorem KB.trans {L : Addr} {h h' h'' : Heap} (x : KB L h h') (y : KB L h' h'') : KB L h h'' := fun b o hb e => y b o hb (x b o hb e)
theorem KB.all {L : Addr} {h h' : Heap} (k : ∀ b o, h.get? b = some o → h'.get? b = some o) : KB L h h' := fun b o _ e => k b o e
section
variable {w : World} {A : Around} {E : Value → Shared → Prop} {s : Shared} {Q : Value → Shared → Prop} {h₀ : Heap} {L : Addr} {m : Str → Option Value} {env : Env}
/-- what one turn of a comprehension gives -/
abbrev TurnEnd (s₁ : Shared) (h : Heap) (G : Value → Prop) (y : Value) (s₂ : Shared) : Prop := ∃ h' tk', s₂ = { s₁ with heap := h', toks := tk' } ∧ (∀ b o, h.get? b = some o → h'.get? b = some o) ∧ G y
abbrev Turns (w : World) (A : Around) (h₀ : Heap) (L : Addr) (m : Str → Option Value) (env : Env) (elt : Expr) (x : Str) (scope : Scope) (cl : List (Str × Addr)) (s₁ : Shared) (n : Nat) (P' : Nat → Value → Prop) (G : Nat → Value → Prop) : Prop :=
  ∀ i v C m₂ h tk (E' : Value → Shared → Prop), i < n → P' i v → h.Ns C m₂ → m₂ x = some v → Fr h₀ L h m → KB L s₁.heap h →
    wpAny (model P w) A (eval elt (compEnvC scope cl C env)) (TurnEnd s₁ h (G i)) E' { s₁ with heap := h, toks := tk }
theorem rest_of {elt : Expr} {x : Str} {scope : Scope} {cl : List (Str × Addr)} {s₁ s₂ : Shared} (hs₂ : ∃ g, s₂ = { s₁ with heap := g }) {S : List (Addr × Obj) → Prop} {n : Nat} {P' G : Nat → Value → Prop} (F₁ : Fr h₀ L s₁.heap m) (hS : S (allNews h₀ L s₁.heap))
    (turn : Turns w A h₀ L m env elt x scope cl s₁ n P' G)
    (fin : ∀ D ys h tk, Fr h₀ L h m → KB L s₁.heap h → h.get? D = some (LCg.lst ys) → s₁.heap.get? D = none → ys.length = n → (∀ i y, ys[i]? = some y → G i y) → Q (.ref D) { s₁ with heap := h, toks := tk }) :
    ∀ (k i : Nat) (ys : List Value), i + k = n → ys.length = i → (∀ j y, ys[j]? = some y → G j y) → LCg.CompRest P w A h₀ L m env elt x scope cl s₂ S P' (LCg.FinE h₀ L m s₂ Q) k i ys (allNews h₀ L s₁.heap)
  | 0, i, ys, hi, hl, hg => by
    obtain ⟨g, rfl⟩ := hs₂
    refine LCg.CompRest.zero fun D h tk F N o1 => ?_
    have ND := N (D, LCg.lst ys) (.head _)
    refine fin D ys h tk F (KB.of F₁ F fun p hp => N p (.tail _ hp)) ND.1 ?_ (by omega) hg
    cases e : s₁.heap.get? D with
    | none => rfl
    | some o =>
      have hm := allNews_is.mpr ⟨e, ND.2.1, ND.2.2⟩
      have key : ∀ {l : List (Addr × Obj)}, LCg.Off1 D l → ∀ p ∈ l, p.1 ≠ D := by
        intro l
        induction l with
        | nil => intro _ p hp; cases hp
        | cons p r ih =>
          intro y p' hp'
          rcases List.mem_cons.mp hp' with rfl | hp'
          · exact y.1
          · exact ih y.2 p' hp'
      exact absurd rfl (key o1 _ hm)
  | k + 1, i, ys, hi, hl, hg => by
    refine LCg.CompRest.succ fun v I oI C oC D m₂ h tk E' hv hC hx F N off ne => ?_
    have hs₂' := hs₂
    obtain ⟨g, rfl⟩ := hs₂
    have NC := N (C, oC) (.tail _ (.head _))
    refine wpAny_mono (turn i v C m₂ h tk E' (by omega) hv (hC.ns NC.1) hx F (KB.of F₁ F fun p hp => N p (.tail _ (.tail _ (.tail _ hp))))) (fun y s₃ hy => ?_) fun _ _ e => e
    obtain ⟨h', tk', rfl, kk, gy⟩ := hy
    refine ⟨h', tk', allNews h₀ L s₁.heap, rfl, F.keeps kk, N.grown kk, off, hS, ?_⟩
    refine rest_of hs₂' F₁ hS turn fin k (i + 1) (ys ++ [y]) (by omega) (by simp [hl]) fun j z hz => ?_
    by_cases hj : j < ys.length
    · rw [List.getElem?_append_left hj] at hz
      exact hg j z hz
    · rw [List.getElem?_append_right (by omega)] at hz
      have : j - ys.length = 0 := by
        cases q : j - ys.length with
        | zero => rfl
        | succ r => rw [q] at hz; simp at hz
      rw [this] at hz
      simp at hz
      have : j = i := by omega
      subst this
      subst hz
      exact gy
theorem comp_list {elt iter : Expr} {x : Str} {px : Pos} {scope : Scope} {cl : List (Str × Addr)} {pos : Pos} (F₀ : Fr h₀ L s.heap m) (hh : A.handled = none)
    (h : wpAny (model P w) A (eval iter env) (fun xv s₁ => ∃ (ax : Addr) (its : Array Value) (k : Nat) (G : Nat → Value → Prop), xv = .ref ax ∧ Fr h₀ L s₁.heap m ∧ s₁.heap.get? ax = some { cls := .type "list", data := .seq its k } ∧ ax ≠ L ∧ h₀.get? ax = none ∧ its.size ≤ sizeLine ∧
      Turns w A h₀ L m env elt x scope cl s₁ its.size (fun i v => its[i]? = some v) G ∧
      (∀ D ys h tk, Fr h₀ L h m → KB L s₁.heap h → h.get? D = some (LCg.lst ys) → s₁.heap.get? D = none → ys.length = its.size → (∀ i y, ys[i]? = some y → G i y) → Q (.ref D) { s₁ with heap := h, toks := tk })) E s)
    (hclos : closureFor scope env = pure cl := by with_unfolding_all rfl) (hcell : ∀ y ∈ scope.names, y.2 ≠ .cell := by decide) (hkind : scope.kind = .function := by rfl)
    (hnames : ∀ y ∈ scope.names, y.2 = .local → scope.names.lookup y.1 = some .local := by decide) (hx : scope.names.lookup x = some .local := by rfl)
    (hs : ∀ x, foldedSetIterable iter env x = pure x := by intro _; rfl) :
    wpAny (model P w) A (eval (.ListComp elt [⟨.Name x px, iter, [], 0⟩] scope pos) env) Q E s := by
  refine LCg.ListComp_U F₀ hclos hcell hkind hnames hx (wpAny_mono h (fun xv s₁ hq => ?_) fun _ _ e => e) hs
  obtain ⟨ax, its, k, G, rfl, F₁, ho, hL, h0, hsz, turn, fin⟩ := hq
  refine LCg.CompSrc.ledger hh F₁ (allNews_news _ _ _) (allNews_is.mpr ⟨ho, hL, h0⟩) hsz fun g => ?_
  exact rest_of ⟨g, rfl⟩ F₁ (.inr ⟨_, allNews_is.mpr ⟨ho, hL, h0⟩, rfl, k, rfl⟩) turn fin its.size 0 [] (by omega) rfl (fun j y hy => by simp at hy)
theorem comp_range {elt iter : Expr} {x : Str} {px : Pos} {scope : Scope} {cl : List (Str × Addr)} {pos : Pos} (F₀ : Fr h₀ L s.heap m) (hh : A.handled = none)
    (h : wpAny (model P w) A (eval iter env) (fun xv s₁ => ∃ (r : Addr) (b : Nat) (t u v : Tok) (G : Nat → Value → Prop), xv = .ref r ∧ Fr h₀ L s₁.heap m ∧ IsRange s₁.heap r 0 b 1 t u v ∧ b ≤ 1000 ∧
      Turns w A h₀ L m env elt x scope cl s₁ b (fun i v => ∃ t, v = .int i t) G ∧
      (∀ D ys h tk, Fr h₀ L h m → KB L s₁.heap h → h.get? D = some (LCg.lst ys) → s₁.heap.get? D = none → ys.length = b → (∀ i y, ys[i]? = some y → G i y) → Q (.ref D) { s₁ with heap := h, toks := tk })) E s)
    (hclos : closureFor scope env = pure cl := by with_unfolding_all rfl) (hcell : ∀ y ∈ scope.names, y.2 ≠ .cell := by decide) (hkind : scope.kind = .function := by rfl)
    (hnames : ∀ y ∈ scope.names, y.2 = .local → scope.names.lookup y.1 = some .local := by decide) (hx : scope.names.lookup x = some .local := by rfl)
    (hs : ∀ x, foldedSetIterable iter env x = pure x := by intro _; rfl) :
    wpAny (model P w) A (eval (.ListComp elt [⟨.Name x px, iter, [], 0⟩] scope pos) env) Q E s := by
  refine LCg.ListComp_U F₀ hclos hcell hkind hnames hx (wpAny_mono h (fun xv s₁ hq => ?_) fun _ _ e => e) hs
  obtain ⟨r, b, t, u, v, G, rfl, F₁, hr, hb, turn, fin⟩ := hq
  refine LCg.CompSrc.range hh F₁ (allNews_news _ _ _) hr ?_ (n := b) ?_ (by rw [sizeLine_eq]; omega) fun g => ?_
  · exact small_one (by omega) (by omega) (by omega) (by omega)
  · rw [rangeSize_pos (by decide) (by omega)]
    omega
  · exact rest_of ⟨g, rfl⟩ F₁ trivial (fun i v C m₂ h tk E' hi hv => turn i v C m₂ h tk E' hi (by obtain ⟨t, rfl⟩ := hv; exact ⟨t, by rw [Int.zero_add]⟩)) fin b 0 [] (by omega) rfl (fun j y hy => by simp at hy)
end
end Mine

end

section 
-- text C8
open PySem PySem.W PyProof.Rows PySem.Calls
set_option maxRecDepth 100000
set_option maxHeartbeats 4000000
namespace Mine
section
variable {w : World} {A : Around} {E : Value → Shared → Prop} {s : Shared} {mean : ExcName → Option Value} {mg mb : Str → Option Value} {Q : Value → Shared → Prop} {h₀ : Heap} {L : Addr} {m : Str → Option Value} {env : Env}
/-- a tuple's object -/
abbrev tob (vs : List Value) (n : Nat) : Obj := { cls := .type "tuple", data := .seq vs.toArray n }
theorem newTup_any {vs : List Value} (hv : vs.length ≤ 1000) (hq : ∀ T h', (∀ b o, s.heap.get? b = some o → h'.get? b = some o) → s.heap.get? T = none → h'.get? T = some (tob vs 0) → Q (.ref T) { s with heap := h' }) : wpAny (model P w) A (newTuple vs) Q E s := by
  refine wpAny_newObj_type (hq _ _ (fun b o e => Heap.get?_push_of_some _ e) ?_ (Heap.get?_push_size _ rfl)) (by show vs.toArray.size ≤ sizeLine; rw [List.size_toArray, sizeLine_eq]; omega)
  cases e : s.heap.get? s.heap.objs.size with
  | none => rfl
  | some o => exact absurd (Heap.lt_size e) (Nat.lt_irrefl _)
/-- each of some expressions gives what is said of it, and keeps all -/
structure Each (w : World) (A : Around) (E : Value → Shared → Prop) (env : Env) (e : Expr) (G : Heap → Heap → Value → Prop) : Prop where
  use : ∀ (s : Shared) (Q : Value → Shared → Prop), (∀ v h' t, (∀ b o, s.heap.get? b = some o → h'.get? b = some o) → G s.heap h' v → Q v { s with heap := h', toks := t }) → wpAny (model P w) A (eval e env) Q E s
inductive Eachs (w : World) (A : Around) (E : Value → Shared → Prop) (env : Env) : List Expr → List (Heap → Heap → Value → Prop) → Prop
  | nil : Eachs w A E env [] []
  | cons {e es G Gs} : Each w A E env e G → starEach (e :: es) env = (false, eval e env) :: starEach es env → Eachs w A E env es Gs → Eachs w A E env (e :: es) (G :: Gs)
/-- stays when the heap grows, at both ends -/
def Stays (G : Heap → Heap → Value → Prop) : Prop := ∀ g g' h h' v, (∀ b o, g'.get? b = some o → g.get? b = some o) → (∀ b o, h.get? b = some o → h'.get? b = some o) → G g h v → G g' h' v
/-- the items are as said -/
def AllAt (g h : Heap) : List (Heap → Heap → Value → Prop) → List Value → Prop
  | [], [] => True
  | G :: Gs, v :: vs => G g h v ∧ AllAt g h Gs vs
  | _, _ => False
theorem AllAt.stays {g g' h h' : Heap} (kg : ∀ b o, g'.get? b = some o → g.get? b = some o) (kh : ∀ b o, h.get? b = some o → h'.get? b = some o) : ∀ {Gs : List (Heap → Heap → Value → Prop)} {vs : List Value}, (∀ G ∈ Gs, Stays G) → AllAt g h Gs vs → AllAt g' h' Gs vs
  | [], [], _, _ => trivial
  | G :: _, _ :: _, st, x => ⟨st G (.head _) _ _ _ _ _ kg kh x.1, AllAt.stays kg kh (fun G hG => st G (.tail _ hG)) x.2⟩
  | [], _ :: _, _, x => x.elim
  | _ :: _, [], _, x => x.elim
theorem AllAt.len {g h : Heap} : ∀ {Gs : List (Heap → Heap → Value → Prop)} {vs : List Value}, AllAt g h Gs vs → Gs.length = vs.length
  | [], [], _ => rfl
  | _ :: _, _ :: _, x => by simp [AllAt.len x.2]
  | [], _ :: _, x => x.elim
  | _ :: _, [], x => x.elim
theorem eachs_any {pos : Pos} : ∀ {es : List Expr} {Gs : List (Heap → Heap → Value → Prop)}, Eachs w A E env es Gs → (∀ G ∈ Gs, Stays G) → ∀ (s : Shared) (Q : List Value → Shared → Prop),
    (∀ vs h' t, (∀ b o, s.heap.get? b = some o → h'.get? b = some o) → AllAt s.heap h' Gs vs → Q vs { s with heap := h', toks := t }) → wpAny (model P w) A (spliced (backTo pos (starEach es env))) Q E s
  | _, _, .nil, _, s, Q, hq => args_nil (hq [] _ _ (fun _ _ e => e) trivial)
  | _, _, .cons (G := G) (Gs := Gs) e1 he r, st, s, Q, hq => by
    refine args_cons (e1.use s _ fun v h1 t1 k1 g1 => ?_) he
    refine eachs_any r (fun G hG => st G (.tail _ hG)) _ _ fun vs h2 t2 k2 g2 => ?_
    exact hq (v :: vs) h2 t2 (fun b o e => k2 _ _ (k1 _ _ e)) ⟨st G (.head _) _ _ _ _ _ (fun _ _ e => e) k2 g1, AllAt.stays k1 (fun _ _ e => e) (fun G hG => st G (.tail _ hG)) g2⟩
theorem str_each {x : Str} {k : Nat} {pos : Pos} : Each w A E env (.Constant (.str x) k pos) (fun _ _ v => ∃ t, v = .str x t) := ⟨fun s Q hq =>
  wpAny_Constant_str (hq _ _ _ (fun _ _ e => e) ⟨_, rfl⟩)⟩
/-- a made tuple whose items are as said -/
def TupG (Gs : List (Heap → Heap → Value → Prop)) : Heap → Heap → Value → Prop := fun g h v => ∃ T vs n, v = .ref T ∧ g.get? T = none ∧ h.get? T = some (tob vs n) ∧ AllAt g h Gs vs
theorem TupG.stays {Gs : List (Heap → Heap → Value → Prop)} (st : ∀ G ∈ Gs, Stays G) : Stays (TupG Gs) := fun g g' h h' v kg kh ⟨T, vs, n, e1, e2, e3, e4⟩ => by
  refine ⟨T, vs, n, e1, ?_, kh _ _ e3, ?_⟩
  · cases q : g'.get? T with
    | none => rfl
    | some o => have := kg _ _ q; rw [e2] at this; cases this
  · exact AllAt.stays kg kh st e4
theorem tup_each {es : List Expr} {Gs : List (Heap → Heap → Value → Prop)} {k : Nat} {pos : Pos} (x : Eachs w A E env es Gs) (st : ∀ G ∈ Gs, Stays G) (hl : Gs.length ≤ 1000) : Each w A E env (.Tuple es k pos) (TupG Gs) := ⟨fun s Q hq => by
  refine Tuple_ (eachs_any x st _ _ fun vs h1 t1 k1 g1 => ?_)
  refine newTup_any (by rw [← g1.len]; exact hl) fun T h2 k2 e1 e2 => ?_
  refine hq (.ref T) h2 t1 (fun b o e => k2 _ _ (k1 _ _ e)) ⟨T, vs, 0, rfl, ?_, e2, ?_⟩
  · cases q : s.heap.get? T with
    | none => rfl
    | some o => have := k1 _ _ q; rw [e1] at this; cases this
  · exact AllAt.stays (fun _ _ e => e) k2 st g1⟩
theorem sum_any {l : Addr} {vs : List Value} {ns : List Int} (hh : A.handled = none) (hl : s.heap.IsList l vs.toArray) (hi : IntsAre vs ns)
    (h : ∀ h' tk t', (∀ b o, s.heap.get? b = some o → h'.get? b = some o) → Q (.int ns.sum t') { s with heap := h', toks := tk }) : wpAny (model P w) A (call (.builtin "sum") [.ref l]) Q E s := by
  obtain ⟨xs, hx⟩ := hi.allInts.items
  have hl' : s.heap.IsList l (intItems xs) := hx ▸ hl
  refine sum_intListG hh hl' fun h' tk t' hk => ?_
  have e1 : ns = xs.toList.map (·.1) := by
    rw [← nums_intItems, ← hx]
    exact (show numsOf vs.toArray.toList = ns from hi.numsOf).symm
  have e2 : preSum (numAt xs) xs.size = ns.sum := by
    rw [preSum_eq, List.take_of_length_le (by simp), e1]
  rw [e2]
  exact h h' tk t' hk
end
end Mine

end

section 
-- text C9
open PySem PySem.W PyProof.Rows PySem.Calls
set_option maxRecDepth 100000
set_option maxHeartbeats 4000000
namespace Mine
section
variable {w : World} {A : Around} {E : Value → Shared → Prop} {s : Shared} {mean : ExcName → Option Value} {mg mb : Str → Option Value} {Q : Value → Shared → Prop} {h₀ : Heap} {L : Addr} {m : Str → Option Value} {env : Env}
local macro_rules | `(tactic| walk_at "a pad that is never asked") => `(tactic| skip)
local macro_rules | `(tactic| walk_at "go") => `(tactic| repeat' ((fail_if_success (with_reducible show wpAny _ _ (call (Value.ref _) _) _ _ _)); (fail_if_success (with_reducible show wpAny _ _ (subscriptTail _ _ (Value.ref _) _) _ _ _)); (fail_if_success (with_reducible show wpAny _ _ (newList _) _ _ _)); walk1))
theorem st_c {M : Model} {x : Str} {c : Addr} {v : Value} {v₀ : Option Value} {Q : Unit → Shared → Prop} (hv : s.heap.IsCell c v₀) (h : ∀ h', h'.IsCell c (some v) → (∀ b o, b ≠ c → s.heap.get? b = some o → h'.get? b = some o) → Q () { s with heap := h' })
    (hk : env.scope.kind = .function := by rfl) (hl : env.kindOf x = some .cell := by rfl) (hc : env.cells.lookup x = some c := by rfl) : wpAny M A (storeName env x v) Q E s :=
  wpAny_storeName_cell hk hl hc hv fun h' hv hs => h h' hv fun b o hb e => (hs.2 b hb).trans e
theorem st_l {M : Model} {x : Str} {v : Value} {Q : Unit → Shared → Prop} (F : Fr h₀ env.locals s.heap m) (h : ∀ h', Fr h₀ env.locals h' (fun y => if y = x then some v else m y) → KB env.locals s.heap h' → Q () { s with heap := h', toks := s.toks + 1 })
    (hk : env.scope.kind = .function := by rfl) (hl : env.kindOf x = some .local := by rfl) : wpAny M A (storeName env x v) Q E s :=
  wpAny_storeName_local hl F.ns (fun h' hn hs => h h' (F.set hn hs) fun b o hb e => (hs.2 b hb).trans e) (by rw [hk]; rfl)
theorem name_c {M : Model} {x : Str} {pos : Pos} {c : Addr} {v : Value} (hv : s.heap.IsCell c (some v)) (h : Q v s)
    (hk : env.scope.kind = .function := by rfl) (hl : env.kindOf x = some .cell := by rfl) (hc : env.cells.lookup x = some c := by rfl) (hd : (x == ("__debug__" : Str)) = false := by decide) : wpAny M A (eval (.Name x pos) env) Q E s :=
  wpAny_Name (wpAny_loadName_cell hk hl hc hv h) hd
theorem name_l {M : Model} {x : Str} {pos : Pos} {v : Value} {m : Str → Option Value} (hn : s.heap.Ns env.locals m) (hv : m x = some v) (h : Q v s)
    (hk : env.scope.kind = .function := by rfl) (hl : env.kindOf x = some .local := by rfl) (hd : (x == ("__debug__" : Str)) = false := by decide) : wpAny M A (eval (.Name x pos) env) Q E s :=
  wpAny_Name (wpAny_loadName_local hk hl hn hv h) hd
theorem Fr.but {h h' : Heap} {c : Addr} (F : Fr h₀ L h m) (k : ∀ b o, b ≠ c → h.get? b = some o → h'.get? b = some o) (hc : L ≠ c) (h0 : h₀.get? c = none) : Fr h₀ L h' m := by
  refine ⟨F.ns.at' fun o e => k _ _ hc e, fun b o e => k _ _ (fun q => by rw [q, h0] at e; cases e) (F.keep _ _ e), F.above⟩
theorem cell_kb {h h' : Heap} {c : Addr} {v : Option Value} (x : h.IsCell c v) (hc : c ≠ L) (k : KB L h h') : h'.IsCell c v := by
  obtain ⟨o, e, r⟩ := x
  exact ⟨o, k _ _ hc e, r⟩
theorem cell_keeps {h h' : Heap} {c : Addr} {v : Option Value} (x : h.IsCell c v) (k : ∀ b o, h.get? b = some o → h'.get? b = some o) : h'.IsCell c v := by
  obtain ⟨o, e, r⟩ := x
  exact ⟨o, k _ _ e, r⟩
theorem cell_but {h h' : Heap} {c c' : Addr} {v : Option Value} (x : h.IsCell c v) (k : ∀ b o, b ≠ c' → h.get? b = some o → h'.get? b = some o) (hc : c ≠ c') : h'.IsCell c v := by
  obtain ⟨o, e, r⟩ := x
  exact ⟨o, k _ _ hc e, r⟩
/-- the law's tables -/
def tabs : List (List (Str × Str)) := [[("a", "a"), ("=61", "a"), ("W", "W")], [("b7", "b7"), ("B", "B"), ("3", "3")], [("d-e", "d-e"), ("5", "5"), ("=64", "d")],
  [("com", "com"), ("local", "local"), ("7", "7"), ("=6Cocal", "local"), ("=37", "7"), ("LOCAL", "LOCAL")]]
def strG (x : Str) : Heap → Heap → Value → Prop := fun _ _ v => ∃ t, v = .str x t
@[irreducible] def pairG (ab : Str × Str) : Heap → Heap → Value → Prop := TupG [strG ab.1, strG ab.2]
@[irreducible] def rowG (l : List (Str × Str)) : Heap → Heap → Value → Prop := TupG (l.map pairG)
@[irreducible] def tabG (t : List (List (Str × Str))) : Heap → Heap → Value → Prop := TupG (t.map rowG)
theorem strG.stays (x : Str) : Stays (strG x) := fun _ _ _ _ _ _ _ e => e
theorem pairG.stays (ab : Str × Str) : Stays (pairG ab) := by
  unfold pairG
  refine TupG.stays fun G hG => ?_
  rcases List.mem_cons.mp hG with rfl | hG
  · exact strG.stays _
  · rcases List.mem_cons.mp hG with rfl | hG
    · exact strG.stays _
    · cases hG
theorem rowG.stays (l : List (Str × Str)) : Stays (rowG l) := by
  unfold rowG
  refine TupG.stays fun G hG => ?_
  obtain ⟨ab, _, rfl⟩ := List.mem_map.mp hG
  exact pairG.stays ab
theorem tabG.stays (t : List (List (Str × Str))) : Stays (tabG t) := by
  unfold tabG
  refine TupG.stays fun G hG => ?_
  obtain ⟨ab, _, rfl⟩ := List.mem_map.mp hG
  exact rowG.stays ab
theorem str_each' {x : Str} {k : Nat} {pos : Pos} : Each w A E env (.Constant (.str x) k pos) (strG x) := str_each
theorem star_tup (es' : List Expr) (k : Nat) (pos : Pos) (es : List Expr) (env : Env) : starEach (.Tuple es' k pos :: es) env = (false, eval (.Tuple es' k pos) env) :: starEach es env := rfl
theorem star_con (c : Const) (k : Nat) (pos : Pos) (es : List Expr) (env : Env) : starEach (.Constant c k pos :: es) env = (false, eval (.Constant c k pos) env) :: starEach es env := rfl
theorem pair_each {a b : Str} {k k1 k2 : Nat} {pos p1 p2 : Pos} : Each w A E env (.Tuple [.Constant (.str a) k1 p1, .Constant (.str b) k2 p2] k pos) (pairG (a, b)) := by
  unfold pairG
  exact tup_each (.cons str_each' (star_con _ _ _ _ _) (.cons str_each' (star_con _ _ _ _ _) .nil)) (fun G hG => by
    rcases List.mem_cons.mp hG with rfl | hG
    · exact strG.stays _
    · rcases List.mem_cons.mp hG with rfl | hG
      · exact strG.stays _
      · cases hG) (by simp)
theorem row_each {es : List Expr} {l : List (Str × Str)} {k : Nat} {pos : Pos} (x : Eachs w A E env es (l.map pairG)) (hl : l.length ≤ 1000) : Each w A E env (.Tuple es k pos) (rowG l) := by
  unfold rowG
  exact tup_each x (fun G hG => by obtain ⟨ab, _, rfl⟩ := List.mem_map.mp hG; exact pairG.stays ab) (by simpa using hl)
theorem tab_each {es : List Expr} {l : List (List (Str × Str))} {k : Nat} {pos : Pos} (x : Eachs w A E env es (l.map rowG)) (hl : l.length ≤ 1000) : Each w A E env (.Tuple es k pos) (tabG l) := by
  unfold tabG
  exact tup_each x (fun G hG => by obtain ⟨ab, _, rfl⟩ := List.mem_map.mp hG; exact rowG.stays ab) (by simpa using hl)
theorem eachs_pair {a b : Str} {k k1 k2 : Nat} {pos p1 p2 : Pos} {es : List Expr} {l : List (Str × Str)} (x : Eachs w A E env es (l.map pairG)) : Eachs w A E env (.Tuple [.Constant (.str a) k1 p1, .Constant (.str b) k2 p2] k pos :: es) (((a, b) :: l).map pairG) := .cons pair_each (star_tup _ _ _ _ _) x
theorem eachs_row {e : List Expr} {k : Nat} {pos : Pos} {es : List Expr} {l : List (Str × Str)} {ls : List (List (Str × Str))} (y : Each w A E env (.Tuple e k pos) (rowG l)) (x : Eachs w A E env es (ls.map rowG)) : Eachs w A E env (.Tuple e k pos :: es) ((l :: ls).map rowG) := .cons y (star_tup _ _ _ _ _) x
theorem row3_each {a1 b1 a2 b2 a3 b3 : Str} {k k1 k2 k3 k4 k5 k6 k7 k8 k9 : Nat} {pos p1 p2 p3 p4 p5 p6 p7 p8 p9 : Pos} :
    Each w A E env (.Tuple [.Tuple [.Constant (.str a1) k1 p1, .Constant (.str b1) k2 p2] k3 p3, .Tuple [.Constant (.str a2) k4 p4, .Constant (.str b2) k5 p5] k6 p6, .Tuple [.Constant (.str a3) k7 p7, .Constant (.str b3) k8 p8] k9 p9] k pos) (rowG [(a1, b1), (a2, b2), (a3, b3)]) := by
  refine row_each (l := [(a1, b1), (a2, b2), (a3, b3)]) ?_ ?hl
  case hl => simp
  refine eachs_pair (l := [(a2, b2), (a3, b3)]) ?_
  refine eachs_pair (l := [(a3, b3)]) ?_
  refine eachs_pair (l := []) ?_
  exact .nil
theorem row6_each {a1 b1 a2 b2 a3 b3 a4 b4 a5 b5 a6 b6 : Str} {k k1 k2 k3 k4 k5 k6 k7 k8 k9 l1 l2 l3 l4 l5 l6 l7 l8 l9 : Nat} {pos p1 p2 p3 p4 p5 p6 p7 p8 p9 q1 q2 q3 q4 q5 q6 q7 q8 q9 : Pos} :
    Each w A E env (.Tuple [.Tuple [.Constant (.str a1) k1 p1, .Constant (.str b1) k2 p2] k3 p3, .Tuple [.Constant (.str a2) k4 p4, .Constant (.str b2) k5 p5] k6 p6, .Tuple [.Constant (.str a3) k7 p7, .Constant (.str b3) k8 p8] k9 p9,
      .Tuple [.Constant (.str a4) l1 q1, .Constant (.str b4) l2 q2] l3 q3, .Tuple [.Constant (.str a5) l4 q4, .Constant (.str b5) l5 q5] l6 q6, .Tuple [.Constant (.str a6) l7 q7, .Constant (.str b6) l8 q8] l9 q9] k pos)
      (rowG [(a1, b1), (a2, b2), (a3, b3), (a4, b4), (a5, b5), (a6, b6)]) := by
  refine row_each (l := [(a1, b1), (a2, b2), (a3, b3), (a4, b4), (a5, b5), (a6, b6)]) ?_ ?hl
  case hl => simp
  refine eachs_pair (l := [(a2, b2), (a3, b3), (a4, b4), (a5, b5), (a6, b6)]) ?_
  refine eachs_pair (l := [(a3, b3), (a4, b4), (a5, b5), (a6, b6)]) ?_
  refine eachs_pair (l := [(a4, b4), (a5, b5), (a6, b6)]) ?_
  refine eachs_pair (l := [(a5, b5), (a6, b6)]) ?_
  refine eachs_pair (l := [(a6, b6)]) ?_
  refine eachs_pair (l := []) ?_
  exact .nil
theorem tab4_each {e1 e2 e3 e4 : List Expr} {l1 l2 l3 l4 : List (Str × Str)} {k k1 k2 k3 k4 : Nat} {pos p1 p2 p3 p4 : Pos} (x1 : Each w A E env (.Tuple e1 k1 p1) (rowG l1)) (x2 : Each w A E env (.Tuple e2 k2 p2) (rowG l2)) (x3 : Each w A E env (.Tuple e3 k3 p3) (rowG l3)) (x4 : Each w A E env (.Tuple e4 k4 p4) (rowG l4)) :
    Each w A E env (.Tuple [.Tuple e1 k1 p1, .Tuple e2 k2 p2, .Tuple e3 k3 p3, .Tuple e4 k4 p4] k pos) (tabG [l1, l2, l3, l4]) := by
  refine tab_each (l := [l1, l2, l3, l4]) ?_ ?hl
  case hl => simp
  refine eachs_row (ls := [l2, l3, l4]) x1 ?_
  refine eachs_row (ls := [l3, l4]) x2 ?_
  refine eachs_row (ls := [l4]) x3 ?_
  refine eachs_row (ls := []) x4 ?_
  exact .nil
theorem tabs_use {es : List Expr} {k : Nat} {pos : Pos} (hq : ∀ v h' t, (∀ b o, s.heap.get? b = some o → h'.get? b = some o) → tabG tabs s.heap h' v → Q v { s with heap := h', toks := t }) (x : Each w A E env (.Tuple es k pos) (tabG tabs)) : wpAny (model P w) A (eval (.Tuple es k pos) env) Q E s := x.use s Q hq
theorem AllAt.get {g h : Heap} : ∀ {Gs : List (Heap → Heap → Value → Prop)} {vs : List Value}, AllAt g h Gs vs → ∀ (i : Nat) (G : Heap → Heap → Value → Prop), Gs[i]? = some G → ∃ v, vs[i]? = some v ∧ G g h v
  | [], [], _, _, _, e => by simp at e
  | G :: _, v :: _, x, 0, _, e => by cases e; exact ⟨v, rfl, x.1⟩
  | _ :: _, _ :: _, x, i + 1, G, e => x.2.get i G e
  | [], _ :: _, x, _, _, _ => x.elim
  | _ :: _, [], x, _, _, _ => x.elim
/-- a pair of texts -/
def PairAt (g h : Heap) (v : Value) (ab : Str × Str) : Prop := ∃ b t t' n, v = .ref b ∧ g.get? b = none ∧ h.get? b = some (tob [.str ab.1 t, .str ab.2 t'] n)
theorem pair_at {g h : Heap} {v : Value} {ab : Str × Str} (x : pairG ab g h v) : PairAt g h v ab := by
  unfold pairG at x
  obtain ⟨T, vs, n, e1, e2, e3, e4⟩ := x
  match vs, e4, e3 with
  | [v1, v2], e4, e3 =>
    obtain ⟨⟨t, rfl⟩, ⟨t', rfl⟩, _⟩ := e4
    exact ⟨T, t, t', n, e1, e2, e3⟩
  | [], e4, _ => exact e4.elim
  | [_], e4, _ => exact e4.2.elim
  | _ :: _ :: _ :: _, e4, _ => exact e4.2.2.elim
/-- the tables, as they lie -/
def TabAt' (g h : Heap) (v : Value) : Prop := ∃ (T : Addr) (vs : List Value) (n : Nat), v = .ref T ∧ g.get? T = none ∧ h.get? T = some (tob vs n) ∧ vs.length = 4 ∧ ∀ (i : Nat) (row : List (Str × Str)), tabs[i]? = some row → ∃ (R : Addr) (rvs : List Value) (rn : Nat), vs[i]? = some (Value.ref R) ∧ g.get? R = none ∧ h.get? R = some (tob rvs rn) ∧ rvs.length = row.length ∧ ∀ (j : Nat) (ab : Str × Str), row[j]? = some ab → ∃ p, rvs[j]? = some p ∧ PairAt g h p ab
theorem tab_at {g h : Heap} {v : Value} (x : tabG tabs g h v) : TabAt' g h v := by
  unfold tabG at x
  obtain ⟨T, vs, n, e1, e2, e3, e4⟩ := x
  refine ⟨T, vs, n, e1, e2, e3, by rw [← e4.len]; rfl, fun i row hi => ?_⟩
  obtain ⟨rv, hr, gr⟩ := e4.get i (rowG row) (by rw [List.getElem?_map, hi]; rfl)
  unfold rowG at gr
  obtain ⟨R, rvs, rn, f1, f2, f3, f4⟩ := gr
  refine ⟨R, rvs, rn, by rw [hr, f1], f2, f3, by rw [← f4.len]; simp, fun j ab hj => ?_⟩
  obtain ⟨p, hp, gp⟩ := f4.get j (pairG ab) (by rw [List.getElem?_map, hj]; rfl)
  exact ⟨p, hp, pair_at gp⟩
local macro_rules | `(tactic| walk_at "eval Name") => `(tactic| ((refine' name_g ?kF ?kW ?kf ?_); (case kF => assumption); (case kW => assumption); (case kf => assumption)))
local macro_rules | `(tactic| walk_at "eval Name") => `(tactic| ((refine' name_b ?kF ?kW ?kf ?_); (case kF => assumption); (case kW => assumption); (case kf => assumption)))
local macro_rules | `(tactic| walk_at "eval Name") => `(tactic| ((refine' name_c ?kf ?_); (case kf => assumption)))
local macro_rules | `(tactic| walk_at "eval Name") => `(tactic| ((refine' name_l ?kn ?kf ?_); (case kn => assumption); (case kf => assumption)))
theorem tabs_row : ∀ i, i < 4 → ∃ row, tabs[i]? = some row ∧ 0 < row.length ∧ row.length ≤ 6
  | 0, _ => ⟨_, rfl, by decide, by decide⟩
  | 1, _ => ⟨_, rfl, by decide, by decide⟩
  | 2, _ => ⟨_, rfl, by decide, by decide⟩
  | 3, _ => ⟨_, rfl, by decide, by decide⟩
  | n + 4, h => by omega
theorem idx_at {i n : Nat} (h : i < n) : seqIndex? (i : Int) n = some i := by
  unfold seqIndex?
  simp
  omega
theorem cut_any {value slice : PySem.Expr} {l : Addr} {items : Array Value} {vl vu vk : Value} {lo hi st : Option Int} {ops : List Value} (hl : s.heap.IsList l items) (pl : IsPart vl lo) (pu : IsPart vu hi) (pk : IsPart vk st) (h0 : st ≠ some 0) (hsz : items.size ≤ sizeLine)
    (h : ∀ h' D, (∀ b o, s.heap.get? b = some o → h'.get? b = some o) → h'.IsList D (slicePick items lo hi st) → Q (.ref D) { s with heap := h' })
    (hs : subscripted slice false (.ref l) (.ref s.heap.objs.size) = operate ops (getItem (.ref l) (.ref s.heap.objs.size)) := by with_unfolding_all rfl)
    (ht : ∀ r, letTemporaryGo value (.ref l) r = pure () := by intro _; with_unfolding_all rfl) :
    wpAny (model P w) A (subscriptTail value slice (.ref l) (.ref s.heap.objs.size)) Q E { s with heap := s.heap.push { cls := .type "slice", data := .fields #[vl, vu, vk] } } := by
  refine subscriptTail_ops (Heap.IsList.typeIs (s := { s with heap := s.heap.push { cls := .type "slice", data := .fields #[vl, vu, vk] } }) (hl.push _)) list_getitem_lookup
    (wpAny_getItem_list_slice (hl.push _) (Heap.IsSliceOf.new ..) pl pu pk h0 ?_ hsz) hs ht
  exact h _ _ (fun b o e => Heap.get?_push_of_some _ (Heap.get?_push_of_some _ e)) ⟨_, Heap.get?_push_size _ rfl, rfl, _, rfl⟩
/-- one of the k-th table's pairs -/
def InTab (k : Nat) (ab : Str × Str) : Prop := ∃ (row : List (Str × Str)) (j : Nat), tabs[k]? = some row ∧ row[j]? = some ab
/-- the list of the labels, new since g -/
def LabelsAt (g h : Heap) (l : Addr) (abs : List (Str × Str)) : Prop := ∃ ys, g.get? l = none ∧ h.get? l = some (LCg.lst ys) ∧ ys.length = abs.length ∧ ∀ (i : Nat) (ab : Str × Str), abs[i]? = some ab → ∃ y, ys[i]? = some y ∧ PairAt g h y ab
theorem labels_call {f a : Addr} {vs : List Value} {ns : List Int} (W : Wd mean mg mb s.heap) (hh : A.handled = none) (hroom : A.depth + 12 < recursionLimit) (hf : mg "_law_labels" = some (.ref f)) (hl : s.heap.IsList a vs.toArray) (hi' : IntsAre vs ns) (hn : ns.length ≤ 1048576)
    (hq : ∀ h' t l ab0 ab1 ab2 ab3, (∀ b o, s.heap.get? b = some o → h'.get? b = some o) → InTab 0 ab0 → InTab 1 ab1 → InTab 2 ab2 → InTab 3 ab3 → LabelsAt s.heap h' l [ab0, ab1, ab2, ab3] → Q (.ref l) { s with heap := h', toks := t }) :
    wpAny (model P w) A (call (.ref f) [.ref a]) Q E s := by
  obtain ⟨o, pm, cd, doc, h2, h3, h4⟩ := fn_at (i := 26) W 7 (by kernel_rfl) hf
  have B1 := bt_range W
  have B2 := bt_sum W
  have B3 := bt_len W
  refine wpAny_call (call_cells_ret (by omega) h2 h3 W.T.nolimit h4 (binds := [("script", .ref a)]) (by rfl) ?_ (fun h₁ tk F X => ?_) (by rfl) (by rfl) (by rfl))
  · intro x hx
    rcases List.mem_cons.mp hx with rfl | hx
    · exact .inr ⟨rfl, rfl⟩
    · cases hx
  have c1 : h₁.IsCell (s.heap.objs.size + 1) (some (.ref a)) := X.cell "script" _ rfl
  have c2 : h₁.IsCell (s.heap.objs.size + 2) none := X.cell "tables" _ rfl
  refine wpAny_execs_cons ?_
  refine wpAny_Assign_Name ?_ 
  refine tabs_use ?_ ?x
  case x =>
    unfold tabs
    refine tab4_each ?_ ?_ ?_ ?_
    · exact row3_each (a1 := "a") (b1 := "a") (a2 := "=61") (b2 := "a") (a3 := "W") (b3 := "W")
    · exact row3_each (a1 := "b7") (b1 := "b7") (a2 := "B") (b2 := "B") (a3 := "3") (b3 := "3")
    · exact row3_each (a1 := "d-e") (b1 := "d-e") (a2 := "5") (b2 := "5") (a3 := "=64") (b3 := "d")
    · exact row6_each (a1 := "com") (b1 := "com") (a2 := "local") (b2 := "local") (a3 := "7") (b3 := "7") (a4 := "=6Cocal") (b4 := "local") (a5 := "=37") (b5 := "7") (a6 := "LOCAL") (b6 := "LOCAL")
  intro v h' t k g
  refine st_c (cell_keeps c2 k) (fun h'' c2' k2 => ?_)
  have hsz : s.heap.get? (s.heap.objs.size + 2) = none := Heap.get?_none_of_le (Nat.le_add_right _ _)
  have F2 := Fr.but (F.keeps k) k2 (Nat.ne_of_lt (Nat.lt_add_of_pos_right (by decide))) hsz
  have c1' := cell_but (cell_keeps c1 k) k2 (Nat.ne_of_lt (Nat.lt_succ_self _))
  refine wpAny_execs_cons (wpAny_Return_some ?_)
  refine comp_range F2 hh ?_
  walk_at "go"
  refine call_range_1 ?_
  obtain ⟨T, tvs, tn, rfl, e2, e3, e4, rows⟩ := tab_at g
  refine ⟨_, 4, _, _, _, fun i y => ∃ (row : List (Str × Str)) (j : Nat) (ab : Str × Str), tabs[i]? = some row ∧ row[j]? = some ab ∧ PairAt h₁ h' y ab, rfl, F2.push _, IsRange.new _ _ _ _ _ _ _, by decide, ?_, ?_⟩
  · intro i v C m₂ h3 tk3 E' hi hv nC mC F3 kb3
    obtain ⟨t3, rfl⟩ := hv
    have d1 : h3.IsCell (s.heap.objs.size + 1) (some (.ref a)) := cell_kb (cell_keeps c1' (fun b o e => Heap.get?_push_of_some _ e)) (Nat.ne_of_gt (Nat.lt_succ_self _)) kb3
    have d2 : h3.IsCell (s.heap.objs.size + 2) (some (.ref T)) := cell_kb (cell_keeps c2' (fun b o e => Heap.get?_push_of_some _ e)) (Nat.ne_of_gt (Nat.lt_add_of_pos_right (by decide))) kb3
    obtain ⟨row, hrow, hr0, hr6⟩ := tabs_row i hi
    obtain ⟨R, rvs, rn, v1, r1, r2, r3, r4⟩ := rows i row hrow
    have tr : ∀ b o, h₁.get? b = none → h'.get? b = some o → h3.get? b = some o := fun b o q e => by
      refine kb3 b o (fun z => ?_) (Heap.get?_push_of_some _ (k2 b o (fun z => ?_) e))
      · obtain ⟨_, _, _, z', _⟩ := F.ns
        rw [z, z'] at q; cases q
      · obtain ⟨_, z', _⟩ := c2
        rw [z, z'] at q; cases q
    have tT : IsTup h3 T tvs.toArray := ⟨_, tr _ _ e2 e3, rfl, tn, rfl⟩
    have tR : IsTup h3 R rvs.toArray := ⟨_, tr _ _ r1 r2, rfl, rn, rfl⟩
    walk_at "go"
    refine item_tupleT tT (by omega) (by omega) (idx_at (by omega)) v1 ?_
    walk_at "go"
    refine cut_any (lo := some (i : Int)) (hi := none) (st := some 4) (IsList.keeps hl F3.keep) (.int _ _) .none (.int _ _) (by decide) (by rw [List.size_toArray, hi'.length, sizeLine_eq]; omega) (fun h5 D k5 l5 => ?_)
    have F5 := F3.keeps k5
    walk_at "go"
    refine sum_any hh (vs := (slicePick vs.toArray (some (i : Int)) none (some 4)).toList) (by simpa using l5) (hi'.pick _ _ _) (fun h6 t6 u6 k6 => ?_)
    have F6 := F5.keeps k6
    have k36 : ∀ b o, h3.get? b = some o → h6.get? b = some o := fun b o e => k6 _ _ (k5 _ _ e)
    have d2' := cell_keeps d2 k36
    have nC' : h6.Ns C m₂ := nC.keeps k36
    have tT' : IsTup h6 T tvs.toArray := ⟨_, k36 _ _ (tr _ _ e2 e3), rfl, tn, rfl⟩
    have tR' : IsTup h6 R rvs.toArray := ⟨_, k36 _ _ (tr _ _ r1 r2), rfl, rn, rfl⟩
    generalize (pickNums ns (some (i : Int)) none (some 4)).sum = S
    walk_at "go"
    refine item_tupleT tT' (by omega) (by omega) (idx_at (by omega)) v1 ?_
    walk_at "go"
    refine len_tuple tR' (by rw [List.size_toArray]; omega) ?_
    have hz : ((rvs.toArray.size : Nat) : Int) ≠ 0 := by rw [List.size_toArray]; omega
    walk_at "go"
    have hb0 := fmod_lo S (n := ((rvs.toArray.size : Nat) : Int)) (by rw [List.size_toArray]; omega)
    have hb1 := fmod_hi S (n := ((rvs.toArray.size : Nat) : Int)) (by rw [List.size_toArray]; omega)
    obtain ⟨j, hj⟩ : ∃ j : Nat, Int.fmod S ((rvs.toArray.size : Nat) : Int) = (j : Int) := ⟨_, (Int.toNat_of_nonneg hb0).symm⟩
    rw [hj] at hb0 hb1
    have hsz' : rvs.toArray.size = rvs.length := List.size_toArray
    have hjr : j < row.length := by omega
    obtain ⟨p, hp, pa⟩ := r4 j row[j] (List.getElem?_eq_getElem hjr)
    rw [hj]
    refine item_tupleT tR' (by omega) (by omega) (idx_at (by omega)) hp ?_
    exact ⟨h6, _, rfl, k36, row, j, row[j], hrow, List.getElem?_eq_getElem hjr, pa⟩
  · intro D ys h7 t7 F7 kb7 eD nD ly gy
    have base : ∀ b o, s.heap.get? b = some o → h₁.get? b = some o := F.keep
    have gy' : ∀ i, i < 4 → ∃ y ab, ys[i]? = some y ∧ InTab i ab ∧ PairAt h₁ h' y ab := fun i hi => by
      have hy : ys[i]? = some ys[i] := List.getElem?_eq_getElem (by omega)
      obtain ⟨row, j, ab, q1, q2, q3⟩ := gy i _ hy
      exact ⟨_, ab, hy, ⟨row, j, q1, q2⟩, q3⟩
    obtain ⟨y0, ab0, a1, a2, a3⟩ := gy' 0 (by decide)
    obtain ⟨y1, ab1, b1, b2, b3⟩ := gy' 1 (by decide)
    obtain ⟨y2, ab2, d1, d2, d3⟩ := gy' 2 (by decide)
    obtain ⟨y3, ab3, f1, f2, f3⟩ := gy' 3 (by decide)
    have tr : ∀ y ab, PairAt h₁ h' y ab → PairAt s.heap h7 y ab := fun y ab ⟨b, t, t', n, z1, z2, z3⟩ => by
      refine ⟨b, t, t', n, z1, ?_, ?_⟩
      · cases q : s.heap.get? b with
        | none => rfl
        | some o => have := base _ _ q; rw [z2] at this; cases this
      · refine kb7 b _ (fun z => ?_) (Heap.get?_push_of_some _ (k2 b _ (fun z => ?_) z3))
        · obtain ⟨_, _, _, z', _⟩ := F.ns
          rw [z, z'] at z2; cases z2
        · obtain ⟨_, z', _⟩ := c2
          rw [z, z'] at z2; cases z2
    refine hq h7 _ D ab0 ab1 ab2 ab3 F7.keep a2 b2 d2 f2 ⟨ys, ?_, eD, ly, fun i ab hi => ?_⟩
    · cases q : s.heap.get? D with
      | none => rfl
      | some o => have := F2.keep _ _ q; rw [show h''.get? D = none from by
          cases q' : h''.get? D with
          | none => rfl
          | some o' => have := nD; rw [Heap.get?_push_of_some _ q'] at this; cases this] at this; cases this
    · match i, hi with
      | 0, hi => cases hi; exact ⟨_, a1, tr _ _ a3⟩
      | 1, hi => cases hi; exact ⟨_, b1, tr _ _ b3⟩
      | 2, hi => cases hi; exact ⟨_, d1, tr _ _ d3⟩
      | 3, hi => cases hi; exact ⟨_, f1, tr _ _ f3⟩
      | n + 4, hi => simp at hi
end
end Mine

end

section 
-- text C10
open PySem PySem.W PyProof.Rows PySem.Calls
set_option maxRecDepth 100000
set_option maxHeartbeats 4000000
namespace Mine
/-- a loop's state: what is kept between its turns -/
structure Loops (w : World) (A : Around) (env : Env) (x : Str) (px : Pos) (body : List Stmt) (s₁ : Shared) (a : Int) (n : Nat) (J : Addr → Nat → Heap → Prop) (Q : Flow → Shared → Prop) : Prop where
  stay : ∀ I i h h', s₁.heap.get? I = none → J I i h → (∀ b o, b ≠ I → h.get? b = some o → h'.get? b = some o) → J I i h'
  turn : ∀ I i h tk t (E' : Value → Shared → Prop) oI, i < n → s₁.heap.get? I = none → h.get? I = some oI → (∀ es ep, oI.data ≠ .dict es ep) → (∀ v, oI.data ≠ .cell v) → J I i h →
    wpAny (model P w) A (assign (.Name x px) env (.int (a + (i : Int)) t)) (fun _ s₂ => wpAny (model P w) A (execs body env) (fun f s₃ => match f with
      | .next | .cont => ∃ h' tk', s₃ = { s₁ with heap := h', toks := tk' } ∧ h'.get? I = some oI ∧ J I (i + 1) h'
      | .brk => Q .next s₃
      | .ret v => Q (.ret v) s₃) E' s₂) E' { s₁ with heap := h, toks := tk }
  fin : ∀ I h tk, s₁.heap.get? I = none → J I n h → Q .next { s₁ with heap := h, toks := tk }
section
variable {w : World} {A : Around} {E : Value → Shared → Prop} {s : Shared} {env : Env}
theorem for_range {x : Str} {px pos : Pos} {iter : Expr} {body : List Stmt} {Q : Flow → Shared → Prop} (hh : A.handled = none)
    (h : wpAny (model P w) A (eval iter env) (fun xv s₁ => ∃ (r : Addr) (a : Int) (n : Nat) (t u v : Tok) (J : Addr → Nat → Heap → Prop), xv = .ref r ∧ IsRange s₁.heap r a (a + n) 1 t u v ∧ -1000 ≤ a ∧ a ≤ 1000 ∧ n ≤ 1000 ∧
      (∀ I h', s₁.heap.get? I = none → (∀ b o, s₁.heap.get? b = some o → h'.get? b = some o) → J I 0 h') ∧ Loops w A env x px body s₁ a n J Q) E s)
    (hs : ∀ x, foldedSetIterable iter env x = pure x := by intro _; rfl) :
    wpAny (model P w) A (exec (.For (.Name x px) iter body [] pos) env) Q E s := by
  refine wpAny_For (wpAny_mono h (fun xv s₁ hq => ?_) fun _ _ e => e) hs
  obtain ⟨r, a, n, t, u, v, J, rfl, hr, ha, ha', hn, h0, lp⟩ := hq
  have hsm : Builtin.Range.small a (a + n) 1 = true := small_one (by omega) (by omega) (by omega) (by omega)
  have hsz : Builtin.Range.rangeSize a (a + n) 1 = n := by rw [rangeSize_one]; split <;> omega
  refine wpAny_pyIter_range hr hsm ?_
  have nI : s₁.heap.get? s₁.heap.objs.size = none := by
    cases e : s₁.heap.get? s₁.heap.objs.size with
    | none => rfl
    | some o => exact absurd (Heap.lt_size e) (Nat.lt_irrefl _)
  generalize hI : s₁.heap.objs.size = I at nI ⊢
  have W := LCg.range_walks (prog := P) (w := w) (A := A) (I := I) hh a n
  refine codeAny_forLoop (fun k s' => ∃ i h' tk, k = n + 1 - i ∧ i ≤ n ∧ s' = { s₁ with heap := h', toks := tk } ∧ IsRangeIter h' I (a + (i : Nat) * 1) ((n : Int) - (i : Nat)) 1 ∧ J I i h') ?_ (n + 1) ?_
  · rintro k s' ⟨i, h', tk, rfl, hi, rfl, st, j⟩
    by_cases hlt : i < n
    · refine W.item i _ _ _ hlt st fun v h2 tk2 hv st2 k2 => ?_
      obtain ⟨t2, rfl⟩ := hv
      have st2' : h2.get? I = some _ := st2
      refine wpAny_mono (lp.turn I i h2 tk2 t2 _ _ hlt nI st2' (fun _ _ z => by cases z) (fun _ z => by cases z) (lp.stay I i h' h2 nI j fun b o hb e => k2 b o (by simpa using hb) e)) (fun _ s3 h3 => wpAny_mono h3 (fun f s4 h4 => ?_) fun _ _ e => e) fun _ _ e => e
      cases f with
      | next =>
        obtain ⟨h5, tk5, rfl, e5, j5⟩ := h4
        exact ⟨n + 1 - (i + 1), by omega, i + 1, h5, tk5, rfl, hlt, rfl, e5, j5⟩
      | cont =>
        obtain ⟨h5, tk5, rfl, e5, j5⟩ := h4
        exact ⟨n + 1 - (i + 1), by omega, i + 1, h5, tk5, rfl, hlt, rfl, e5, j5⟩
      | brk => exact h4
      | ret v => exact h4
    · obtain rfl : i = n := by omega
      refine W.done _ _ _ st fun h2 tk2 k2 => ?_
      exact wpAny_execs_nil (lp.fin I h2 tk2 nI (lp.stay I i h' h2 nI j fun b o hb e => k2 b o (by simpa using hb) e))
  · refine ⟨0, _, _, rfl, Nat.zero_le _, rfl, ?_, h0 I _ nI (fun b o e => Heap.get?_push_of_some _ e)⟩
    show (s₁.heap.push _).get? I = some _
    rw [← hI, Heap.get?_push_size _ rfl, hsz]
    simp
end
end Mine

end

section 
-- text C11
open PySem PySem.W PyProof.Rows PySem.Calls
set_option maxRecDepth 100000
set_option maxHeartbeats 4000000
namespace Mine
/-- the labels, to be read -/
def LabR (h : Heap) (l : Addr) (abs : List (Str × Str)) : Prop := ∃ ys, h.get? l = some (LCg.lst ys) ∧ ys.length = abs.length ∧ ∀ (i : Nat) (ab : Str × Str), abs[i]? = some ab → ∃ (b : Addr) (t t' : Tok) (n : Nat), ys[i]? = some (Value.ref b) ∧ h.get? b = some (tob [.str ab.1 t, .str ab.2 t'] n)
theorem LabR.keeps {h h' : Heap} {l : Addr} {abs : List (Str × Str)} (x : LabR h l abs) (k : ∀ b o, h.get? b = some o → h'.get? b = some o) : LabR h' l abs := by
  obtain ⟨ys, e1, e2, e3⟩ := x
  refine ⟨ys, k _ _ e1, e2, fun i ab hi => ?_⟩
  obtain ⟨b, t, t', n, f1, f2⟩ := e3 i ab hi
  exact ⟨b, t, t', n, f1, k _ _ f2⟩
theorem LabelsAt.r {g h : Heap} {l : Addr} {abs : List (Str × Str)} (x : LabelsAt g h l abs) : LabR h l abs := by
  obtain ⟨ys, _, e1, e2, e3⟩ := x
  refine ⟨ys, e1, e2, fun i ab hi => ?_⟩
  obtain ⟨y, f1, b, t, t', n, rfl, _, f2⟩ := e3 i ab hi
  exact ⟨b, t, t', n, f1, f2⟩
section
variable {w : World} {A : Around} {E : Value → Shared → Prop} {s : Shared} {mean : ExcName → Option Value} {mg mb : Str → Option Value} {Q : Value → Shared → Prop} {h₀ : Heap} {L : Addr} {m : Str → Option Value} {env : Env}
theorem lab_list {h : Heap} {l : Addr} {abs : List (Str × Str)} {value slice : PySem.Expr} {i : Nat} {u : Tok} {ab : Str × Str} (x : LabR s.heap l abs) (hi : abs[i]? = some ab) (hi' : i ≤ 1000)
    (hq : ∀ (b : Addr) (t t' : Tok) (n : Nat), IsTup s.heap b #[.str ab.1 t, .str ab.2 t'] → Q (.ref b) s)
    (hs : subscripted slice false (.ref l) (.int (i : Int) u) = operate [.ref l, .int (i : Int) u] (getItem (.ref l) (.int (i : Int) u)) := by with_unfolding_all rfl) :
    wpAny (model P w) A (subscriptTail value slice (.ref l) (.int (i : Int) u)) Q E s := by
  obtain ⟨ys, e1, e2, e3⟩ := x
  obtain ⟨b, t, t', n, f1, f2⟩ := e3 i ab hi
  exact item_at ⟨_, e1, rfl, _, rfl⟩ (by omega) (by omega) (by simpa using f1) (hq b t t' n ⟨_, f2, rfl, n, rfl⟩) hs
theorem lab_at {l : Addr} {abs : List (Str × Str)} {value slice : PySem.Expr} {i : Nat} {k : Int} {u : Tok} {ab : Str × Str} (hk : k = (i : Int)) (x : LabR s.heap l abs) (hi : abs[i]? = some ab) (hi' : i ≤ 1000)
    (hq : ∀ (b : Addr) (t t' : Tok), IsTup s.heap b #[.str ab.1 t, .str ab.2 t'] → Q (.ref b) s)
    (hs : subscripted slice false (.ref l) (.int k u) = operate [.ref l, .int k u] (getItem (.ref l) (.int k u)) := by with_unfolding_all rfl) :
    wpAny (model P w) A (subscriptTail value slice (.ref l) (.int k u)) Q E s := by
  subst hk
  exact lab_list (h := s.heap) x hi hi' (fun b t t' _ tb => hq b t t' tb) hs
theorem newLst_any {vs : List Value} (hv : vs.length ≤ 1000) (hq : ∀ D h', (∀ b o, s.heap.get? b = some o → h'.get? b = some o) → s.heap.get? D = none → h'.get? D = some { cls := .type "list", data := .seq vs.toArray 0 } → Q (.ref D) { s with heap := h' }) : wpAny (model P w) A (newList vs) Q E s := by
  refine wpAny_newObj_type (hq _ _ (fun b o e => Heap.get?_push_of_some _ e) ?_ (Heap.get?_push_size _ rfl)) (by show vs.toArray.size ≤ sizeLine; rw [List.size_toArray, sizeLine_eq]; omega)
  cases e : s.heap.get? s.heap.objs.size with
  | none => rfl
  | some o => exact absurd (Heap.lt_size e) (Nat.lt_irrefl _)
theorem strs_app : ∀ {vs ws : List Value} {ys zs : List Str}, StrsAre vs ys → StrsAre ws zs → StrsAre (vs ++ ws) (ys ++ zs)
  | _, _, _, _, .nil, h => h
  | _, _, _, _, .cons z u r, h => .cons z u (strs_app r h)
theorem ext_any {D b : Addr} {ys zs : List Str} (x : LD s.heap D ys) (y : LD s.heap b zs) (hl : ys.length ≤ 1000) (hl' : zs.length ≤ 1000)
    (hq : ∀ h', LD h' D (ys ++ zs) → (∀ b o, b ≠ D → s.heap.get? b = some o → h'.get? b = some o) → Q .none { s with heap := h' }) : wpAny (model P w) A (call (.builtin "list.extend") [.ref D, .ref b]) Q E s := by
  obtain ⟨vs, n, e, r⟩ := x
  obtain ⟨ws, n', e', r'⟩ := y
  have hv := strs_len r
  have hw := strs_len r'
  refine call_meets PySem.F.slot_list_extend ⟨_, e, rfl⟩ PySem.F.entry_list_extend (PySem.F.args_list_extend_2 _ _) (AutoSeq1.list_extend_list_list_0 D vs.toArray n b ws.toArray n' ?_ (by rw [List.size_toArray, sizeLine_eq]; omega) (by rw [List.size_toArray, List.size_toArray, sizeLine_eq]; omega)) ⟨e, e', ?_⟩
  · simp only [List.size_toArray, Builtin.List.listTooLong]
    simp
    have := sizeLine_eq
    omega
  · refine hq _ ⟨vs ++ ws, (if (vs.toArray ++ ws.toArray).size == vs.toArray.size then n else n + 1), ?_, strs_app r r'⟩ (fun b o hb eb => (Heap.get?_update_ne _ _ _ _ hb).trans eb)
    rw [Heap.get?_update_self _ e rfl]
    have q : vs.toArray ++ ws.toArray = (vs ++ ws).toArray := by simp
    show some ({ cls := .type "list", data := .seq (vs.toArray ++ ws.toArray) (if (vs.toArray ++ ws.toArray).size == vs.toArray.size then n else n + 1) } : Obj) = _
    rw [q]
end
end Mine

end

section 
-- text C12
open PySem PySem.W PyProof.Rows PySem.Calls
set_option maxRecDepth 100000
set_option maxHeartbeats 4000000
namespace Mine
/-- the k-th separator of the n-th spelling -/
def sep (d : Str) (n k : Nat) : Str := if n / 2 ^ k % 2 = 1 then "." else d
/-- the pieces up to the i-th dot -/
def pcs (abs : List (Str × Str)) (d : Str) (n : Nat) : Nat → List Str
  | 0 => [(abs.getD 0 ("", "")).1]
  | i + 1 => pcs abs d n i ++ [sep d n i, (abs.getD (i + 1) ("", "")).1]
theorem pcs_len {abs : List (Str × Str)} {d : Str} {n : Nat} : ∀ i, (pcs abs d n i).length = 2 * i + 1
  | 0 => rfl
  | i + 1 => by simp only [pcs, List.length_append, pcs_len i, List.length_cons, List.length_nil]; omega
theorem sep_eq {n i : Nat} (hi : i < 3) : ((n : Int).fdiv (2 ^ (0 + (i : Int)).toNat)).fmod 2 = ((n / 2 ^ i % 2 : Nat) : Int) := by
  have e : (0 + (i : Int)).toNat = i := by omega
  rw [e, Int.fmod_eq_emod_of_nonneg _ (by decide), Int.fdiv_eq_ediv_of_nonneg _ (Int.pow_nonneg (by decide))]
  simp
theorem sep_y {d : Str} {n i : Nat} (hi : i < 3) (h : ((n : Int).fdiv (2 ^ (0 + (i : Int)).toNat)).fmod 2 = 1) : sep d n i = "." := by
  rw [sep_eq hi] at h
  exact if_pos (by omega)
theorem sep_n {d : Str} {n i : Nat} (hi : i < 3) (h : ¬ ((n : Int).fdiv (2 ^ (0 + (i : Int)).toNat)).fmod 2 = 1) : sep d n i = d := by
  rw [sep_eq hi] at h
  exact if_neg (by omega)
section
variable {w : World} {A : Around} {E : Value → Shared → Prop} {s : Shared} {mean : ExcName → Option Value} {mg mb : Str → Option Value} {Q : Value → Shared → Prop} {h₀ : Heap} {L : Addr} {m : Str → Option Value} {env : Env}
local macro_rules | `(tactic| walk_at "go") => `(tactic| repeat' ((fail_if_success (with_reducible show wpAny _ _ (call (Value.ref _) _) _ _ _)); (fail_if_success (with_reducible show wpAny _ _ (subscriptTail _ _ (Value.ref _) _) _ _ _)); (fail_if_success (with_reducible show wpAny _ _ (newList _) _ _ _)); walk1))
local macro_rules | `(tactic| walk_at "eval Name") => `(tactic| ((refine' name_g ?kF ?kW ?kf ?_); (case kF => assumption); (case kW => assumption); (case kf => assumption)))
local macro_rules | `(tactic| walk_at "eval Name") => `(tactic| ((refine' name_b ?kF ?kW ?kf ?_); (case kF => assumption); (case kW => assumption); (case kf => assumption)))
local macro_rules | `(tactic| walk_at "eval Name") => `(tactic| ((refine' name_l ?kn ?kf ?_); (case kn => assumption); (case kf => assumption)))
theorem meth_ext {D : Addr} {ys : List Str} {pl : Sem Bool} {Q : Value × List Value → Shared → Prop} (x : LD s.heap D ys) (h : Q (.builtin "list.extend", [.ref D]) s) : wpAny (model P w) A (getMethod (.ref D) "extend" pl) Q E s := by
  obtain ⟨vs, n, e, r⟩ := x
  exact getMethod_builtin ⟨_, e, rfl⟩ PySem.F.plainAttrs_list PySem.F.slot_list_extend PySem.F.type_list_extend (fun b q => by cases q; exact ⟨_, e, rfl⟩) h
theorem LD.but {h h' : Heap} {D I : Addr} {ys : List Str} (x : LD h D ys) (k : ∀ b o, b ≠ I → h.get? b = some o → h'.get? b = some o) (hD : D ≠ I) : LD h' D ys := by
  obtain ⟨vs, n, e, r⟩ := x
  exact ⟨vs, n, k _ _ hD e, r⟩
theorem off_none {h : Heap} {a b : Addr} {o : Obj} (ha : h.get? a = some o) (hb : h.get? b = none) : a ≠ b := fun z => by rw [z, hb] at ha; cases ha
theorem pieces_call {f l : Addr} {abs : List (Str × Str)} {d : Str} {n : Nat} {td tn : Tok} (W : Wd mean mg mb s.heap) (hh : A.handled = none) (hroom : A.depth + 12 < recursionLimit) (hf : mg "_law_pieces" = some (.ref f)) (lab : LabR s.heap l abs) (hl : abs.length = 4) (hn : n < 8)
    (hq : ∀ h' t D, (∀ b o, s.heap.get? b = some o → h'.get? b = some o) → s.heap.get? D = none → LD h' D (pcs abs d n 3) → Q (.ref D) { s with heap := h', toks := t }) :
    wpAny (model P w) A (call (.ref f) [.ref l, .str d td, .int n tn]) Q E s := by
  obtain ⟨o, pm, cd, doc, h2, h3, h4⟩ := fn_at (i := 27) W 8 (by kernel_rfl) hf
  have B1 := bt_range W
  refine wpAny_call (call_plain_ret (by omega) h2 h3 W.T.nolimit h4 (binds := [("labels", .ref l), ("dot", .str d td), ("number", .int n tn)]) (by rfl) (locs (by rfl)) (fun h₁ F => ?_) (by rfl) (by rfl) (by rfl) (by decide))
  have g0 : abs[0]? = some (abs.getD 0 ("", "")) := by rw [List.getElem?_eq_getElem (by omega)]; simp [List.getD, List.getElem?_eq_getElem (show 0 < abs.length by omega)]
  refine wpAny_execs_cons (wpAny_Assign_Name ?_)
  refine List_ ?_
  walk_at "go"
  refine lab_list (i := 0) (h := h₁) (lab.keeps F.keep) g0 (by decide) (fun b t t' n' tb => ?_)
  walk_at "go"
  refine item_tupleT (l := [_, _]) tb (by decide) (by decide) (by rfl) (by rfl) ?_
  walk_at "go"
  refine newLst_any (by simp) (fun D h2 k2 nD eD => ?_)
  have F2 := F.keeps k2
  refine st_l (m := _) F2 (fun h3 F3 kb3 => ?_)
  have nL : s.heap.objs.size ≠ D := fun z => by
    obtain ⟨_, _, _, z', _⟩ := F.ns
    rw [z] at z'; rw [z'] at nD; cases nD
  have eD3 : LD h3 D (pcs abs d n 0) := ⟨_, 0, kb3 _ _ (Ne.symm nL) eD, .cons _ _ .nil⟩
  refine wpAny_execs_cons (for_range hh ?_)
  walk_at "go"
  refine call_range_1 ?_
  refine ⟨_, 0, 3, _, _, _, fun I i h => ∃ m, Fr s.heap s.heap.objs.size h m ∧ m "pieces" = some (.ref D) ∧ m "labels" = some (.ref l) ∧ m "dot" = some (.str d td) ∧ m "number" = some (.int n tn) ∧ LD h D (pcs abs d n i), rfl, IsRange.new _ _ _ _ _ _ _, by decide, by decide, by decide, ?_, ?_⟩
  · intro I h' nI k
    exact ⟨_, F3.keeps (fun b o e => k _ _ (Heap.get?_push_of_some _ e)), rfl, rfl, rfl, rfl, eD3.keeps (fun b o e => k _ _ (Heap.get?_push_of_some _ e))⟩
  · obtain ⟨oL, _, _, eL, _⟩ := F3.ns
    refine ⟨?_, ?_, ?_⟩
    · rintro I i h h' nI ⟨m, Fm, m1, m2, m3, m4, ld⟩ k
      have hLI : s.heap.objs.size ≠ I := off_none (Heap.get?_push_of_some _ eL) nI
      have hDI : D ≠ I := off_none (Heap.get?_push_of_some _ (kb3 _ _ (Ne.symm nL) eD)) nI
      refine ⟨m, Fr.but Fm k hLI ?_, m1, m2, m3, m4, ld.but k hDI⟩
      cases q : s.heap.get? I with
      | none => rfl
      | some o => exact absurd nI (by dsimp only; rw [Heap.get?_push_of_some _ (F3.keep _ _ q)]; simp)
    · rintro I i h tk t E' oI hi nI eI - - ⟨m, Fm, m1, m2, m3, m4, ld⟩
      refine wpAny_assign_Name (st_l (m := _) Fm (fun h4 F4 kb4 => ?_))
      obtain ⟨m', F5, n1, n2, n3, n4, n5⟩ : ∃ m', Fr s.heap s.heap.objs.size h4 m' ∧ m' "pieces" = some (.ref D) ∧ m' "labels" = some (.ref l) ∧ m' "dot" = some (.str d td) ∧ m' "number" = some (.int n tn) ∧ m' "k" = some (.int (0 + (i : Int)) t) :=
        ⟨_, F4, by rw [if_neg (by decide)]; exact m1, by rw [if_neg (by decide)]; exact m2, by rw [if_neg (by decide)]; exact m3, by rw [if_neg (by decide)]; exact m4, by rw [if_pos rfl]⟩
      have nn := F5.ns
      have ld4 : LD h4 D (pcs abs d n i) := ld.but (fun b o hb e => kb4 b o hb e) (Ne.symm nL)
      clear F4
      walk_at "go"
      refine meth_ext ld4 ?_
      have hz : (2 : Int) ^ (0 + (i : Int)).toNat ≠ 0 := by
        match i, hi with
        | 0, _ => decide
        | 1, _ => decide
        | 2, _ => decide
      have hz2 : ((2 : Int) ^ (0 + (i : Int)).toNat).natAbs < 1073741824 := by
        match i, hi with
        | 0, _ => decide
        | 1, _ => decide
        | 2, _ => decide
      have g1 : abs[i + 1]? = some (abs.getD (i + 1) ("", "")) := by rw [List.getElem?_eq_getElem (by omega)]; simp [List.getD, List.getElem?_eq_getElem (show i + 1 < abs.length by omega)]
      have hIL : I ≠ s.heap.objs.size := Ne.symm (off_none (Heap.get?_push_of_some _ eL) nI)
      have hID : I ≠ D := Ne.symm (off_none (Heap.get?_push_of_some _ (kb3 _ _ (Ne.symm nL) eD)) nI)
      have nDs : s.heap.get? D = none := by
        cases q : s.heap.get? D with
        | none => rfl
        | some o => have := F.keep _ _ q; dsimp only at nD; rw [nD] at this; cases this
      walk_at "go"
      · rename_i hc
        refine lab_at (i := i + 1) (by omega) (lab.keeps F5.keep) g1 (by omega) (fun b t t' tb => ?_)
        walk1
        refine item_tupleT (l := [_, _]) tb (by decide) (by decide) (by rfl) (by rfl) ?_
        walk1
        refine newLst_any (by simp) (fun D2 h5 k5 nD2 eD2 => ?_)
        walk1
        refine ext_any (ld4.keeps k5) ⟨_, 0, eD2, .cons _ _ (.cons _ _ .nil)⟩ (by rw [pcs_len]; omega) (by simp) (fun h6 ld6 k6 => ?_)
        refine wpAny_execs_nil ⟨h6, _, rfl, k6 _ _ hID (k5 _ _ (kb4 _ _ hIL eI)), m', Fr.but (F5.keeps k5) k6 nL nDs, n1, n2, n3, n4, ?_⟩
        show LD h6 D (pcs abs d n i ++ [sep d n i, _])
        rw [sep_y hi hc]
        exact ld6
      · rename_i hc
        refine lab_at (i := i + 1) (by omega) (lab.keeps F5.keep) g1 (by omega) (fun b t t' tb => ?_)
        walk1
        refine item_tupleT (l := [_, _]) tb (by decide) (by decide) (by rfl) (by rfl) ?_
        walk1
        refine newLst_any (by simp) (fun D2 h5 k5 nD2 eD2 => ?_)
        walk1
        refine ext_any (ld4.keeps k5) ⟨_, 0, eD2, .cons _ _ (.cons _ _ .nil)⟩ (by rw [pcs_len]; omega) (by simp) (fun h6 ld6 k6 => ?_)
        refine wpAny_execs_nil ⟨h6, _, rfl, k6 _ _ hID (k5 _ _ (kb4 _ _ hIL eI)), m', Fr.but (F5.keeps k5) k6 nL nDs, n1, n2, n3, n4, ?_⟩
        show LD h6 D (pcs abs d n i ++ [sep d n i, _])
        rw [sep_n hi hc]
        exact ld6
    · rintro I h tk nI ⟨m, Fm, m1, m2, m3, m4, ld⟩
      have nn := Fm.ns
      walk_at "go"
      refine hq _ _ _ Fm.keep ?_ ld
      cases q : s.heap.get? D with
      | none => rfl
      | some o => have := F.keep _ _ q; dsimp only at nD; rw [nD] at this; cases this
end
end Mine

end

section 
-- text C13
open PySem PySem.W PyProof.Rows PySem.Calls
set_option maxRecDepth 100000
set_option maxHeartbeats 4000000
namespace Mine
/-- all but namespaces and cells is kept -/
def KT (h h' : Heap) : Prop := ∀ b o, h.get? b = some o → (∀ es ep, o.data ≠ .dict es ep) → (∀ v, o.data ≠ .cell v) → h'.get? b = some o
theorem KT.seq {h h' : Heap} (x : KT h h') (b : Addr) (o : Obj) (xs : Array Value) (n : Nat) (e : h.get? b = some o) (d : o.data = .seq xs n) : h'.get? b = some o :=
  x b o e (fun _ _ z => by rw [d] at z; cases z) (fun _ z => by rw [d] at z; cases z)
theorem KT.refl {h : Heap} : KT h h := fun _ _ e _ _ => e
theorem KT.trans {h h' h'' : Heap} (x : KT h h') (y : KT h' h'') : KT h h'' := fun b o e d c => y b o (x b o e d c) d c
theorem KT.all {h h' : Heap} (k : ∀ b o, h.get? b = some o → h'.get? b = some o) : KT h h' := fun b o e _ _ => k b o e
theorem KT.kb {h h' : Heap} {L : Addr} {m : Str → Option Value} (hn : h.Ns L m) (k : KB L h h') : KT h h' := fun b o e d _ => k b o (fun z => by
  obtain ⟨o', es, ep, ho, hd, _⟩ := hn
  rw [← z, e] at ho; cases ho; exact d _ _ hd) e
theorem KT.cell {h h' : Heap} {c : Addr} {v : Option Value} (hc : h.IsCell c v) (k : ∀ b o, b ≠ c → h.get? b = some o → h'.get? b = some o) : KT h h' := fun b o e _ d => k b o (fun z => by
  obtain ⟨o', ho, hd⟩ := hc
  rw [← z, e] at ho; cases ho; exact d _ hd) e
theorem KT.off {g h h' : Heap} {I : Addr} (x : KT g h) (nI : g.get? I = none) (k : ∀ b o, b ≠ I → h.get? b = some o → h'.get? b = some o) : KT g h' := fun b o e d c => k b o (fun z => by rw [z, nI] at e; cases e) (x b o e d c)
theorem LD.kt {h h' : Heap} {D : Addr} {ys : List Str} (x : LD h D ys) (k : KT h h') : LD h' D ys := by
  obtain ⟨vs, n, e, r⟩ := x
  exact ⟨vs, n, k.seq _ _ _ _ e rfl, r⟩
theorem LabR.kt {h h' : Heap} {l : Addr} {abs : List (Str × Str)} (x : LabR h l abs) (k : KT h h') : LabR h' l abs := by
  obtain ⟨ys, e1, e2, e3⟩ := x
  refine ⟨ys, k.seq _ _ _ _ e1 rfl, e2, fun i ab hi => ?_⟩
  obtain ⟨b, t, t', n, f1, f2⟩ := e3 i ab hi
  exact ⟨b, t, t', n, f1, k.seq _ _ _ _ f2 rfl⟩
/-- a list of bools -/
def LB (h : Heap) (D : Addr) (bs : List Bool) : Prop := ∃ n, h.get? D = some { cls := .type "list", data := .seq (bs.map Value.bool).toArray n }
theorem LB.kt {h h' : Heap} {D : Addr} {bs : List Bool} (x : LB h D bs) (k : KT h h') : LB h' D bs := by
  obtain ⟨n, e⟩ := x
  exact ⟨n, k.seq _ _ _ _ e rfl⟩
theorem LB.list {h : Heap} {D : Addr} {bs : List Bool} (x : LB h D bs) : h.IsList D (bs.map Value.bool).toArray := by
  obtain ⟨n, e⟩ := x
  exact ⟨_, e, rfl, n, rfl⟩
/-- a list of lists of texts -/
def LL (h : Heap) (D : Addr) (yss : List (List Str)) : Prop := ∃ vs n, h.get? D = some { cls := .type "list", data := .seq (vs : List Value).toArray n } ∧ vs.length = yss.length ∧ ∀ (i : Nat) (ys : List Str), yss[i]? = some ys → ∃ b, vs[i]? = some (Value.ref b) ∧ LD h b ys
theorem LL.kt {h h' : Heap} {D : Addr} {yss : List (List Str)} (x : LL h D yss) (k : KT h h') : LL h' D yss := by
  obtain ⟨vs, n, e, el, r⟩ := x
  refine ⟨vs, n, k.seq _ _ _ _ e rfl, el, fun i ys hi => ?_⟩
  obtain ⟨b, e1, e2⟩ := r i ys hi
  exact ⟨b, e1, e2.kt k⟩
/-- the frame of law and its cells -/
structure St (h₀ : Heap) (L : Addr) (m : Str → Option Value) (cv : Nat → Option Value) (h : Heap) : Prop where
  F : Fr h₀ L h m
  c : ∀ i, i < 7 → h.IsCell (L + (i + 1)) (cv i)
  z : h₀.objs.size = L
section
variable {h₀ h h' : Heap} {L : Addr} {m m' : Str → Option Value} {cv : Nat → Option Value}
theorem St.none (x : St h₀ L m cv h) (i : Nat) : h₀.get? (L + i) = none := by
  cases e : h₀.get? (L + i) with
  | none => rfl
  | some o => have := Heap.lt_size e; rw [x.z] at this; exact absurd this (Nat.not_lt.mpr (Nat.le_add_right _ _))
theorem St.keeps (x : St h₀ L m cv h) (k : ∀ b o, h.get? b = some o → h'.get? b = some o) : St h₀ L m cv h' := ⟨x.F.keeps k, fun i hi => cell_keeps (x.c i hi) k, x.z⟩
theorem St.step (x : St h₀ L m cv h) (F' : Fr h₀ L h' m') (kb : KB L h h') : St h₀ L m' cv h' := ⟨F', fun i hi => cell_kb (x.c i hi) (Nat.ne_of_gt (Nat.lt_add_of_pos_right (Nat.succ_pos _))) kb, x.z⟩
theorem St.cell (x : St h₀ L m cv h) {i : Nat} (hi : i < 7) {v : Option Value} (hv : h'.IsCell (L + (i + 1)) v) (k : ∀ b o, b ≠ L + (i + 1) → h.get? b = some o → h'.get? b = some o) :
    St h₀ L m (fun j => if j = i then v else cv j) h' := by
  refine ⟨Fr.but x.F k (Nat.ne_of_lt (Nat.lt_add_of_pos_right (Nat.succ_pos _))) (x.none _), fun j hj => ?_, x.z⟩
  by_cases e : j = i
  · subst e; rw [if_pos rfl]; exact hv
  · rw [if_neg e]; exact cell_but (x.c j hj) k (fun z => e (by have := Nat.add_left_cancel (n := L) z; exact Nat.succ.inj this))
theorem St.off {g : Heap} {mg : Str → Option Value} {cg : Nat → Option Value} {I : Addr} (x : St h₀ L m cv h) (xg : St h₀ L mg cg g) (nI : g.get? I = Option.none) (k : ∀ b o, b ≠ I → h.get? b = some o → h'.get? b = some o) : St h₀ L m cv h' := by
  refine ⟨Fr.but x.F k ?_ ?_, fun i hi => cell_but (x.c i hi) k ?_, x.z⟩
  · obtain ⟨o, _, _, e, _⟩ := xg.F.ns
    exact off_none e nI
  · cases e : h₀.get? I with
    | none => rfl
    | some o => have := xg.F.keep _ _ e; rw [nI] at this; cases this
  · obtain ⟨o, e, _⟩ := xg.c i hi
    exact off_none e nI
theorem St.ktc (x : St h₀ L m cv h) {i : Nat} (hi : i < 7) (k : ∀ b o, b ≠ L + (i + 1) → h.get? b = some o → h'.get? b = some o) : KT h h' := KT.cell (x.c i hi) k
theorem St.ktb (x : St h₀ L m cv h) (k : KB L h h') : KT h h' := KT.kb x.F.ns k
end
theorem lay_strs : ∀ {l : List Str}, (∀ y ∈ l, PyData.strOk y = true) → PyData.canLayAll0 (l.map PyData.str) = true
  | [], _ => rfl
  | y :: r, h => by
    simp only [List.map_cons, PyData.canLayAll0, PyData.canLay0, Bool.and_eq_true]
    exact ⟨h y (.head _), lay_strs fun z hz => h z (.tail _ hz)⟩
theorem lay_bools : ∀ (l : List Bool), PyData.canLayAll0 (l.map PyData.bool) = true
  | [] => rfl
  | y :: r => by simp [PyData.canLayAll0, PyData.canLay0, lay_bools r]
theorem dep_strs : ∀ (l : List Str), PyData.depthAll (l.map PyData.str) = 0
  | [] => rfl
  | y :: r => by simp [PyData.depthAll, PyData.depth, dep_strs r]
theorem dep_bools : ∀ (l : List Bool), PyData.depthAll (l.map PyData.bool) = 0
  | [] => rfl
  | y :: r => by simp [PyData.depthAll, PyData.depth, dep_bools r]
theorem car_bools : ∀ (l : List Bool), CarriedAll (l.map Value.bool) (l.map PyData.bool)
  | [] => .nil
  | b :: r => .cons (.bool b) (car_bools r)
section
variable {w : World} {A : Around} {E : Value → Shared → Prop} {s : Shared} {Q : Value → Shared → Prop}
theorem ne_strs {a b : Addr} {ys : List Str} (ha : LD s.heap a ys) (hb : LD s.heap b ys) (hok : ∀ y ∈ ys, PyData.strOk y = true) (hu : A.units + 64 < cLine) (h : Q (.bool false) s) : wpAny (model P w) A (compareOp .NotEq (.ref a) (.ref b)) Q E s := by
  obtain ⟨vs, l1, i1⟩ := ha.list
  obtain ⟨ws, l2, i2⟩ := hb.list
  have sh : SeqAt.shaped (.list (ys.map PyData.str)) = true := by
    simp [SeqAt.shaped, PyData.canLay0, PyData.depth, lay_strs hok, dep_strs]
  refine ne_dataH_same (reads_newData l1 i1.carried) (reads_newData l2 i2.carried) sh sh hu (SeqAt.noMix_of_shape (.list .str) rfl _ _ (list_map_has fun _ => rfl) (list_map_has fun _ => rfl)) ?_
  rw [PySem.Spec.same_self]
  exact h
theorem ne_bools {a b : Addr} {ys : List Bool} (ha : LB s.heap a ys) (hb : LB s.heap b ys) (hu : A.units + 64 < cLine) (h : Q (.bool false) s) : wpAny (model P w) A (compareOp .NotEq (.ref a) (.ref b)) Q E s := by
  have sh : SeqAt.shaped (.list (ys.map PyData.bool)) = true := by
    simp [SeqAt.shaped, PyData.canLay0, PyData.depth, lay_bools, dep_bools]
  refine ne_dataH_same (reads_newData ha.list (car_bools _)) (reads_newData hb.list (car_bools _)) sh sh hu (SeqAt.noMix_of_shape (.list .bool) rfl _ _ (list_map_has fun _ => rfl) (list_map_has fun _ => rfl)) ?_
  rw [PySem.Spec.same_self]
  exact h
theorem join_any {D : Addr} {x : Str} {t : Tok} {ys : List Str} (hl : LD s.heap D ys) (hx : x.length ≤ 16) (hw : (ys.map (·.length)).sum + ys.length ≤ 1048576)
    (h : ∀ t' k, Q (.str (Txt.join x ys) t') { s with toks := k }) : wpAny (model P w) A (call (.builtin "str.join") [.str x t, .ref D]) Q E s := by
  obtain ⟨vs, l1, i1⟩ := hl.list
  exact join_listW l1 (by simpa using i1) hx hw h
theorem index_any {D : Addr} {x : Str} {t : Tok} {ys : List Str} {j : Nat} (hl : LD s.heap D ys) (hj : ys[j]? = some x) (hno : ∀ i y, i < j → ys[i]? = some y → (y == x) = false) (hlen : ys.length ≤ 1000)
    (h : ∀ t' k, Q (.int (j : Int) t') { s with toks := k }) : wpAny (model P w) A (call (.builtin "list.index") [.ref D, .str x t]) Q E s := by
  obtain ⟨vs, n, e, r⟩ := hl
  have hv := strs_len r
  have hjl : j < ys.length := by
    have := List.getElem?_eq_some_iff.mp hj
    exact this.1
  obtain ⟨tj, hvj⟩ := StrsAre.at r hj
  have hno' : ∀ m (hm : m < vs.toArray.size), m < j → isStrOf x vs.toArray[m] = false := fun m hm hmj => by
    have hm' : m < ys.length := by rw [← hv]; simpa using hm
    obtain ⟨u, hu⟩ := StrsAre.at r (List.getElem?_eq_getElem hm')
    have : vs.toArray[m] = .str ys[m] u := by
      have h2 : vs[m]? = some vs.toArray[m] := by rw [List.getElem?_eq_getElem (by simpa using hm)]; simp
      rw [h2] at hu; exact Option.some.inj hu
    rw [this]
    exact hno m ys[m] hmj (List.getElem?_eq_getElem hm')
  have hit : isStrOf x (vs.toArray[j]'(by rw [List.size_toArray, hv]; exact hjl)) = true := by
    have : vs.toArray[j]'(by rw [List.size_toArray, hv]; exact hjl) = .str x tj := by
      have h2 : vs[j]? = some (vs.toArray[j]'(by rw [List.size_toArray, hv]; exact hjl)) := by rw [List.getElem?_eq_getElem (by rw [hv]; exact hjl)]; simp
      rw [h2] at hvj; exact Option.some.inj hvj
    rw [this]
    show (x == x) = true
    simp
  exact call_meets PySem.F.slot_list_index ⟨_, e, rfl⟩ PySem.F.entry_list_index (PySem.F.args_list_index_2 _ _)
    (MeetsSeq.list_index D vs.toArray n (.str x t) (isStrOf x) (fun y hy => eq_isStrOf x t r y (by simpa using hy)) j (by rw [List.size_toArray, hv]; exact hjl) (by omega) hit hno') ⟨e, h _ _⟩
theorem meth_ld {D : Addr} {ys : List Str} {name : Str} {id : String} {pl : Sem Bool} {Q : Value × List Value → Shared → Prop} (x : LD s.heap D ys) (slot : Slot "list" name id)
    (hty : typeOf (.builtin id) = pure (.type "method_descriptor")) (h : Q (.builtin id, [.ref D]) s) : wpAny (model P w) A (getMethod (.ref D) name pl) Q E s := by
  obtain ⟨vs, n, e, r⟩ := x
  exact getMethod_builtin ⟨_, e, rfl⟩ PySem.F.plainAttrs_list slot hty (fun b q => by cases q; exact ⟨_, e, rfl⟩) h
/-- a list's items between two places -/
def pickL (ys : List Str) (lo hi st : Option Int) : List Str :=
  (sliceRange (sliceBounds lo hi st ys.length).1 (sliceBounds lo hi st ys.length).2.1 (sliceBounds lo hi st ys.length).2.2).filterMap (ys[·]?)
theorem strs_places : ∀ {vs : List Value} {ys : List Str}, StrsAre vs ys → ∀ js : List Nat, StrsAre (js.filterMap (vs[·]?)) (js.filterMap (ys[·]?))
  | _, _, _, [] => .nil
  | vs, ys, h, j :: js => by
    have ih := strs_places h js
    cases hn : ys[j]? with
    | some n =>
      obtain ⟨t, hv⟩ := StrsAre.at h hn
      simp only [List.filterMap_cons, hn, hv]
      exact .cons n t ih
    | none =>
      have hv : vs[j]? = none := by
        rw [List.getElem?_eq_none_iff] at hn ⊢
        rw [strs_len h]; exact hn
      simp only [List.filterMap_cons, hn, hv]
      exact ih
theorem strs_pick {vs : List Value} {ys : List Str} (h : StrsAre vs ys) (lo hi st : Option Int) : StrsAre (slicePick vs.toArray lo hi st).toList (pickL ys lo hi st) := by
  have e : (slicePick vs.toArray lo hi st).toList = (sliceRange (sliceBounds lo hi st ys.length).1 (sliceBounds lo hi st ys.length).2.1 (sliceBounds lo hi st ys.length).2.2).filterMap (vs[·]?) := by
    simp [slicePick, strs_len h]
  rw [e]
  exact strs_places h _
end
end Mine

end

section 
-- text C14
open PySem PySem.W PyProof.Rows PySem.Calls
set_option maxRecDepth 100000
set_option maxHeartbeats 4000000
namespace Mine
section
variable {w : World} {A : Around} {E : Value → Shared → Prop} {s : Shared} {Q : Value → Shared → Prop} {h₀ : Heap} {L : Addr} {m : Str → Option Value} {env : Env}
theorem mul_any {l : Addr} {v : Value} {n : Nat} {u : Tok} (Fm : Fr h₀ L s.heap m) (hl : s.heap.get? l = some { cls := .type "list", data := .seq #[v] n })
    (h : ∀ h' D, Fr h₀ L h' m → KB L s.heap h' → h'.get? D = some { cls := .type "list", data := .seq (List.replicate 8 v).toArray 0 } → Q (.ref D) { s with heap := h' }) :
    wpAny (model P w) A (binaryOp .Mult (.ref l) (.int 8 u)) Q E s := by
  refine mul_list Fm (allNews_news _ _ _) hl (by decide) (by decide) (by show 1 * 8 ≤ 2 ^ 24; decide) fun h' F' N' => ?_
  have e := (N' _ (.head _)).1
  exact h h' _ F' (KB.of Fm F' fun p hp => N' p (.tail _ hp)) e
theorem add_any {l b : Addr} {xs ys : Array Value} {n k : Nat} (hl : s.heap.get? l = some { cls := .type "list", data := .seq xs n }) (hb : s.heap.get? b = some { cls := .type "list", data := .seq ys k }) (hsz : xs.size + ys.size ≤ 1000)
    (h : ∀ h' D, (∀ b o, s.heap.get? b = some o → h'.get? b = some o) → h'.get? D = some { cls := .type "list", data := .seq (xs ++ ys) } → Q (.ref D) { s with heap := h' }) :
    wpAny (model P w) A (binaryOp .Add (.ref l) (.ref b)) Q E s :=
  PySem.P.add_list hl hb (h _ _ (fun b o e => Heap.get?_push_of_some _ e) (Heap.get?_push_size _ rfl)) (by rw [sizeLine_eq]; omega)
/-- the greatest, by place -/
def mxAt (ns : List Int) : Nat := argBest (fun i j => decide (ns.getD i 0 > ns.getD j 0)) (ns.length - 1)
theorem max_any {l : Addr} {vs : List Value} {ns : List Int} (hh : A.handled = none) (hl : s.heap.IsList l vs.toArray) (hi : IntsAre vs ns) (hne : 0 < ns.length) {k : Int} (hk : ns[mxAt ns]? = some k)
    (h : ∀ h' tk t', (∀ b o, s.heap.get? b = some o → h'.get? b = some o) → Q (.int k t') { s with heap := h', toks := tk }) : wpAny (model P w) A (call (.builtin "max") [.ref l]) Q E s := by
  obtain ⟨xs, hx⟩ := hi.allInts.items
  have hl' : s.heap.IsList l (intItems xs) := hx ▸ hl
  have e1 : ns = xs.toList.map (·.1) := by
    rw [← nums_intItems, ← hx]
    exact (show numsOf vs.toArray.toList = ns from hi.numsOf).symm
  have e2 : ∀ i, numAt xs i = ns.getD i 0 := fun i => by
    rw [e1]
    unfold numAt
    rw [List.getD_eq_getElem?_getD, List.getElem?_map]
    simp
  have e3 : xs.size = ns.length := by rw [e1]; simp
  refine max_intList hh hl' (by omega) fun v h' tk hv hk' => ?_
  have e4 : argBest (fun i j => decide (numAt xs i > numAt xs j)) (xs.size - 1) = mxAt ns := by
    unfold mxAt
    simp only [e2, e3]
  rw [e4] at hv
  obtain ⟨t, rfl⟩ := intItems_at hv
  have e5 : numAt xs (mxAt ns) = k := by rw [e2, List.getD_eq_getElem?_getD, hk]; rfl
  rw [e5]
  exact h h' tk t hk'
theorem ll_at {l : Addr} {yss : List (List Str)} {value slice : PySem.Expr} {i : Nat} {k : Int} {u : Tok} {ys : List Str} (hk : k = (i : Int)) (x : LL s.heap l yss) (hi : yss[i]? = some ys) (hi' : i ≤ 1000)
    (hq : ∀ (b : Addr), LD s.heap b ys → Q (.ref b) s)
    (hs : subscripted slice false (.ref l) (.int k u) = operate [.ref l, .int k u] (getItem (.ref l) (.int k u)) := by with_unfolding_all rfl) :
    wpAny (model P w) A (subscriptTail value slice (.ref l) (.int k u)) Q E s := by
  subst hk
  obtain ⟨vs, n, e, el, r⟩ := x
  obtain ⟨b, e1, e2⟩ := r i ys hi
  exact item_at ⟨_, e, rfl, n, rfl⟩ (by omega) (by omega) (by simpa using e1) (hq b e2) hs
theorem ld_at {l : Addr} {ys : List Str} {value slice : PySem.Expr} {i : Nat} {k : Int} {u : Tok} {y : Str} (hk : k = (i : Int)) (x : LD s.heap l ys) (hi : ys[i]? = some y) (hi' : i ≤ 1000)
    (hq : ∀ t, Q (.str y t) s)
    (hs : subscripted slice false (.ref l) (.int k u) = operate [.ref l, .int k u] (getItem (.ref l) (.int k u)) := by with_unfolding_all rfl) :
    wpAny (model P w) A (subscriptTail value slice (.ref l) (.int k u)) Q E s := by
  subst hk
  obtain ⟨vs, n, e, r⟩ := x
  obtain ⟨t, e1⟩ := StrsAre.at r hi
  exact item_at ⟨_, e, rfl, n, rfl⟩ (by omega) (by omega) (by simpa using e1) (hq t) hs
theorem lb_at {l : Addr} {bs : List Bool} {value slice : PySem.Expr} {i : Nat} {k : Int} {u : Tok} {y : Bool} (hk : k = (i : Int)) (x : LB s.heap l bs) (hi : bs[i]? = some y) (hi' : i ≤ 1000)
    (hq : Q (.bool y) s)
    (hs : subscripted slice false (.ref l) (.int k u) = operate [.ref l, .int k u] (getItem (.ref l) (.int k u)) := by with_unfolding_all rfl) :
    wpAny (model P w) A (subscriptTail value slice (.ref l) (.int k u)) Q E s := by
  subst hk
  obtain ⟨n, e⟩ := x
  exact item_at ⟨_, e, rfl, n, rfl⟩ (by omega) (by omega) (by simpa [List.getElem?_map] using hi) hq hs
theorem cut_ld {value slice : PySem.Expr} {l : Addr} {ys : List Str} {vl vu vk : Value} {lo hi st : Option Int} {ops : List Value} (hl : LD s.heap l ys) (pl : IsPart vl lo) (pu : IsPart vu hi) (pk : IsPart vk st) (h0 : st ≠ some 0) (hsz : ys.length ≤ 1000)
    (h : ∀ h' D, (∀ b o, s.heap.get? b = some o → h'.get? b = some o) → LD h' D (pickL ys lo hi st) → Q (.ref D) { s with heap := h' })
    (hs : subscripted slice false (.ref l) (.ref s.heap.objs.size) = operate ops (getItem (.ref l) (.ref s.heap.objs.size)) := by with_unfolding_all rfl)
    (ht : ∀ r, letTemporaryGo value (.ref l) r = pure () := by intro _; with_unfolding_all rfl) :
    wpAny (model P w) A (subscriptTail value slice (.ref l) (.ref s.heap.objs.size)) Q E { s with heap := s.heap.push { cls := .type "slice", data := .fields #[vl, vu, vk] } } := by
  obtain ⟨vs, n, e, r⟩ := hl
  have hl' : s.heap.IsList l vs.toArray := ⟨_, e, rfl, n, rfl⟩
  have hz : vs.toArray.size ≤ sizeLine := by rw [List.size_toArray, strs_len r, sizeLine_eq]; omega
  refine subscriptTail_ops (Heap.IsList.typeIs (s := { s with heap := s.heap.push { cls := .type "slice", data := .fields #[vl, vu, vk] } }) (hl'.push _)) list_getitem_lookup
    (wpAny_getItem_list_slice (hl'.push _) (Heap.IsSliceOf.new ..) pl pu pk h0 ?_ hz) hs ht
  refine h _ _ (fun b o e => Heap.get?_push_of_some _ (Heap.get?_push_of_some _ e)) ⟨(slicePick vs.toArray lo hi st).toList, 0, ?_, strs_pick r lo hi st⟩
  rw [Array.toArray_toList]
  exact Heap.get?_push_size _ rfl
end
end Mine

end

section 
-- text C15
open PySem PySem.W PyProof.Rows PySem.Calls
set_option maxRecDepth 100000
set_option maxHeartbeats 4000000
namespace Mine
theorem off1_ne {D : Addr} : ∀ {l : List (Addr × Obj)}, LCg.Off1 D l → ∀ p ∈ l, p.1 ≠ D
  | [], _, p, hp => by cases hp
  | q :: r, y, p, hp => by
    rcases List.mem_cons.mp hp with rfl | hp
    · exact y.1
    · exact off1_ne y.2 p hp
theorem fresh_of {h₀ h h' : Heap} {L D : Addr} {o : Obj} (F : ∀ b o, h₀.get? b = some o → h.get? b = some o) (ND : h'.get? D = some o ∧ D ≠ L ∧ h₀.get? D = none) (o1 : LCg.Off1 D (allNews h₀ L h)) : h.get? D = none := by
  cases e : h.get? D with
  | none => rfl
  | some o => exact absurd rfl (off1_ne o1 _ (allNews_is.mpr ⟨e, ND.2.1, ND.2.2⟩))
theorem snoc_all {G : Nat → Value → Prop} {ys : List Value} {y : Value} (hg : ∀ j z, ys[j]? = some z → G j z) (gy : G ys.length y) : ∀ j z, (ys ++ [y])[j]? = some z → G j z := fun j z hz => by
  by_cases hj : j < ys.length
  · rw [List.getElem?_append_left hj] at hz
    exact hg j z hz
  · rw [List.getElem?_append_right (by omega)] at hz
    have : j - ys.length = 0 := by
      cases q : j - ys.length with
      | zero => rfl
      | succ r => rw [q] at hz; simp at hz
    rw [this] at hz
    simp at hz
    have : j = ys.length := by omega
    subst this
    subst hz
    exact gy
section
variable {w : World} {A : Around} {E : Value → Shared → Prop} {s : Shared} {h₀ : Heap} {L : Addr} {m : Str → Option Value} {env : Env}
abbrev updM (m : Str → Option Value) (y : Str) (D : Addr) : Str → Option Value := fun z => if z = y then some (.ref D) else m z
theorem rest_A {elt : Expr} {x y : Str} {Q : Flow → Shared → Prop} {scope : Scope} {cl : List (Str × Addr)} {s₁ s₂ : Shared} (hs₂ : ∃ g, s₂ = { s₁ with heap := g }) {S : List (Addr × Obj) → Prop} {n : Nat} {P' G : Nat → Value → Prop} (F₁ : Fr h₀ L s₁.heap m) (hS : S (allNews h₀ L s₁.heap))
    (turn : Turns w A h₀ L m env elt x scope cl s₁ n P' G)
    (fin : ∀ D ys h tk, Fr h₀ L h (updM m y D) → KB L s₁.heap h → h.get? D = some (LCg.lst ys) → s₁.heap.get? D = none → ys.length = n → (∀ i y, ys[i]? = some y → G i y) → Q .next { s₁ with heap := h, toks := tk }) :
    ∀ (k i : Nat) (ys : List Value), i + k = n → ys.length = i → (∀ j y, ys[j]? = some y → G j y) → LCg.CompRest P w A h₀ L m env elt x scope cl s₂ S P' (LCg.FinA h₀ L m s₂ y Q) k i ys (allNews h₀ L s₁.heap)
  | 0, i, ys, hi, hl, hg => by
    obtain ⟨g, rfl⟩ := hs₂
    refine LCg.CompRest.zero fun D h tk F N o1 => ?_
    have ND := N (D, LCg.lst ys) (.head _)
    exact fin D ys h tk F (KB.of F₁ F fun p hp => N p (.tail _ hp)) ND.1 (fresh_of F₁.keep ND o1) (by omega) hg
  | k + 1, i, ys, hi, hl, hg => by
    refine LCg.CompRest.succ fun v I oI C oC D m₂ h tk E' hv hC hx F N off ne => ?_
    have hs₂' := hs₂
    obtain ⟨g, rfl⟩ := hs₂
    have NC := N (C, oC) (.tail _ (.head _))
    refine wpAny_mono (turn i v C m₂ h tk E' (by omega) hv (hC.ns NC.1) hx F (KB.of F₁ F fun p hp => N p (.tail _ (.tail _ (.tail _ hp))))) (fun y s₃ hy => ?_) fun _ _ e => e
    obtain ⟨h', tk', rfl, kk, gy⟩ := hy
    refine ⟨h', tk', allNews h₀ L s₁.heap, rfl, F.keeps kk, N.grown kk, off, hS, ?_⟩
    exact rest_A hs₂' F₁ hS turn fin k (i + 1) (ys ++ [y]) (by omega) (by simp [hl]) (snoc_all hg (hl ▸ gy))
theorem asg_list {elt iter : Expr} {x y : Str} {px py : Pos} {scope : Scope} {cl : List (Str × Addr)} {pos spos : Pos} {Q : Flow → Shared → Prop} (F₀ : Fr h₀ L s.heap m) (hh : A.handled = none)
    (h : wpAny (model P w) A (eval iter env) (fun xv s₁ => ∃ (ax : Addr) (its : Array Value) (k : Nat) (G : Nat → Value → Prop), xv = .ref ax ∧ Fr h₀ L s₁.heap m ∧ s₁.heap.get? ax = some { cls := .type "list", data := .seq its k } ∧ ax ≠ L ∧ h₀.get? ax = none ∧ its.size ≤ sizeLine ∧
      Turns w A h₀ L m env elt x scope cl s₁ its.size (fun i v => its[i]? = some v) G ∧
      (∀ D ys h tk, Fr h₀ L h (updM m y D) → KB L s₁.heap h → h.get? D = some (LCg.lst ys) → s₁.heap.get? D = none → ys.length = its.size → (∀ i y, ys[i]? = some y → G i y) → Q .next { s₁ with heap := h, toks := tk })) E s)
    (hLe : env.locals = L := by rfl)
    (hsw : swapsWith (.ListComp elt [⟨.Name x px, iter, [], 0⟩] scope pos) (some (.Name y py)) spos.line env = pure true := by with_unfolding_all rfl)
    (hclos : closureFor scope env = pure cl := by with_unfolding_all rfl) (hcell : ∀ y ∈ scope.names, y.2 ≠ .cell := by decide) (hkind : scope.kind = .function := by rfl)
    (hnames : ∀ y ∈ scope.names, y.2 = .local → scope.names.lookup y.1 = some .local := by decide) (hx : scope.names.lookup x = some .local := by rfl)
    (hy : env.kindOf y = some .local := by rfl) (hp : (env.scope.kind == .class || (env.scope.kind == .module && env.locals != env.globals)) = false := by rfl)
    (hs : ∀ x, foldedSetIterable iter env x = pure x := by intro _; rfl) :
    wpAny (model P w) A (exec (.Assign [.Name y py] (.ListComp elt [⟨.Name x px, iter, [], 0⟩] scope pos) spos) env) Q E s := by
  refine LCg.Assign_ListComp_U F₀ hLe hsw hclos hcell hkind hnames hx hy hp (wpAny_mono h (fun xv s₁ hq => ?_) fun _ _ e => e) hs
  obtain ⟨ax, its, k, G, rfl, F₁, ho, hL, h0, hsz, turn, fin⟩ := hq
  refine LCg.CompSrc.ledger hh F₁ (allNews_news _ _ _) (allNews_is.mpr ⟨ho, hL, h0⟩) hsz fun g => ?_
  exact rest_A ⟨g, rfl⟩ F₁ (.inr ⟨_, allNews_is.mpr ⟨ho, hL, h0⟩, rfl, k, rfl⟩) turn fin its.size 0 [] (by omega) rfl (fun j y hy => by simp at hy)
theorem asg_range {elt iter : Expr} {x y : Str} {px py : Pos} {scope : Scope} {cl : List (Str × Addr)} {pos spos : Pos} {Q : Flow → Shared → Prop} (F₀ : Fr h₀ L s.heap m) (hh : A.handled = none)
    (h : wpAny (model P w) A (eval iter env) (fun xv s₁ => ∃ (r : Addr) (b : Nat) (t u v : Tok) (G : Nat → Value → Prop), xv = .ref r ∧ Fr h₀ L s₁.heap m ∧ IsRange s₁.heap r 0 b 1 t u v ∧ b ≤ 1000 ∧
      Turns w A h₀ L m env elt x scope cl s₁ b (fun i v => ∃ t, v = .int i t) G ∧
      (∀ D ys h tk, Fr h₀ L h (updM m y D) → KB L s₁.heap h → h.get? D = some (LCg.lst ys) → s₁.heap.get? D = none → ys.length = b → (∀ i y, ys[i]? = some y → G i y) → Q .next { s₁ with heap := h, toks := tk })) E s)
    (hLe : env.locals = L := by rfl)
    (hsw : swapsWith (.ListComp elt [⟨.Name x px, iter, [], 0⟩] scope pos) (some (.Name y py)) spos.line env = pure true := by with_unfolding_all rfl)
    (hclos : closureFor scope env = pure cl := by with_unfolding_all rfl) (hcell : ∀ y ∈ scope.names, y.2 ≠ .cell := by decide) (hkind : scope.kind = .function := by rfl)
    (hnames : ∀ y ∈ scope.names, y.2 = .local → scope.names.lookup y.1 = some .local := by decide) (hx : scope.names.lookup x = some .local := by rfl)
    (hy : env.kindOf y = some .local := by rfl) (hp : (env.scope.kind == .class || (env.scope.kind == .module && env.locals != env.globals)) = false := by rfl)
    (hs : ∀ x, foldedSetIterable iter env x = pure x := by intro _; rfl) :
    wpAny (model P w) A (exec (.Assign [.Name y py] (.ListComp elt [⟨.Name x px, iter, [], 0⟩] scope pos) spos) env) Q E s := by
  refine LCg.Assign_ListComp_U F₀ hLe hsw hclos hcell hkind hnames hx hy hp (wpAny_mono h (fun xv s₁ hq => ?_) fun _ _ e => e) hs
  obtain ⟨r, b, t, u, v, G, rfl, F₁, hr, hb, turn, fin⟩ := hq
  refine LCg.CompSrc.range hh F₁ (allNews_news _ _ _) hr ?_ (n := b) ?_ (by rw [sizeLine_eq]; omega) fun g => ?_
  · exact small_one (by omega) (by omega) (by omega) (by omega)
  · rw [rangeSize_pos (by decide) (by omega)]
    omega
  · exact rest_A ⟨g, rfl⟩ F₁ trivial (fun i v C m₂ h tk E' hi hv => turn i v C m₂ h tk E' hi (by obtain ⟨t, rfl⟩ := hv; exact ⟨t, by rw [Int.zero_add]⟩)) fin b 0 [] (by omega) rfl (fun j y hy => by simp at hy)
/-- a comprehension over the labels, whose element is the pair's second -/
theorem rest_P {x x₂ : Str} {pe : Pos} {scope : Scope} {cl : List (Str × Addr)} {s₁ s₂ : Shared} {Q : Value → Shared → Prop} (hs₂ : ∃ g, s₂ = { s₁ with heap := g }) {S : List (Addr × Obj) → Prop} {its : Array Value} {abs : List (Str × Str)} (F₁ : Fr h₀ L s₁.heap m) (hS : S (allNews h₀ L s₁.heap))
    (src : ∀ (i : Nat) (v : Value), its[i]? = some v → ∃ (b : Addr) (t t' : Tok) (k : Nat) (ab : Str × Str), abs[i]? = some ab ∧ v = .ref b ∧ b ≠ L ∧ h₀.get? b = none ∧ s₁.heap.get? b = some (tob [.str ab.1 t, .str ab.2 t'] k)) (hlen : its.size = abs.length)
    (hk : ∀ C, (compEnvC scope cl C env).scope.kind = .function) (hl : ∀ C, (compEnvC scope cl C env).kindOf x₂ = some .local) (hd : (x₂ == ("__debug__" : Str)) = false)
    (fin : ∀ D h tk, Fr h₀ L h m → KB L s₁.heap h → LD h D (abs.map (·.2)) → Q (.ref D) { s₁ with heap := h, toks := tk }) :
    ∀ (k i : Nat) (ys : List Value), i + k = its.size → StrsAre ys ((abs.take i).map (·.2)) → LCp.CompRestP P w A h₀ L m env (.Name x₂ pe) x x₂ scope cl s₂ S (fun i v => its[i]? = some v) (LCg.FinE h₀ L m s₂ Q) k i ys (allNews h₀ L s₁.heap)
  | 0, i, ys, hi, hg => by
    obtain ⟨g, rfl⟩ := hs₂
    refine LCp.CompRestP.zero fun D h tk F N o1 => ?_
    have ND := N (D, LCg.lst ys) (.head _)
    refine fin D h tk F (KB.of F₁ F fun p hp => N p (.tail _ hp)) ?_
    rw [List.take_of_length_le (by omega)] at hg
    exact ⟨ys, _, ND.1, hg⟩
  | k + 1, i, ys, hi, hg => by
    refine LCp.CompRestP.succ fun v hv => ?_
    obtain ⟨b, t, t', n, ab, e1, rfl, e2, e3, e4⟩ := src i v hv
    refine ⟨b, _, _, _, n, rfl, allNews_is.mpr ⟨e4, e2, e3⟩, rfl, rfl, fun I oI C oC D m₂ h tk E' hC hx hx₂ F N off ne => ?_⟩
    have hs₂' := hs₂
    obtain ⟨g, rfl⟩ := hs₂
    have NC := N (C, oC) (.tail _ (.head _))
    refine name_l (env := compEnvC scope cl C env) (hC.ns NC.1) hx₂ ?_ (hk C) (hl C) hd
    refine ⟨h, tk, allNews h₀ L s₁.heap, rfl, F, N, off, hS, ?_⟩
    refine rest_P hs₂' F₁ hS src hlen hk hl hd fin k (i + 1) _ (by omega) ?_
    have : (abs.take (i + 1)).map (·.2) = (abs.take i).map (·.2) ++ [ab.2] := by
      rw [List.take_add_one, e1]; simp
    rw [this]
    exact strs_snoc hg
theorem comp_pair {iter : Expr} {x x₂ : Str} {pe px px₂ tp : Pos} {tk : Nat} {scope : Scope} {cl : List (Str × Addr)} {pos : Pos} {Q : Value → Shared → Prop} {abs : List (Str × Str)} (F₀ : Fr h₀ L s.heap m) (hh : A.handled = none)
    (h : wpAny (model P w) A (eval iter env) (fun xv s₁ => ∃ (ax : Addr) (its : Array Value) (k : Nat), xv = .ref ax ∧ Fr h₀ L s₁.heap m ∧ s₁.heap.get? ax = some { cls := .type "list", data := .seq its k } ∧ ax ≠ L ∧ h₀.get? ax = none ∧ its.size ≤ sizeLine ∧ its.size = abs.length ∧
      (∀ (i : Nat) (v : Value), its[i]? = some v → ∃ (b : Addr) (t t' : Tok) (k : Nat) (ab : Str × Str), abs[i]? = some ab ∧ v = .ref b ∧ b ≠ L ∧ h₀.get? b = none ∧ s₁.heap.get? b = some (tob [.str ab.1 t, .str ab.2 t'] k)) ∧
      (∀ D h tk, Fr h₀ L h m → KB L s₁.heap h → LD h D (abs.map (·.2)) → Q (.ref D) { s₁ with heap := h, toks := tk })) E s)
    (hclos : closureFor scope env = pure cl := by with_unfolding_all rfl) (hcell : ∀ y ∈ scope.names, y.2 ≠ .cell := by decide) (hkind : scope.kind = .function := by rfl)
    (hnames : ∀ y ∈ scope.names, y.2 = .local → scope.names.lookup y.1 = some .local := by decide) (hx : scope.names.lookup x = some .local := by rfl) (hx₂ : scope.names.lookup x₂ = some .local := by rfl) (hxx : x ≠ x₂ := by decide)
    (hk : ∀ C, (compEnvC scope cl C env).scope.kind = .function := by intro _; rfl) (hl : ∀ C, (compEnvC scope cl C env).kindOf x₂ = some .local := by intro _; rfl) (hd : (x₂ == ("__debug__" : Str)) = false := by decide)
    (hs : ∀ x, foldedSetIterable iter env x = pure x := by intro _; rfl) :
    wpAny (model P w) A (eval (.ListComp (.Name x₂ pe) [⟨.Tuple [.Name x px, .Name x₂ px₂] tk tp, iter, [], 0⟩] scope pos) env) Q E s := by
  refine LCp.ListComp_P F₀ hclos hcell hkind hnames hx hx₂ hxx (wpAny_mono h (fun xv s₁ hq => ?_) fun _ _ e => e) hs
  obtain ⟨ax, its, k, rfl, F₁, ho, hL, h0, hsz, hlen, src, fin⟩ := hq
  refine LCp.SrcLP.ledger hh F₁ (allNews_news _ _ _) (allNews_is.mpr ⟨ho, hL, h0⟩) hsz fun g => ?_
  exact rest_P ⟨g, rfl⟩ F₁ (.inr ⟨_, allNews_is.mpr ⟨ho, hL, h0⟩, rfl, k, rfl⟩) src hlen hk hl hd fin its.size 0 [] (by omega) .nil
end
end Mine

end

section 
-- text C16
open PySem PySem.W PyProof.Rows PySem.Calls
set_option maxRecDepth 100000
set_option maxHeartbeats 4000000
namespace Mine
def selF (pz : Nat → Bool) : Nat → List Value → List Value
  | _, [] => []
  | i, v :: r => (if pz i = true then [v] else []) ++ selF pz (i + 1) r
section
variable {w : World} {A : Around} {E : Value → Shared → Prop} {s : Shared} {h₀ : Heap} {L : Addr} {m : Str → Option Value} {env : Env}
/-- the tests of a comprehension -/
abbrev Tests (w : World) (A : Around) (h₀ : Heap) (L : Addr) (m : Str → Option Value) (env : Env) (ct : Expr) (x : Str) (scope : Scope) (cl : List (Str × Addr)) (s₁ : Shared) (its : List Value) (pz : Nat → Bool) : Prop :=
  ∀ i v C m₂ h tk (E' : Value → Shared → Prop), its[i]? = some v → h.Ns C m₂ → m₂ x = some v → Fr h₀ L h m → KB L s₁.heap h →
    wpAny (model P w) A (isTrue ct (compEnvC scope cl C env) (eval ct (compEnvC scope cl C env))) (fun ok s' => ok = pz i ∧ ∃ h' tk', s' = { s₁ with heap := h', toks := tk' } ∧ ∀ b o, h.get? b = some o → h'.get? b = some o) E' { s₁ with heap := h, toks := tk }
theorem rest_T {ct : Expr} {x : Str} {pe : Pos} {scope : Scope} {cl : List (Str × Addr)} {s₁ s₂ : Shared} {Q : Value → Shared → Prop} (hs₂ : ∃ g, s₂ = { s₁ with heap := g }) {S : List (Addr × Obj) → Prop} {its : List Value} {pz : Nat → Bool} (F₁ : Fr h₀ L s₁.heap m) (hS : S (allNews h₀ L s₁.heap))
    (tests : Tests w A h₀ L m env ct x scope cl s₁ its pz)
    (hk : ∀ C, (compEnvC scope cl C env).scope.kind = .function) (hl : ∀ C, (compEnvC scope cl C env).kindOf x = some .local) (hd : (x == ("__debug__" : Str)) = false)
    (fin : ∀ D h tk, Fr h₀ L h m → KB L s₁.heap h → h.get? D = some (LCg.lst (selF pz 0 its)) → Q (.ref D) { s₁ with heap := h, toks := tk }) :
    ∀ (k i : Nat) (ys : List Value), i + k = its.length → ys ++ selF pz i (its.drop i) = selF pz 0 its → LCt.CompRestT P w A h₀ L m env ct (.Name x pe) x scope cl s₂ S (fun i v => its.toArray[i]? = some v) (LCg.FinE h₀ L m s₂ Q) k i ys (allNews h₀ L s₁.heap)
  | 0, i, ys, hi, hg => by
    obtain ⟨g, rfl⟩ := hs₂
    refine LCt.CompRestT.zero fun D h tk F N o1 => ?_
    have ND := N (D, LCg.lst ys) (.head _)
    refine fin D h tk F (KB.of F₁ F fun p hp => N p (.tail _ hp)) ?_
    rw [List.drop_of_length_le (by omega)] at hg
    rw [← hg]
    simpa [selF] using ND.1
  | k + 1, i, ys, hi, hg => by
    refine LCt.CompRestT.succ fun v I oI C oC D m₂ h tk E' hv hC hx F N off ne => ?_
    have hs₂' := hs₂
    obtain ⟨g, rfl⟩ := hs₂
    have NC := N (C, oC) (.tail _ (.head _))
    have hv' : its[i]? = some v := by simpa using hv
    have hcons : its.drop i = v :: its.drop (i + 1) := by
      have hlt : i < its.length := by omega
      rw [List.drop_eq_getElem_cons hlt]
      rw [List.getElem?_eq_getElem hlt] at hv'
      rw [Option.some.inj hv']
    rw [hcons] at hg
    refine wpAny_mono (tests i v C m₂ h tk E' hv' (hC.ns NC.1) hx F (KB.of F₁ F fun p hp => N p (.tail _ (.tail _ (.tail _ hp))))) (fun ok s₃ hy => ?_) fun _ _ e => e
    obtain ⟨rfl, h', tk', rfl, kk⟩ := hy
    cases hp : pz i with
    | true =>
      rw [if_pos rfl]
      refine name_l (env := compEnvC scope cl C env) (Heap.Ns.keeps (hC.ns NC.1) kk) hx ?_ (hk C) (hl C) hd
      refine ⟨h', tk', allNews h₀ L s₁.heap, rfl, F.keeps kk, N.grown kk, off, hS, ?_⟩
      refine rest_T hs₂' F₁ hS tests hk hl hd fin k (i + 1) (ys ++ [v]) (by omega) ?_
      rw [← hg]
      simp [selF, hp]
    | false =>
      rw [if_neg (by decide)]
      refine ⟨h', tk', allNews h₀ L s₁.heap, rfl, F.keeps kk, N.grown kk, off, hS, ?_⟩
      refine rest_T hs₂' F₁ hS tests hk hl hd fin k (i + 1) ys (by omega) ?_
      rw [← hg]
      simp [selF, hp]
theorem comp_sel {ct iter : Expr} {x : Str} {pe px : Pos} {scope : Scope} {cl : List (Str × Addr)} {pos : Pos} {Q : Value → Shared → Prop} (F₀ : Fr h₀ L s.heap m) (hh : A.handled = none)
    (h : wpAny (model P w) A (eval iter env) (fun xv s₁ => ∃ (ax : Addr) (its : List Value) (k : Nat) (pz : Nat → Bool), xv = .ref ax ∧ Fr h₀ L s₁.heap m ∧ s₁.heap.get? ax = some (tob its k) ∧ ax ≠ L ∧ h₀.get? ax = none ∧ its.length ≤ 1000 ∧
      Tests w A h₀ L m env ct x scope cl s₁ its pz ∧
      (∀ D h tk, Fr h₀ L h m → KB L s₁.heap h → h.get? D = some (LCg.lst (selF pz 0 its)) → Q (.ref D) { s₁ with heap := h, toks := tk })) E s)
    (hclos : closureFor scope env = pure cl := by with_unfolding_all rfl) (hcell : ∀ y ∈ scope.names, y.2 ≠ .cell := by decide) (hkind : scope.kind = .function := by rfl)
    (hnames : ∀ y ∈ scope.names, y.2 = .local → scope.names.lookup y.1 = some .local := by decide) (hx : scope.names.lookup x = some .local := by rfl)
    (hk : ∀ C, (compEnvC scope cl C env).scope.kind = .function := by intro _; rfl) (hl : ∀ C, (compEnvC scope cl C env).kindOf x = some .local := by intro _; rfl) (hd : (x == ("__debug__" : Str)) = false := by decide)
    (hs : ∀ x, foldedSetIterable iter env x = pure x := by intro _; rfl) :
    wpAny (model P w) A (eval (.ListComp (.Name x pe) [⟨.Name x px, iter, [ct], 0⟩] scope pos) env) Q E s := by
  rw [eval_ListComp]
  refine wpAny_comprehension_free (use := none) rfl hs hclos hkind hnames (wpAny_mono h (fun xv s₁ h₁ => ?_) fun _ _ e => e)
  obtain ⟨ax, its, k, pz, rfl, F, ho, hL, h0, hsz, tests, fin⟩ := h₁
  have ht : s₁.heap.IsTuple ax its.toArray := ⟨_, ho, rfl, k, rfl⟩
  have hlt : ax < s₁.heap.objs.size := Heap.lt_size ho
  have N := allNews_news h₀ L s₁.heap
  have nnew : h₀.get? s₁.heap.objs.size = none := by
    cases e : h₀.get? s₁.heap.objs.size with
    | none => rfl
    | some o => exact absurd (Heap.lt_size (F.keep _ _ e)) (Nat.lt_irrefl _)
  refine wpAny_pyIter_tuple ht ?_
  have up : ∀ b o, s₁.heap.get? b = some o → (s₁.heap.push { cls := .type "tuple_iterator", data := .fields #[.ref ax, .int 0 0] }).get? b = some o := fun b o e => Heap.get?_push_of_some _ e
  have hax : (ax, tob its k) ∈ allNews h₀ L s₁.heap := allNews_is.mpr ⟨ho, hL, h0⟩
  refine LCt.block_T (S := fun nw => (ax, tob its k) ∈ nw) (Fin := LCg.FinE h₀ L m { s₁ with heap := s₁.heap.push { cls := .type "tuple_iterator", data := .fields #[.ref ax, .int 0 0] } } Q) (Walks.tuple hh s₁.heap.objs.size ax (Nat.ne_of_lt hlt) its.toArray) (by rw [List.size_toArray, sizeLine_eq]; omega) (fun i h st => by obtain ⟨o, e, _⟩ := st.1; exact ⟨o, e⟩)
    (fun i h h' o nw st e e' k N S => ⟨by obtain ⟨o', q, r⟩ := st.1; rw [e] at q; cases q; exact ⟨o, e', r⟩, ⟨_, (N _ S).1, rfl, _, rfl⟩⟩)
    hcell hkind hx ⟨⟨_, Heap.get?_push_size _ rfl, rfl, rfl⟩, ⟨_, up _ _ ho, rfl, k, rfl⟩⟩ (fun b hb => ?_)
    (F.keeps up) (N.grown up) (Nat.ne_of_lt F.ns.lt) nnew (fun p hp => Nat.ne_of_lt (Heap.lt_size (N p hp).1)) hax ?_ ?_
  · show b < (s₁.heap.push _).objs.size
    rw [Heap.size_push]
    rcases List.mem_cons.mp hb with rfl | hb
    · exact Nat.lt_succ_self _
    · rw [List.mem_singleton.mp hb]; exact Nat.lt_succ_of_lt hlt
  · refine rest_T ⟨_, rfl⟩ F hax tests hk hl hd fin its.toArray.size 0 [] (by simp) (by simp)
  · intro D C h tk m' ys news' F' N' o1 hn hC₀ hD₀ hCL hDL hCD offC fin'
    refine ⟨m', hn, fun h'' hs'' => fin' D h'' tk (F'.change hs'' hCL hC₀) (fun p hp => ?_) o1⟩
    refine ⟨hs''.extBut _ _ ?_ (N' p hp).1, (N' p hp).2⟩
    rcases List.mem_cons.mp hp with rfl | hp
    · exact Ne.symm hCD
    · exact offC p hp
end
end Mine

end

section 
-- text C17
open PySem PySem.W PyProof.Rows PySem.Calls
set_option maxRecDepth 100000
set_option maxHeartbeats 1000000
namespace Mine
/-- law's frame -/
abbrev lawE (L f : Addr) (cd : Value) : Env := envOfC (fdef 28).name (fdef 28).scope L f cd
def lawS (i : Nat) : Stmt := match (fdef 28).body[i]? with
  | some s => s
  | none => .Pass ⟨0, 0, 0, 0⟩
/-- the labels, new in the call -/
def LabN (h₀ : Heap) (L : Addr) (h : Heap) (l : Addr) (abs : List (Str × Str)) : Prop := l ≠ L ∧ h₀.get? l = none ∧ ∃ ys, h.get? l = some (LCg.lst ys) ∧ ys.length = abs.length ∧
  ∀ (i : Nat) (ab : Str × Str), abs[i]? = some ab → ∃ (b : Addr) (t t' : Tok) (n : Nat), ys[i]? = some (Value.ref b) ∧ b ≠ L ∧ h₀.get? b = none ∧ h.get? b = some (tob [.str ab.1 t, .str ab.2 t'] n)
theorem LabN.kt {h₀ h h' : Heap} {L l : Addr} {abs : List (Str × Str)} (x : LabN h₀ L h l abs) (k : KT h h') : LabN h₀ L h' l abs := by
  obtain ⟨e0, e1, ys, e2, e3, e4⟩ := x
  refine ⟨e0, e1, ys, k.seq _ _ _ _ e2 rfl, e3, fun i ab hi => ?_⟩
  obtain ⟨b, t, t', n, f1, f2, f3, f4⟩ := e4 i ab hi
  exact ⟨b, t, t', n, f1, f2, f3, k.seq _ _ _ _ f4 rfl⟩
theorem LabN.r {h₀ h : Heap} {L l : Addr} {abs : List (Str × Str)} (x : LabN h₀ L h l abs) : LabR h l abs := by
  obtain ⟨e0, e1, ys, e2, e3, e4⟩ := x
  refine ⟨ys, e2, e3, fun i ab hi => ?_⟩
  obtain ⟨b, t, t', n, f1, f2, f3, f4⟩ := e4 i ab hi
  exact ⟨b, t, t', n, f1, f4⟩
/-- the names that law reads -/
structure Nms (mg mb : Str → Option Value) (fl fp fq fh fr fd : Addr) (h₀ : Heap) : Prop where
  nl : mg "_law_labels" = some (.ref fl)
  np : mg "_law_pieces" = some (.ref fp)
  nq : mg "quote" = some (.ref fq)
  nh : mg "header_decode" = some (.ref fh)
  nr : mg "reach" = some (.ref fr)
  nd : mg "domain_match" = some (.ref fd)
  al : FnAt h₀ fl
  ap : FnAt h₀ fp
  aq : FnAt h₀ fq
  ah : FnAt h₀ fh
  ar : FnAt h₀ fr
  ad : FnAt h₀ fd
theorem Nms.of {mean : ExcName → Option Value} {mg mb : Str → Option Value} {h : Heap} (W : Wd mean mg mb h) : ∃ fl fp fq fh fr fd, Nms mg mb fl fp fq fh fr fd h := by
  obtain ⟨fl, e1, a1⟩ := has_fn (i := 26) W 7 (by kernel_rfl)
  obtain ⟨fp, e2, a2⟩ := has_fn (i := 27) W 8 (by kernel_rfl)
  obtain ⟨fq, e3, a3⟩ := has_fn (i := 19) W 4 (by kernel_rfl)
  obtain ⟨fh, e4, a4⟩ := has_fn (i := 24) W 6 (by kernel_rfl)
  obtain ⟨fr, e5, a5⟩ := has_fn (i := 5) W 2 (by kernel_rfl)
  obtain ⟨fd, e6, a6⟩ := has_fn (i := 4) W 1 (by kernel_rfl)
  exact ⟨fl, fp, fq, fh, fr, fd, e1, e2, e3, e4, e5, e6, a1, a2, a3, a4, a5, a6⟩
section
variable {w : World} {A : Around} {E : Value → Shared → Prop} {s : Shared} {mean : ExcName → Option Value} {mg mb : Str → Option Value} {Q : Flow → Shared → Prop} {h₀ : Heap} {L f : Addr} {cd : Value} {m : Str → Option Value} {cv : Nat → Option Value} {fl fp fq fh fr fd : Addr}
local macro_rules | `(tactic| walk_at "go") => `(tactic| repeat' ((fail_if_success (with_reducible show wpAny _ _ (call (Value.ref _) _) _ _ _)); (fail_if_success (with_reducible show wpAny _ _ (subscriptTail _ _ (Value.ref _) _) _ _ _)); (fail_if_success (with_reducible show wpAny _ _ (newList _) _ _ _)); walk1))
local macro_rules | `(tactic| walk_at "eval Call Name") => `(tactic| ((refine' call_def ?kF ?kW ?kf ?kn ?_); (case kF => assumption); (case kW => assumption); (case kf => assumption); (case kn => assumption)))
local macro_rules | `(tactic| walk_at "Here") => `(tactic| ((refine' And.intro (Exists.intro _ ?kF) ?_); (case kF => assumption)))
local macro_rules | `(tactic| walk_at "eval Name") => `(tactic| ((refine' name_g ?kF ?kW ?kf ?_); (case kF => assumption); (case kW => assumption); (case kf => assumption)))
local macro_rules | `(tactic| walk_at "eval Name") => `(tactic| ((refine' name_b ?kF ?kW ?kf ?_); (case kF => assumption); (case kW => assumption); (case kf => assumption)))
local macro_rules | `(tactic| walk_at "eval Name") => `(tactic| ((refine' name_c ?kf ?_); (case kf => assumption)))
local macro_rules | `(tactic| walk_at "eval Name") => `(tactic| ((refine' name_l ?kn ?kf ?_); (case kn => assumption); (case kf => assumption)))
/-- a cell of law is stored -/
theorem put_c {M : Model} {env : Env} {x : Str} {i : Nat} {v : Value} {Q : Unit → Shared → Prop} (X : St h₀ L m cv s.heap) (hi : i < 7)
    (h : ∀ h', St h₀ L m (fun j => if j = i then some v else cv j) h' → KT s.heap h' → Q () { s with heap := h' })
    (hk : env.scope.kind = .function := by rfl) (hl : env.kindOf x = some .cell := by rfl) (hc : env.cells.lookup x = some (L + (i + 1)) := by rfl) : wpAny M A (storeName env x v) Q E s :=
  st_c (X.c i hi) (fun h' c' k => h h' (X.cell hi c' k) (X.ktc hi k)) hk hl hc
theorem put_l {M : Model} {env : Env} {x : Str} {v : Value} {Q : Unit → Shared → Prop} (X : St h₀ L m cv s.heap) (hL : env.locals = L)
    (h : ∀ h', St h₀ L (fun y => if y = x then some v else m y) cv h' → KT s.heap h' → Q () { s with heap := h', toks := s.toks + 1 })
    (hk : env.scope.kind = .function := by rfl) (hl : env.kindOf x = some .local := by rfl) : wpAny M A (storeName env x v) Q E s := by
  subst hL
  exact st_l X.F (fun h' F' kb => h h' (X.step F' kb) (X.ktb kb)) hk hl
theorem s0 {a : Addr} {vs : List Value} {ns : List Int} (X : St h₀ L m cv s.heap) (W : Wd mean mg mb h₀) (N : Nms mg mb fl fp fq fh fr fd h₀) (hh : A.handled = none) (hroom : A.depth + 30 < recursionLimit)
    (ha : m "script" = some (.ref a)) (hl : h₀.IsList a vs.toArray) (hi' : IntsAre vs ns) (hn : ns.length ≤ 1000)
    (hq : ∀ h' t l ab0 ab1 ab2 ab3, St h₀ L m (fun j => if j = 0 then some (.ref l) else cv j) h' → InTab 0 ab0 → InTab 1 ab1 → InTab 2 ab2 → InTab 3 ab3 → LabN h₀ L h' l [ab0, ab1, ab2, ab3] → Q .next { s with heap := h', toks := t }) :
    wpAny (model P w) A (exec (lawS 0) (lawE L f cd)) Q E s := by
  have F := X.F
  have nn := F.ns
  obtain ⟨n1, _, _, _, _, _, a1, _, _, _, _, _⟩ := N
  refine wpAny_Assign_Name ?_
  walk_at "go"
  refine labels_call (W.keeps F.keep) hh (by omega) n1 (IsList.keeps hl F.keep) hi' (by omega) (fun h' t l ab0 ab1 ab2 ab3 k i0 i1 i2 i3 la => ?_)
  have X' := X.keeps k
  refine put_c X' (i := 0) (by decide) (fun h'' X'' kt => ?_)
  refine hq h'' _ l ab0 ab1 ab2 ab3 X'' i0 i1 i2 i3 (LabN.kt ?_ kt)
  obtain ⟨ys, e0, e1, e2, e3⟩ := la
  obtain ⟨oL, _, _, eL, _⟩ := F.ns
  have nz : ∀ b, s.heap.get? b = none → b ≠ L ∧ h₀.get? b = none := fun b e => ⟨Ne.symm (off_none eL e), by
    cases q : h₀.get? b with
    | none => rfl
    | some o => have := F.keep _ _ q; rw [e] at this; cases this⟩
  refine ⟨(nz _ e0).1, (nz _ e0).2, ys, e1, e2, fun i ab hi => ?_⟩
  obtain ⟨y, f1, b, t, t', n, rfl, f2, f3⟩ := e3 i ab hi
  exact ⟨b, t, t', n, f1, (nz _ f2).1, (nz _ f2).2, f3⟩
theorem s1 {l : Addr} {ab0 ab1 ab2 ab3 : Str × Str} (X : St h₀ L m cv s.heap) (W : Wd mean mg mb h₀) (lab : LabR s.heap l [ab0, ab1, ab2, ab3]) (c0 : cv 0 = some (.ref l))
    (hq : ∀ h' t tk, St h₀ L m (fun j => if j = 1 then some (.str ab3.1 tk) else cv j) h' → KT s.heap h' → Q .next { s with heap := h', toks := t }) :
    wpAny (model P w) A (exec (lawS 1) (lawE L f cd)) Q E s := by
  have F := X.F
  have nn := F.ns
  have d0 := X.c 0 (by decide)
  rw [c0] at d0
  refine wpAny_Assign_Name ?_
  walk_at "go"
  refine lab_at (i := 3) (by rfl) lab (by rfl) (by decide) (fun b t t' tb => ?_)
  walk_at "go"
  refine item_tupleT (l := [_, _]) tb (by decide) (by decide) (by rfl) (by rfl) ?_
  refine put_c X (i := 1) (by decide) (fun h'' X'' kt => ?_)
  exact hq _ _ _ X'' kt
end
end Mine

end

section 
-- text C18
open PySem PySem.W PyProof.Rows PySem.Calls
set_option maxRecDepth 100000
set_option maxHeartbeats 1000000
namespace Mine
section
variable {w : World} {A : Around} {E : Value → Shared → Prop} {s : Shared} {mean : ExcName → Option Value} {mg mb : Str → Option Value} {Q : Flow → Shared → Prop} {h₀ : Heap} {L f : Addr} {cd : Value} {m : Str → Option Value} {cv : Nat → Option Value} {fl fp fq fh fr fd : Addr}
local macro_rules | `(tactic| walk_at "go") => `(tactic| repeat' ((fail_if_success (with_reducible show wpAny _ _ (call (Value.ref _) _) _ _ _)); (fail_if_success (with_reducible show wpAny _ _ (subscriptTail _ _ (Value.ref _) _) _ _ _)); (fail_if_success (with_reducible show wpAny _ _ (newList _) _ _ _)); walk1))
local macro_rules | `(tactic| walk_at "eval Call Name") => `(tactic| ((refine' call_def ?kF ?kW ?kf ?kn ?_); (case kF => assumption); (case kW => assumption); (case kf => assumption); (case kn => assumption)))
local macro_rules | `(tactic| walk_at "Here") => `(tactic| ((refine' And.intro (Exists.intro _ ?kF) ?_); (case kF => assumption)))
local macro_rules | `(tactic| walk_at "eval Name") => `(tactic| ((refine' name_g ?kF ?kW ?kf ?_); (case kF => assumption); (case kW => assumption); (case kf => assumption)))
local macro_rules | `(tactic| walk_at "eval Name") => `(tactic| ((refine' name_b ?kF ?kW ?kf ?_); (case kF => assumption); (case kW => assumption); (case kf => assumption)))
local macro_rules | `(tactic| walk_at "eval Name") => `(tactic| ((refine' name_c ?kf ?_); (case kf => assumption)))
local macro_rules | `(tactic| walk_at "eval Name") => `(tactic| ((refine' name_l ?kn ?kf ?_); (case kn => assumption); (case kf => assumption)))
theorem s2 {a : Addr} {vs : List Value} {ns : List Int} (X : St h₀ L m cv s.heap) (W : Wd mean mg mb h₀) (N : Nms mg mb fl fp fq fh fr fd h₀) (hh : A.handled = none) (hroom : A.depth + 30 < recursionLimit)
    (ha : m "script" = some (.ref a)) (hl : h₀.IsList a vs.toArray) (hi' : IntsAre vs ns) (hn : ns.length ≤ 1000)
    (hq : ∀ (h' : Heap) (t tk : Nat) (d : Str), d = "=2E" ∨ d = Txt.lower "=2E" → St h₀ L m (fun j => if j = 2 then some (.str d tk) else cv j) h' → KT s.heap h' → Q .next { s with heap := h', toks := t }) :
    wpAny (model P w) A (exec (lawS 2) (lawE L f cd)) Q E s := by
  have F := X.F
  have nn := F.ns
  have B1 := bt_sum W
  obtain ⟨_, _, n1, _, _, _, _, _, a1, _, _, _⟩ := N
  refine wpAny_Assign_Name (wpAny_mono (Q := fun v s' => ∃ (d : Str) (tk : Tok) (h' : Heap) (t : Nat), (d = "=2E" ∨ d = Txt.lower "=2E") ∧ v = .str d tk ∧ s' = { s with heap := h', toks := t } ∧ ∀ b o, s.heap.get? b = some o → h'.get? b = some o) ?_ (fun v s' h1 => ?_) fun _ _ e => e)
  rotate_left
  · obtain ⟨d, tk, h', t, hd, rfl, rfl, k⟩ := h1
    refine put_c (X.keeps k) (i := 2) (by decide) (fun h'' X'' kt => ?_)
    exact hq _ _ _ _ hd X'' (KT.trans (KT.all k) kt)
  walk_at "go"
  refine cut_any (lo := none) (hi := none) (st := some 4) (IsList.keeps hl F.keep) .none .none (.int _ _) (by decide) (by rw [List.size_toArray, hi'.length, sizeLine_eq]; omega) (fun h5 D k5 l5 => ?_)
  have F5 := F.keeps k5
  walk_at "go"
  refine sum_any hh (vs := (slicePick vs.toArray none none (some 4)).toList) (by simpa using l5) (hi'.pick _ _ _) (fun h6 t6 u6 k6 => ?_)
  have F6 := F5.keeps k6
  have k36 : ∀ b o, s.heap.get? b = some o → h6.get? b = some o := fun b o e => k6 _ _ (k5 _ _ e)
  generalize (pickNums ns none none (some 4)).sum = S
  walk_at "go"
  · refine quote_call (W.keeps F6.keep) (by omega) n1 (fun h7 t7 u7 k7 => ?_)
    have F7 := F6.keeps k7
    walk1
    dsimp only
    walk_at "go"
    refine SCL.lower (by decide +kernel) (fun _ => ?_)
    exact ⟨Txt.lower (Str.ofString "=2E"), _, _, _, .inr rfl, rfl, rfl, fun b o e => k7 _ _ (k36 _ _ e)⟩
  · refine quote_call (W.keeps F6.keep) (by omega) n1 (fun h7 t7 u7 k7 => ?_)
    exact ⟨_, _, _, _, .inl rfl, rfl, rfl, fun b o e => k7 _ _ (k36 _ _ e)⟩
end
end Mine

end

section 
-- text C19
open PySem PySem.W PyProof.Rows PySem.Calls
set_option maxRecDepth 100000
set_option maxHeartbeats 1000000
namespace Mine
/-- the pieces of a spelling -/
def pc (abs : List (Str × Str)) (d : Str) (n : Nat) : List Str := pcs abs d n 3
/-- a spelling -/
def tx (abs : List (Str × Str)) (d : Str) (n : Nat) : Str := Txt.join "" (pc abs d n)
section
variable {w : World} {A : Around} {E : Value → Shared → Prop} {s : Shared} {h₀ : Heap} {L : Addr} {m : Str → Option Value} {env : Env}
/-- turns whose value is a new object -/
abbrev TurnsN (w : World) (A : Around) (h₀ : Heap) (L : Addr) (m : Str → Option Value) (env : Env) (elt : Expr) (x : Str) (scope : Scope) (cl : List (Str × Addr)) (s₁ : Shared) (n : Nat) (P' : Nat → Value → Prop) (Go : Nat → Obj → Prop) : Prop :=
  ∀ i v C m₂ h tk (E' : Value → Shared → Prop), i < n → P' i v → h.Ns C m₂ → m₂ x = some v → Fr h₀ L h m → KB L s₁.heap h →
    wpAny (model P w) A (eval elt (compEnvC scope cl C env)) (fun y s₂ => ∃ h' tk' b ob, s₂ = { s₁ with heap := h', toks := tk' } ∧ (∀ b o, h.get? b = some o → h'.get? b = some o) ∧ y = .ref b ∧ h.get? b = none ∧ h'.get? b = some ob ∧ Go i ob) E' { s₁ with heap := h, toks := tk }
theorem rest_N {elt : Expr} {x y : Str} {Q : Flow → Shared → Prop} {scope : Scope} {cl : List (Str × Addr)} {s₁ s₂ : Shared} (hs₂ : ∃ g, s₂ = { s₁ with heap := g }) {n : Nat} {P' : Nat → Value → Prop} {Go : Nat → Obj → Prop} (F₁ : Fr h₀ L s₁.heap m)
    (turn : TurnsN w A h₀ L m env elt x scope cl s₁ n P' Go)
    (fin : ∀ D ys h tk, Fr h₀ L h (updM m y D) → KB L s₁.heap h → D ≠ L → h₀.get? D = none → h.get? D = some (LCg.lst ys) → ys.length = n → (∀ i y, ys[i]? = some y → ∃ b ob, y = .ref b ∧ h.get? b = some ob ∧ Go i ob) → Q .next { s₁ with heap := h, toks := tk }) :
    ∀ (k i : Nat) (ys : List Value) (hist : List (Addr × Obj)), i + k = n → ys.length = i → (∀ j y, ys[j]? = some y → ∃ b ob, y = .ref b ∧ (b, ob) ∈ hist ∧ Go j ob) →
      LCg.CompRest P w A h₀ L m env elt x scope cl s₂ (fun _ => True) P' (LCg.FinA h₀ L m s₂ y Q) k i ys (hist ++ allNews h₀ L s₁.heap)
  | 0, i, ys, hist, hi, hl, hg => by
    obtain ⟨g, rfl⟩ := hs₂
    refine LCg.CompRest.zero fun D h tk F N o1 => ?_
    have ND := N (D, LCg.lst ys) (.head _)
    refine fin D ys h tk F (KB.of F₁ F fun p hp => N p (.tail _ (List.mem_append_right _ hp))) ND.2.1 ND.2.2 ND.1 (by omega) fun j y hj => ?_
    obtain ⟨b, ob, e1, e2, e3⟩ := hg j y hj
    exact ⟨b, ob, e1, (N _ (.tail _ (List.mem_append_left _ e2))).1, e3⟩
  | k + 1, i, ys, hist, hi, hl, hg => by
    refine LCg.CompRest.succ fun v I oI C oC D m₂ h tk E' hv hC hx F N off ne => ?_
    have hs₂' := hs₂
    obtain ⟨g, rfl⟩ := hs₂
    have NI := N (I, oI) (.head _)
    have NC := N (C, oC) (.tail _ (.head _))
    have ND := N (D, LCg.lst ys) (.tail _ (.tail _ (.head _)))
    obtain ⟨oL, _, _, eL, _⟩ := F.ns
    refine wpAny_mono (turn i v C m₂ h tk E' (by omega) hv (hC.ns NC.1) hx F (KB.of F₁ F fun p hp => N p (.tail _ (.tail _ (.tail _ (List.mem_append_right _ hp)))))) (fun y s₃ hy => ?_) fun _ _ e => e
    obtain ⟨h', tk', b, ob, rfl, kk, rfl, nb, eb, gb⟩ := hy
    refine ⟨h', tk', (b, ob) :: (hist ++ allNews h₀ L s₁.heap), rfl, F.keeps kk, fun p hp => ?_, ⟨⟨Ne.symm (off_none NI.1 nb), Ne.symm (off_none NC.1 nb), Ne.symm (off_none ND.1 nb)⟩, off⟩, trivial, ?_⟩
    · rcases List.mem_cons.mp hp with rfl | hp
      · exact ⟨kk _ _ NI.1, NI.2⟩
      · rcases List.mem_cons.mp hp with rfl | hp
        · exact ⟨kk _ _ NC.1, NC.2⟩
        · rcases List.mem_cons.mp hp with rfl | hp
          · exact ⟨kk _ _ ND.1, ND.2⟩
          · rcases List.mem_cons.mp hp with rfl | hp
            · refine ⟨eb, Ne.symm (off_none eL nb), ?_⟩
              cases q : h₀.get? b with
              | none => rfl
              | some o => have := F.keep _ _ q; rw [nb] at this; cases this
            · have z := N p (.tail _ (.tail _ (.tail _ hp)))
              exact ⟨kk _ _ z.1, z.2⟩
    refine rest_N hs₂' F₁ turn fin k (i + 1) (ys ++ [.ref b]) ((b, ob) :: hist) (by omega) (by simp [hl]) ?_
    refine snoc_all (G := fun j y => ∃ b' ob', y = .ref b' ∧ (b', ob') ∈ (b, ob) :: hist ∧ Go j ob') (fun j y hj => ?_) ⟨b, ob, rfl, .head _, hl ▸ gb⟩
    obtain ⟨b', ob', e1, e2, e3⟩ := hg j y hj
    exact ⟨b', ob', e1, .tail _ e2, e3⟩
theorem asg_new {elt iter : Expr} {x y : Str} {px py : Pos} {scope : Scope} {cl : List (Str × Addr)} {pos spos : Pos} {Q : Flow → Shared → Prop} (F₀ : Fr h₀ L s.heap m) (hh : A.handled = none)
    (h : wpAny (model P w) A (eval iter env) (fun xv s₁ => ∃ (r : Addr) (b : Nat) (t u v : Tok) (Go : Nat → Obj → Prop), xv = .ref r ∧ Fr h₀ L s₁.heap m ∧ IsRange s₁.heap r 0 b 1 t u v ∧ b ≤ 1000 ∧
      TurnsN w A h₀ L m env elt x scope cl s₁ b (fun i v => ∃ t, v = .int i t) Go ∧
      (∀ D ys h tk, Fr h₀ L h (updM m y D) → KB L s₁.heap h → D ≠ L → h₀.get? D = none → h.get? D = some (LCg.lst ys) → ys.length = b → (∀ i y, ys[i]? = some y → ∃ b ob, y = .ref b ∧ h.get? b = some ob ∧ Go i ob) → Q .next { s₁ with heap := h, toks := tk })) E s)
    (hLe : env.locals = L := by rfl)
    (hsw : swapsWith (.ListComp elt [⟨.Name x px, iter, [], 0⟩] scope pos) (some (.Name y py)) spos.line env = pure true := by with_unfolding_all rfl)
    (hclos : closureFor scope env = pure cl := by with_unfolding_all rfl) (hcell : ∀ y ∈ scope.names, y.2 ≠ .cell := by decide) (hkind : scope.kind = .function := by rfl)
    (hnames : ∀ y ∈ scope.names, y.2 = .local → scope.names.lookup y.1 = some .local := by decide) (hx : scope.names.lookup x = some .local := by rfl)
    (hy : env.kindOf y = some .local := by rfl) (hp : (env.scope.kind == .class || (env.scope.kind == .module && env.locals != env.globals)) = false := by rfl)
    (hs : ∀ x, foldedSetIterable iter env x = pure x := by intro _; rfl) :
    wpAny (model P w) A (exec (.Assign [.Name y py] (.ListComp elt [⟨.Name x px, iter, [], 0⟩] scope pos) spos) env) Q E s := by
  refine LCg.Assign_ListComp_U F₀ hLe hsw hclos hcell hkind hnames hx hy hp (wpAny_mono h (fun xv s₁ hq => ?_) fun _ _ e => e) hs
  obtain ⟨r, b, t, u, v, Go, rfl, F₁, hr, hb, turn, fin⟩ := hq
  refine LCg.CompSrc.range hh F₁ (allNews_news _ _ _) hr ?_ (n := b) ?_ (by rw [sizeLine_eq]; omega) fun g => ?_
  · exact small_one (by omega) (by omega) (by omega) (by omega)
  · rw [rangeSize_pos (by decide) (by omega)]
    omega
  · exact rest_N ⟨g, rfl⟩ F₁ (fun i v C m₂ h tk E' hi hv => turn i v C m₂ h tk E' hi (by obtain ⟨t, rfl⟩ := hv; exact ⟨t, by rw [Int.zero_add]⟩)) fin b 0 [] [] (by omega) rfl (fun j y hy => by simp at hy)
end
section
variable {w : World} {A : Around} {E : Value → Shared → Prop} {s : Shared} {mean : ExcName → Option Value} {mg mb : Str → Option Value} {Q : Flow → Shared → Prop} {h₀ : Heap} {L f : Addr} {cd : Value} {m : Str → Option Value} {cv : Nat → Option Value} {fl fp fq fh fr fd : Addr}
local macro_rules | `(tactic| walk_at "go") => `(tactic| repeat' ((fail_if_success (with_reducible show wpAny _ _ (call (Value.ref _) _) _ _ _)); (fail_if_success (with_reducible show wpAny _ _ (subscriptTail _ _ (Value.ref _) _) _ _ _)); (fail_if_success (with_reducible show wpAny _ _ (newList _) _ _ _)); walk1))
local macro_rules | `(tactic| walk_at "eval Call Name") => `(tactic| ((refine' call_def ?kF ?kW ?kf ?kn ?_); (case kF => assumption); (case kW => assumption); (case kf => assumption); (case kn => assumption)))
local macro_rules | `(tactic| walk_at "Here") => `(tactic| ((refine' And.intro (Exists.intro _ ?kF) ?_); (case kF => assumption)))
local macro_rules | `(tactic| walk_at "eval Name") => `(tactic| ((refine' name_g ?kF ?kW ?kf ?_); (case kF => assumption); (case kW => assumption); (case kf => assumption)))
local macro_rules | `(tactic| walk_at "eval Name") => `(tactic| ((refine' name_b ?kF ?kW ?kf ?_); (case kF => assumption); (case kW => assumption); (case kf => assumption)))
local macro_rules | `(tactic| walk_at "eval Name") => `(tactic| ((refine' name_c ?kf ?_); (case kf => assumption)))
local macro_rules | `(tactic| walk_at "eval Name") => `(tactic| ((refine' name_l ?kn ?kf ?_); (case kn => assumption); (case kf => assumption)))
theorem s3 {l : Addr} {abs : List (Str × Str)} {d : Str} {td : Tok} (X : St h₀ L m cv s.heap) (W : Wd mean mg mb h₀) (N : Nms mg mb fl fp fq fh fr fd h₀) (hh : A.handled = none) (hroom : A.depth + 30 < recursionLimit)
    (lab : LabR s.heap l abs) (hab : abs.length = 4) (c0 : cv 0 = some (.ref l)) (c2 : cv 2 = some (.str d td))
    (hq : ∀ h' t D, St h₀ L (updM m "hosts" D) cv h' → KT s.heap h' → LL h' D ((List.range 8).map (pc abs d)) → D ≠ L → h₀.get? D = none → Q .next { s with heap := h', toks := t }) :
    wpAny (model P w) A (exec (lawS 3) (lawE L f cd)) Q E s := by
  have F := X.F
  have nn := F.ns
  have B1 := bt_range W
  obtain ⟨_, n1, _, _, _, _, _, a1, _, _, _, _⟩ := N
  refine asg_new (L := L) F hh ?_
  walk_at "go"
  refine call_range_1 ?_
  refine ⟨_, 8, _, _, _, fun i ob => ∃ (vs : List Value) (n : Nat), ob = { cls := .type "list", data := .seq vs.toArray n } ∧ StrsAre vs (pc abs d i), rfl, F.push _, IsRange.new _ _ _ _ _ _ _, by decide, ?_, ?_⟩
  · intro i v C m₂ h3 tk3 E' hi hv nC mC F3 kb3
    obtain ⟨t3, rfl⟩ := hv
    have k03 : KB L s.heap h3 := KB.trans (KB.all fun b o e => Heap.get?_push_of_some _ e) kb3
    have X3 := X.step F3 k03
    have d0 := X3.c 0 (by decide)
    rw [c0] at d0
    have d2 := X3.c 2 (by decide)
    rw [c2] at d2
    walk_at "go"
    refine pieces_call (W.keeps F3.keep) hh (by omega) n1 (lab.kt (X.ktb k03)) hab hi (fun h' t D k nD ld => ?_)
    obtain ⟨vs, n, e, r⟩ := ld
    exact ⟨h', _, D, _, rfl, k, rfl, nD, e, vs, n, rfl, r⟩
  · intro D ys h tk F' kb hL h0 e hl hy
    have k0 : KB L s.heap h := KB.trans (KB.all fun b o e => Heap.get?_push_of_some _ e) kb
    refine hq h _ D (X.step F' k0) (X.ktb k0) ⟨ys, _, e, by simpa using hl, fun i zs hi => ?_⟩ hL h0
    rw [List.getElem?_map] at hi
    obtain ⟨j, hj, rfl⟩ := Option.map_eq_some_iff.mp hi
    have hi8 : i < 8 := by
      have := (List.getElem?_eq_some_iff.mp hj).1
      simpa using this
    have : j = i := by
      have := (List.getElem?_eq_some_iff.mp hj).2
      simpa using this.symm
    subst this
    obtain ⟨b, ob, e1, e2, vs, n, rfl, r⟩ := hy j (ys[j]'(by omega)) (List.getElem?_eq_getElem (by omega))
    exact ⟨b, by rw [List.getElem?_eq_getElem (by omega), e1], vs, n, e2, r⟩
end
end Mine

end

section 
-- text C20
open PySem PySem.W PyProof.Rows PySem.Calls
set_option maxRecDepth 100000
set_option maxHeartbeats 1000000
namespace Mine
/-- has a spelling an end that is a name's -/
def nmB (abs : List (Str × Str)) (n : Nat) : Bool := decide (n < 4) || ((abs.getD 3 ("", "")).1 != Str.ofString "7")
/-- the host -/
def wh (abs : List (Str × Str)) : Str := Txt.join "." (abs.map (·.2))
theorem strs_of {T : Nat → Str} {n : Nat} {ys : List Value} (hl : ys.length = n) (hy : ∀ (i : Nat) (y : Value), ys[i]? = some y → ∃ t, y = Value.str (T i) t) : StrsAre ys ((List.range n).map T) := by
  induction n generalizing ys T with
  | zero =>
    have := List.length_eq_zero_iff.mp hl
    subst this
    exact .nil
  | succ k ih =>
    obtain ⟨y, r, rfl⟩ := List.exists_cons_of_length_eq_add_one hl
    obtain ⟨t, rfl⟩ := hy 0 y rfl
    rw [List.range_succ_eq_map, List.map_cons, List.map_map]
    exact .cons _ t (ih (T := fun i => T (i + 1)) (by simpa using hl) fun i z hz => hy (i + 1) z hz)
theorem bools_of {T : Nat → Bool} {n : Nat} {ys : List Value} (hl : ys.length = n) (hy : ∀ (i : Nat) (y : Value), ys[i]? = some y → y = Value.bool (T i)) : ys = ((List.range n).map T).map Value.bool := by
  refine List.ext_getElem (by simp [hl]) fun i h1 h2 => ?_
  rw [hy i _ (List.getElem?_eq_getElem h1)]
  simp
section
variable {w : World} {A : Around} {E : Value → Shared → Prop} {s : Shared} {mean : ExcName → Option Value} {mg mb : Str → Option Value} {Q : Flow → Shared → Prop} {h₀ : Heap} {L f : Addr} {cd : Value} {m : Str → Option Value} {cv : Nat → Option Value} {fl fp fq fh fr fd : Addr}
local macro_rules | `(tactic| walk_at "go") => `(tactic| repeat' ((fail_if_success (with_reducible show wpAny _ _ (call (Value.ref _) _) _ _ _)); (fail_if_success (with_reducible show wpAny _ _ (subscriptTail _ _ (Value.ref _) _) _ _ _)); (fail_if_success (with_reducible show wpAny _ _ (newList _) _ _ _)); walk1))
local macro_rules | `(tactic| walk_at "eval Call Name") => `(tactic| ((refine' call_def ?kF ?kW ?kf ?kn ?_); (case kF => assumption); (case kW => assumption); (case kf => assumption); (case kn => assumption)))
local macro_rules | `(tactic| walk_at "Here") => `(tactic| ((refine' And.intro (Exists.intro _ ?kF) ?_); (case kF => assumption)))
local macro_rules | `(tactic| walk_at "eval Name") => `(tactic| ((refine' name_g ?kF ?kW ?kf ?_); (case kF => assumption); (case kW => assumption); (case kf => assumption)))
local macro_rules | `(tactic| walk_at "eval Name") => `(tactic| ((refine' name_b ?kF ?kW ?kf ?_); (case kF => assumption); (case kW => assumption); (case kf => assumption)))
local macro_rules | `(tactic| walk_at "eval Name") => `(tactic| ((refine' name_c ?kf ?_); (case kf => assumption)))
local macro_rules | `(tactic| walk_at "eval Name") => `(tactic| ((refine' name_l ?kn ?kf ?_); (case kn => assumption); (case kf => assumption)))
theorem s4 {H : Addr} {abs : List (Str × Str)} {d : Str} (X : St h₀ L m cv s.heap) (W : Wd mean mg mb h₀) (hh : A.handled = none)
    (hH : LL s.heap H ((List.range 8).map (pc abs d))) (hL : H ≠ L) (h0 : h₀.get? H = none) (mH : m "hosts" = some (.ref H)) (hw : ∀ n, n < 8 → ((pc abs d n).map (·.length)).sum + (pc abs d n).length ≤ 1000)
    (hq : ∀ h' t D, St h₀ L (updM m "texts" D) cv h' → KT s.heap h' → LD h' D ((List.range 8).map (tx abs d)) → D ≠ L → h₀.get? D = none → Q .next { s with heap := h', toks := t }) :
    wpAny (model P w) A (exec (lawS 4) (lawE L f cd)) Q E s := by
  have F := X.F
  have nn := F.ns
  refine asg_list (L := L) F hh ?_
  walk1
  have hH' := hH
  obtain ⟨vs, n, e, el, r⟩ := hH
  have hvl : vs.length = 8 := by simpa using el
  refine ⟨H, vs.toArray, n, fun i y => ∃ t, y = .str (tx abs d i) t, rfl, F, e, hL, h0, by rw [List.size_toArray, sizeLine_eq]; omega, ?_, ?_⟩
  · intro i v C m₂ h3 tk3 E' hi hv nC mC F3 kb3
    have hi8 : i < 8 := by simpa [hvl] using hi
    obtain ⟨b, e1, e2⟩ := r i (pc abs d i) (by rw [List.getElem?_map, List.getElem?_range hi8]; rfl)
    have : v = .ref b := by
      have hv' : vs[i]? = some v := by simpa using hv
      rw [e1] at hv'; exact (Option.some.inj hv').symm
    subst this
    have e3 := e2.kt (X.ktb kb3)
    walk_at "go"
    refine join_any e3 (by decide) (by have := hw i hi8; omega) (fun t k => ?_)
    exact ⟨h3, _, rfl, fun _ _ e => e, t, rfl⟩
  · intro D ys h tk F' kb e hn hl hy
    have hl' : ys.length = 8 := by simpa [hvl] using hl
    have ND : D ≠ L ∧ h₀.get? D = none := ⟨by
      obtain ⟨o, _, _, z, _⟩ := F.ns
      exact Ne.symm (off_none z hn), by
      cases q : h₀.get? D with
      | none => rfl
      | some o => have := F.keep _ _ q; rw [hn] at this; cases this⟩
    exact hq h _ D (X.step F' kb) (X.ktb kb) ⟨ys, _, e, strs_of hl' hy⟩ ND.1 ND.2
theorem s5 {abs : List (Str × Str)} {tl : Tok} (X : St h₀ L m cv s.heap) (W : Wd mean mg mb h₀) (hh : A.handled = none) (c1 : cv 1 = some (.str (abs.getD 3 ("", "")).1 tl))
    (hq : ∀ h' t D, St h₀ L m (fun j => if j = 3 then some (.ref D) else cv j) h' → KT s.heap h' → LB h' D ((List.range 8).map (nmB abs)) → Q .next { s with heap := h', toks := t }) :
    wpAny (model P w) A (exec (lawS 5) (lawE L f cd)) Q E s := by
  have F := X.F
  have nn := F.ns
  have B1 := bt_range W
  refine wpAny_Assign_Name ?_
  refine comp_range F hh ?_
  walk_at "go"
  refine call_range_1 ?_
  refine ⟨_, 8, _, _, _, fun i y => y = .bool (nmB abs i), rfl, F.push _, IsRange.new _ _ _ _ _ _ _, by decide, ?_, ?_⟩
  · intro i v C m₂ h3 tk3 E' hi hv nC mC F3 kb3
    obtain ⟨t3, rfl⟩ := hv
    have k03 : KB L s.heap h3 := KB.trans (KB.all fun b o e => Heap.get?_push_of_some _ e) kb3
    have X3 := X.step F3 k03
    have d1 := X3.c 1 (by decide)
    rw [c1] at d1
    walk_at "go"
    · refine congrArg Value.bool ?_
      unfold nmB
      have hc : (i : Int) < 4 := by assumption
      have h4 : i < 4 := by omega
      simp [h4, hc]
    · refine congrArg Value.bool ?_
      unfold nmB
      have hc : ¬ (i : Int) < 4 := by assumption
      have h4 : ¬ i < 4 := by omega
      simp [h4, hc]
  · intro D ys h tk F' kb e hn hl hy
    have k0 : KB L s.heap h := KB.trans (KB.all fun b o e => Heap.get?_push_of_some _ e) kb
    have X' := X.step F' k0
    refine put_c X' (i := 3) (by decide) (fun h'' X'' kt => ?_)
    exact hq _ _ D X'' (KT.trans (X.ktb k0) kt) (LB.kt ⟨_, by rw [e, bools_of hl hy]⟩ kt)
theorem s6 {l : Addr} {abs : List (Str × Str)} (X : St h₀ L m cv s.heap) (W : Wd mean mg mb h₀) (hh : A.handled = none) (lab : LabN h₀ L s.heap l abs) (hab : abs.length = 4) (c0 : cv 0 = some (.ref l))
    (hw : ((abs.map (·.2)).map (·.length)).sum + (abs.map (·.2)).length ≤ 1000)
    (hq : ∀ h' t tk, St h₀ L (fun y => if y = "whole" then some (.str (wh abs) tk) else m y) cv h' → KT s.heap h' → Q .next { s with heap := h', toks := t }) :
    wpAny (model P w) A (exec (lawS 6) (lawE L f cd)) Q E s := by
  have F := X.F
  have nn := F.ns
  have d0 := X.c 0 (by decide)
  rw [c0] at d0
  refine wpAny_Assign_Name ?_
  walk_at "go"
  refine comp_pair (L := L) (abs := abs) F hh ?_
  walk1
  have lab' := lab
  obtain ⟨e0, e1, ys, e2, e3, e4⟩ := lab
  refine ⟨l, _, _, rfl, F, e2, e0, e1, ?_, ?_, ?_, ?_⟩
  · rw [List.size_toArray, sizeLine_eq]; omega
  · rw [List.size_toArray]; exact e3
  · intro i v hv
    have hv' : ys[i]? = some v := by simpa using hv
    have hi : i < abs.length := by
      have := (List.getElem?_eq_some_iff.mp hv').1
      omega
    obtain ⟨b, t, t', n, f1, f2, f3, f4⟩ := e4 i abs[i] (List.getElem?_eq_getElem hi)
    rw [f1] at hv'
    exact ⟨b, t, t', n, abs[i], List.getElem?_eq_getElem hi, (Option.some.inj hv').symm, f2, f3, f4⟩
  · intro D h tk F' kb ld
    have X' := X.step F' kb
    walk_at "go"
    refine join_any ld (by decide) (by omega) (fun t k => ?_)
    refine put_l X' rfl (fun h'' X'' kt => ?_)
    exact hq _ _ _ X'' (KT.trans (X.ktb kb) kt)
end
end Mine

end

section 
-- text C21
open PySem PySem.W PyProof.Rows PySem.Calls
set_option maxRecDepth 100000
set_option maxHeartbeats 1000000
namespace Mine
theorem bne_no {x : Str} (h : (x != x) = true) : False := by simp at h
section
variable {w : World} {A : Around} {E : Value → Shared → Prop} {s : Shared} {Q : Value → Shared → Prop}
theorem cut_sn {x : Str} {t : Tok} {value slice : PySem.Expr} {j : Int} {uj : Tok} (hsz : x.length ≤ 1000)
    (h : ∀ h' t' k, (∀ b o, s.heap.get? b = some o → h'.get? b = some o) → Q (.str (Txt.slice x (some j) none) t') { s with heap := h', toks := k })
    (hs : subscripted slice false (.str x t) (.ref s.heap.objs.size) = operate [.ref s.heap.objs.size, .str x t] (getItem (.str x t) (.ref s.heap.objs.size)) := by with_unfolding_all rfl)
    (ht : ∀ r, letTemporaryGo value (.str x t) r = pure () := by intro _; with_unfolding_all rfl) :
    wpAny (model P w) A (subscriptTail value slice (.str x t) (.ref s.heap.objs.size)) Q E { s with heap := s.heap.push { cls := .type "slice", data := .fields #[.int j uj, .none, .none] } } := by
  have hz : x.length ≤ sizeLine := by rw [sizeLine_eq]; omega
  refine subscriptTail_ops (typeIs_str _ _ _) PySem.F.slot_str_getitem.lookup (wpAny_getItem_str_slice (l := some (j, uj)) (u := none) (st := none) ⟨_, Heap.get?_push_size _ rfl, rfl, rfl⟩ rfl
    (post_val_or_str ⟨Nat.le_trans (Txt.slice_le x _ _) hz, fun t' k => ?_⟩)) hs ht
  exact h _ t' k (fun b o e => Heap.get?_push_of_some _ e)
end
section
variable {w : World} {A : Around} {E : Value → Shared → Prop} {s : Shared} {mean : ExcName → Option Value} {mg mb : Str → Option Value} {Q : Flow → Shared → Prop} {h₀ : Heap} {L f : Addr} {cd : Value} {m : Str → Option Value} {cv : Nat → Option Value} {fl fp fq fh fr fd : Addr}
local macro_rules | `(tactic| walk_at "go") => `(tactic| repeat' ((fail_if_success (with_reducible show wpAny _ _ (call (Value.ref _) _) _ _ _)); (fail_if_success (with_reducible show wpAny _ _ (subscriptTail _ _ (Value.ref _) _) _ _ _)); (fail_if_success (with_reducible show wpAny _ _ (newList _) _ _ _)); walk1))
local macro_rules | `(tactic| walk_at "eval Call Name") => `(tactic| ((refine' call_def ?kF ?kW ?kf ?kn ?_); (case kF => assumption); (case kW => assumption); (case kf => assumption); (case kn => assumption)))
local macro_rules | `(tactic| walk_at "Here") => `(tactic| ((refine' And.intro (Exists.intro _ ?kF) ?_); (case kF => assumption)))
local macro_rules | `(tactic| walk_at "eval Name") => `(tactic| ((refine' name_g ?kF ?kW ?kf ?_); (case kF => assumption); (case kW => assumption); (case kf => assumption)))
local macro_rules | `(tactic| walk_at "eval Name") => `(tactic| ((refine' name_b ?kF ?kW ?kf ?_); (case kF => assumption); (case kW => assumption); (case kf => assumption)))
local macro_rules | `(tactic| walk_at "eval Name") => `(tactic| ((refine' name_c ?kf ?_); (case kf => assumption)))
local macro_rules | `(tactic| walk_at "eval Name") => `(tactic| ((refine' name_l ?kn ?kf ?_); (case kn => assumption); (case kf => assumption)))
local macro_rules | `(tactic| walk_at "subscriptTail Name Slice str ref") => `(tactic| ((with_unfolding_all refine' cut_sn (s := ⟨_, _, _, _, _⟩) ?kz ?_); (case kz => omega); intro _ _ _ _))
theorem s7 {T : Addr} {abs : List (Str × Str)} {d : Str} {tw : Tok} (X : St h₀ L m cv s.heap) (W : Wd mean mg mb h₀) (N : Nms mg mb fl fp fq fh fr fd h₀) (hh : A.handled = none) (hu : A.units + 64 < cLine) (hroom : A.depth + 30 < recursionLimit)
    (hT : LD s.heap T ((List.range 8).map (tx abs d))) (hL : T ≠ L) (h0 : h₀.get? T = none) (mT : m "texts" = some (.ref T)) (mW : m "whole" = some (.str (wh abs) tw))
    (len : ∀ n, n < 8 → (tx abs d n).length ≤ 300) (ok : PyData.strOk (wh abs) = true) (dec : ∀ n, n < 8 → hdec (tx abs d n) = some (wh abs))
    (hq : ∀ h' t, St h₀ L m cv h' → KT s.heap h' → Q .next { s with heap := h', toks := t }) :
    wpAny (model P w) A (exec (lawS 7) (lawE L f cd)) Q E s := by
  have F := X.F
  have nn := F.ns
  obtain ⟨_, _, _, n1, _, _, _, _, _, a1, _, _⟩ := N
  refine wpAny_If ?_
  walk1
  refine comp_list (L := L) F hh ?_
  walk1
  obtain ⟨vs, n, e, r⟩ := hT
  have hvl : vs.length = 8 := by simpa using strs_len r
  refine ⟨T, vs.toArray, n, fun i y => ∃ t, y = .str (wh abs) t, rfl, F, e, hL, h0, by rw [List.size_toArray, sizeLine_eq]; omega, ?_, ?_⟩
  · intro i v C m₂ h3 tk3 E' hi hv nC mC F3 kb3
    have hi8 : i < 8 := by simpa [hvl] using hi
    obtain ⟨t, e1⟩ := StrsAre.at r (show ((List.range 8).map (tx abs d))[i]? = some (tx abs d i) by rw [List.getElem?_map, List.getElem?_range hi8]; rfl)
    have : v = .str (tx abs d i) t := by
      have hv' : vs[i]? = some v := by simpa using hv
      rw [e1] at hv'; exact (Option.some.inj hv').symm
    subst this
    walk_at "go"
    refine hdec_call (W.keeps F3.keep) (by omega) n1 (len i hi8) (dec i hi8) (fun h' t tk k => ?_)
    exact ⟨h', _, rfl, k, tk, rfl⟩
  · intro D ys h tk F' kb e hn hl hy
    have X' := X.step F' kb
    have hl' : ys.length = 8 := by simpa [hvl] using hl
    have ld : LD h D ((List.range 8).map fun _ => wh abs) := ⟨ys, _, e, strs_of (T := fun _ => wh abs) hl' hy⟩
    have nn' := F'.ns
    walk_at "go"
    refine newLst_any (by simp) (fun D2 h5 k5 nD2 eD2 => ?_)
    walk1
    refine mul_any (F'.keeps k5) eD2 (fun h6 D3 F6 kb6 e6 => ?_)
    have X6 := (X'.keeps k5).step F6 kb6
    have kt6 : KT h h6 := KT.trans (KT.all k5) ((X'.keeps k5).ktb kb6)
    have l3 : LD h6 D3 ((List.range 8).map fun _ => wh abs) := ⟨_, 0, e6, strs_of (T := fun _ => wh abs) (by simp) (fun i y hy => by
      have := (List.getElem?_eq_some_iff.mp hy).2
      rw [List.getElem_replicate] at this
      exact ⟨_, this.symm⟩)⟩
    refine ne_strs (ld.kt kt6) l3 (fun y hy => ?_) hu ?_
    · obtain ⟨_, _, rfl⟩ := List.mem_map.mp hy
      exact ok
    have F7 := X6.F
    walk_at "go"
    exact hq _ _ X6 (KT.trans (X.ktb kb) kt6)
theorem s8 {l : Addr} {abs : List (Str × Str)} {ab0 ab1 ab2 ab3 : Str × Str} {tw : Tok} (X : St h₀ L m cv s.heap) (W : Wd mean mg mb h₀) (N : Nms mg mb fl fp fq fh fr fd h₀) (hh : A.handled = none) (hroom : A.depth + 30 < recursionLimit)
    (hab : abs = [ab0, ab1, ab2, ab3]) (lab : LabR s.heap l abs) (c0 : cv 0 = some (.ref l)) (mW : m "whole" = some (.str (wh abs) tw)) (lenw : (wh abs).length ≤ 300) (len0 : ab0.2.length ≤ 300)
    (hr : reachF (wh abs) = some (if ab3.2 == Str.ofString "7" then wh abs else Txt.slice (wh abs) (some (ab0.2.length : Nat)) none))
    (hq : ∀ h' t, St h₀ L m cv h' → KT s.heap h' → Q .next { s with heap := h', toks := t }) :
    wpAny (model P w) A (exec (lawS 8) (lawE L f cd)) Q E s := by
  have F := X.F
  have nn := F.ns
  have B1 := bt_len W
  obtain ⟨_, _, _, _, n1, _, _, _, _, _, a1, _⟩ := N
  subst hab
  refine wpAny_If ?_
  walk_at "go"
  refine reach_call (W.keeps F.keep) (by omega) n1 (by omega) hr (fun h1 t1 u1 k1 => ?_)
  have X1 := X.keeps k1
  have F1 := X1.F
  have nn1 := F1.ns
  have d0 := X1.c 0 (by decide)
  rw [c0] at d0
  have lab1 := lab.keeps k1
  walk_at "go"
  refine lab_at (i := 3) (by rfl) lab1 (by rfl) (by decide) (fun b t t' tb => ?_)
  walk_at "go"
  refine item_tupleT (l := [_, _]) tb (by decide) (by decide) (by rfl) (by rfl) ?_
  walk_at "go"
  · rename_i h1 h2
    rw [if_pos h1] at h2
    exact (bne_no h2).elim
  · exact hq _ _ X1 (KT.all k1)
  refine lab_at (i := 0) (by rfl) lab1 (by rfl) (by decide) (fun b t t' tb => ?_)
  walk_at "go"
  refine item_tupleT (l := [_, _]) tb (by decide) (by decide) (by rfl) (by rfl) ?_
  walk_at "go"
  · rename_i h2
    have hne : (ab3.2 == Str.ofString "7") = false := by assumption
    rw [if_neg (by rw [hne]; decide)] at h2
    exact (bne_no h2).elim
  · rename_i k9 _
    exact hq _ _ (X1.keeps k9) (KT.all fun b o e => k9 _ _ (k1 _ _ e))
theorem s9 {T : Addr} {abs : List (Str × Str)} {d : Str} (X : St h₀ L m cv s.heap) (W : Wd mean mg mb h₀) (N : Nms mg mb fl fp fq fh fr fd h₀) (hh : A.handled = none) (hroom : A.depth + 30 < recursionLimit)
    (hT : LD s.heap T ((List.range 8).map (tx abs d))) (mT : m "texts" = some (.ref T)) (len : ∀ n, n < 8 → (tx abs d n).length ≤ 300) (hr : reachF (tx abs d 0) = some (tx abs d 0))
    (hq : ∀ h' t, St h₀ L m cv h' → KT s.heap h' → Q .next { s with heap := h', toks := t }) :
    wpAny (model P w) A (exec (lawS 9) (lawE L f cd)) Q E s := by
  have F := X.F
  have nn := F.ns
  obtain ⟨_, _, _, _, n1, _, _, _, _, _, a1, _⟩ := N
  refine wpAny_If ?_
  walk_at "go"
  refine ld_at (i := 0) (by rfl) hT (by rfl) (by decide) (fun t => ?_)
  walk_at "go"
  refine reach_call (W.keeps F.keep) (by omega) n1 (by have := len 0 (by decide); omega) hr (fun h1 t1 u1 k1 => ?_)
  have X1 := X.keeps k1
  have F1 := X1.F
  have nn1 := F1.ns
  have hT1 := hT.keeps k1
  walk_at "go"
  refine ld_at (i := 0) (by rfl) hT1 (by rfl) (by decide) (fun t => ?_)
  walk_at "go"
  · rename_i h2
    exact (bne_no h2).elim
  · exact hq _ _ X1 (KT.all k1)
theorem s10 {T : Addr} {abs : List (Str × Str)} {d : Str} (X : St h₀ L m cv s.heap) (W : Wd mean mg mb h₀) (N : Nms mg mb fl fp fq fh fr fd h₀) (hh : A.handled = none) (hu : A.units + 64 < cLine) (hroom : A.depth + 30 < recursionLimit)
    (hT : LD s.heap T ((List.range 8).map (tx abs d))) (hL : T ≠ L) (h0 : h₀.get? T = none) (mT : m "texts" = some (.ref T))
    (len : ∀ n, n < 8 → (tx abs d n).length ≤ 300) (slf : ∀ n, n < 8 → dmatch (Txt.upper (tx abs d n)) (tx abs d n) = some true)
    (hq : ∀ h' t, St h₀ L m cv h' → KT s.heap h' → Q .next { s with heap := h', toks := t }) :
    wpAny (model P w) A (exec (lawS 10) (lawE L f cd)) Q E s := by
  have F := X.F
  have nn := F.ns
  obtain ⟨_, _, _, _, _, n1, _, _, _, _, _, a1⟩ := N
  refine wpAny_If ?_
  walk1
  refine comp_list (L := L) F hh ?_
  walk1
  obtain ⟨vs, n, e, r⟩ := hT
  have hvl : vs.length = 8 := by simpa using strs_len r
  refine ⟨T, vs.toArray, n, fun i y => y = .bool true, rfl, F, e, hL, h0, by rw [List.size_toArray, sizeLine_eq]; omega, ?_, ?_⟩
  · intro i v C m₂ h3 tk3 E' hi hv nC mC F3 kb3
    have hi8 : i < 8 := by simpa [hvl] using hi
    obtain ⟨t, e1⟩ := StrsAre.at r (show ((List.range 8).map (tx abs d))[i]? = some (tx abs d i) by rw [List.getElem?_map, List.getElem?_range hi8]; rfl)
    have : v = .str (tx abs d i) t := by
      have hv' : vs[i]? = some v := by simpa using hv
      rw [e1] at hv'; exact (Option.some.inj hv').symm
    subst this
    have hlen := len i hi8
    walk_at "go"
    refine dmatch_call (W.keeps F3.keep) (by omega) n1 (by omega) (by omega) (slf i hi8) (fun h' t k => ?_)
    exact ⟨h', _, rfl, k, rfl⟩
  · intro D ys h tk F' kb e hn hl hy
    have X' := X.step F' kb
    have hl' : ys.length = 8 := by simpa [hvl] using hl
    have ld : LB h D ((List.range 8).map fun _ => true) := ⟨_, by rw [e, bools_of (T := fun _ => true) hl' hy]⟩
    have nn' := F'.ns
    walk_at "go"
    refine newLst_any (by simp) (fun D2 h5 k5 nD2 eD2 => ?_)
    walk1
    refine mul_any (F'.keeps k5) eD2 (fun h6 D3 F6 kb6 e6 => ?_)
    have X6 := (X'.keeps k5).step F6 kb6
    have kt6 : KT h h6 := KT.trans (KT.all k5) ((X'.keeps k5).ktb kb6)
    have l3 : LB h6 D3 ((List.range 8).map fun _ => true) := ⟨0, e6⟩
    refine ne_bools (ld.kt kt6) l3 hu ?_
    have F7 := X6.F
    walk_at "go"
    exact hq _ _ X6 (KT.trans (X.ktb kb) kt6)
end
end Mine

end

section 
-- text C22
open PySem PySem.W PyProof.Rows PySem.Calls
set_option maxRecDepth 100000
set_option maxHeartbeats 1000000
namespace Mine
def lawB (i : Nat) : Stmt := match lawS 11 with
  | .For _ _ body _ _ => match body[i]? with
    | some s => s
    | none => .Pass ⟨0, 0, 0, 0⟩
  | _ => .Pass ⟨0, 0, 0, 0⟩
/-- the place of the first bare dot -/
def fI (t : Nat) : Nat := if t % 2 = 1 then 1 else if t % 4 = 2 then 3 else 5
/-- the end from the first bare dot on -/
def tlT (abs : List (Str × Str)) (d : Str) (t : Nat) : Str := Txt.join "" (pickL (pc abs d t) (some (fI t : Int)) none none)
/-- a value given, all kept -/
def Gave (s : Shared) (v₀ : Value) (v : Value) (s' : Shared) : Prop := v = v₀ ∧ ∃ h' k, s' = { s with heap := h', toks := k } ∧ ∀ b o, s.heap.get? b = some o → h'.get? b = some o
/-- does reach climb -/
def clB (abs : List (Str × Str)) (t : Nat) : Bool := nmB abs t && (([3, 5, 6, 7] : List Int).any (· == (t : Int)) || (((t : Int) == 4) && ((abs.getD 3 ("", "")).1 == Str.ofString "local")))
section
variable {w : World} {A : Around} {E : Value → Shared → Prop} {s : Shared} {Q : Value → Shared → Prop}
theorem in_ints {T : Addr} {vs : List Value} {ns : List Int} {n : Nat} {k : Int} {t : Tok} (ho : s.heap.get? T = some (tob vs n)) (hi : IntsAre vs ns) (h : Q (.bool (ns.any (· == k))) s) : wpAny (model P w) A (compareOp .In (.int k t) (.ref T)) Q E s := by
  refine PySem.SeqRoads2.in_tuple (isInt k) (fun y hy => eq_isInt k t hi y (by simpa using hy)) ho ?_
  rw [List.any_toArray, any_isInt k hi]
  exact h
end
section
variable {w : World} {A : Around} {E : Value → Shared → Prop} {s : Shared} {mean : ExcName → Option Value} {mg mb : Str → Option Value} {Q : Flow → Shared → Prop} {h₀ : Heap} {L f : Addr} {cd : Value} {m : Str → Option Value} {cv : Nat → Option Value} {fl fp fq fh fr fd : Addr}
local macro_rules | `(tactic| walk_at "go") => `(tactic| repeat' ((fail_if_success (with_reducible show wpAny _ _ (call (Value.ref _) _) _ _ _)); (fail_if_success (with_reducible show wpAny _ _ (subscriptTail _ _ (Value.ref _) _) _ _ _)); (fail_if_success (with_reducible show wpAny _ _ (newList _) _ _ _)); walk1))
local macro_rules | `(tactic| walk_at "eval Call Name") => `(tactic| ((refine' call_def ?kF ?kW ?kf ?kn ?_); (case kF => assumption); (case kW => assumption); (case kf => assumption); (case kn => assumption)))
local macro_rules | `(tactic| walk_at "Here") => `(tactic| ((refine' And.intro (Exists.intro _ ?kF) ?_); (case kF => assumption)))
local macro_rules | `(tactic| walk_at "eval Name") => `(tactic| ((refine' name_g ?kF ?kW ?kf ?_); (case kF => assumption); (case kW => assumption); (case kf => assumption)))
local macro_rules | `(tactic| walk_at "eval Name") => `(tactic| ((refine' name_b ?kF ?kW ?kf ?_); (case kF => assumption); (case kW => assumption); (case kf => assumption)))
local macro_rules | `(tactic| walk_at "eval Name") => `(tactic| ((refine' name_c ?kf ?_); (case kf => assumption)))
local macro_rules | `(tactic| walk_at "eval Name") => `(tactic| ((refine' name_l ?kn ?kf ?_); (case kn => assumption); (case kf => assumption)))
local macro_rules | `(tactic| walk_at "subscriptTail Name Slice str ref") => `(tactic| ((with_unfolding_all refine' cut_sn (s := ⟨_, _, _, _, _⟩) ?kz ?_); (case kz => omega); intro _ _ _ _))
theorem b0 {H : Addr} {abs : List (Str × Str)} {d : Str} {t : Nat} {tt : Tok} (X : St h₀ L m cv s.heap) (W : Wd mean mg mb h₀) (hH : LL s.heap H ((List.range 8).map (pc abs d))) (mH : m "hosts" = some (.ref H)) (c4 : cv 4 = some (.int (t : Int) tt)) (ht : t < 8)
    (ix : (pc abs d t)[fI t]? = some ".") (no : ∀ i y, i < fI t → (pc abs d t)[i]? = some y → (y == Str.ofString ".") = false) (hlen : (pc abs d t).length = 7)
    (hq : ∀ h' k tk, St h₀ L (fun y => if y = "first" then some (.int (fI t : Int) tk) else m y) cv h' → KT s.heap h' → Q .next { s with heap := h', toks := k }) :
    wpAny (model P w) A (exec (lawB 0) (lawE L f cd)) Q E s := by
  have F := X.F
  have nn := F.ns
  have d4 := X.c 4 (by decide)
  rw [c4] at d4
  refine wpAny_Assign_Name ?_
  walk_at "go"
  refine ll_at (i := t) rfl hH (by rw [List.getElem?_map, List.getElem?_range ht]; rfl) (by omega) (fun b hb => ?_)
  refine meth_ld hb PySem.F.slot_list_index PySem.F.type_list_index ?_
  dsimp only
  walk_at "go"
  refine index_any hb ix no (by omega) (fun t' k => ?_)
  refine put_l X rfl (fun h'' X'' kt => ?_)
  exact hq _ _ _ X'' kt
theorem b1 {H : Addr} {abs : List (Str × Str)} {d : Str} {t : Nat} {tt tf : Tok} (X : St h₀ L m cv s.heap) (W : Wd mean mg mb h₀) (hH : LL s.heap H ((List.range 8).map (pc abs d))) (mH : m "hosts" = some (.ref H)) (c4 : cv 4 = some (.int (t : Int) tt)) (ht : t < 8)
    (mF : m "first" = some (.int (fI t : Int) tf)) (hlen : (pc abs d t).length = 7) (hw : ((pickL (pc abs d t) (some (fI t : Int)) none none).map (·.length)).sum + (pickL (pc abs d t) (some (fI t : Int)) none none).length ≤ 1000)
    (hq : ∀ h' k tk, St h₀ L m (fun j => if j = 5 then some (.str (tlT abs d t) tk) else cv j) h' → KT s.heap h' → Q .next { s with heap := h', toks := k }) :
    wpAny (model P w) A (exec (lawB 1) (lawE L f cd)) Q E s := by
  have F := X.F
  have nn := F.ns
  have d4 := X.c 4 (by decide)
  rw [c4] at d4
  refine wpAny_Assign_Name ?_
  walk_at "go"
  refine ll_at (i := t) rfl hH (by rw [List.getElem?_map, List.getElem?_range ht]; rfl) (by omega) (fun b hb => ?_)
  walk_at "go"
  refine kba_turn (value' := .Name "_" ⟨0, 0, 0, 0⟩) (fun _ => rfl) ?_
  refine cut_ld (lo := some (fI t : Int)) (hi := none) (st := none) hb (.int _ _) .none .none (by decide) (by omega) (fun h5 D k5 l5 => ?_)
  walk_at "go"
  refine join_any l5 (by decide) (by omega) (fun t' k => ?_)
  refine put_c (X.keeps k5) (i := 5) (by decide) (fun h'' X'' kt => ?_)
  exact hq _ _ _ X'' (KT.trans (KT.all k5) kt)
theorem b2 {D : Addr} {abs : List (Str × Str)} {t : Nat} {tt tl : Tok} (X : St h₀ L m cv s.heap) (W : Wd mean mg mb h₀) (hN : LB s.heap D ((List.range 8).map (nmB abs))) (c1 : cv 1 = some (.str (abs.getD 3 ("", "")).1 tl)) (c3 : cv 3 = some (.ref D)) (c4 : cv 4 = some (.int (t : Int) tt)) (ht : t < 8)
    (hq : ∀ h' k, St h₀ L (fun y => if y = "climbs" then some (.bool (clB abs t)) else m y) cv h' → KT s.heap h' → Q .next { s with heap := h', toks := k }) :
    wpAny (model P w) A (exec (lawB 2) (lawE L f cd)) Q E s := by
  have F := X.F
  have nn := F.ns
  have d4 := X.c 4 (by decide)
  rw [c4] at d4
  have d3 := X.c 3 (by decide)
  rw [c3] at d3
  have d1 := X.c 1 (by decide)
  rw [c1] at d1
  refine wpAny_Assign_Name (wpAny_mono (Q := Gave s (.bool (clB abs t))) ?_ (fun v s' h1 => ?_) fun _ _ e => e)
  rotate_left
  · obtain ⟨rfl, h', k, rfl, kk⟩ := h1
    refine put_l (X.keeps kk) rfl (fun h'' X'' kt => ?_)
    exact hq _ _ X'' (KT.trans (KT.all kk) kt)
  walk_at "go"
  refine lb_at (i := t) rfl hN (by rw [List.getElem?_map, List.getElem?_range ht]; rfl) (by omega) ?_
  walk_at "go"
  · have hnm : nmB abs t = true := by assumption
    refine newTup_any (by simp) (fun T h2 k2 nT eT => ?_)
    refine in_ints (ns := [3, 5, 6, 7]) eT (.cons _ _ (.cons _ _ (.cons _ _ (.cons _ _ .nil)))) ?_
    have F2 := F.keeps k2
    have e4 := cell_keeps d4 k2
    have e1 := cell_keeps d1 k2
    walk_at "go"
    · rename_i h1
      exact ⟨congrArg Value.bool (by unfold clB; rw [hnm, h1]; rfl), _, _, rfl, k2⟩
    · rename_i h1 h4
      have h5 : ((t : Int) == 4) = true := by rw [h4]; rfl
      exact ⟨congrArg Value.bool (by unfold clB; rw [hnm, h1, h5]; rfl), _, _, rfl, k2⟩
    · rename_i h1 h4
      have h5 : ((t : Int) == 4) = false := by simpa using h4
      exact ⟨congrArg Value.bool (by unfold clB; rw [hnm, h1, h5]; rfl), _, _, rfl, k2⟩
  · have hnm : nmB abs t = false := by assumption
    exact ⟨congrArg Value.bool (by unfold clB; rw [hnm]; rfl), _, _, rfl, fun _ _ e => e⟩
end
end Mine

end

section 
-- text C23
open PySem PySem.W PyProof.Rows PySem.Calls
set_option maxRecDepth 100000
set_option maxHeartbeats 1000000
namespace Mine
/-- the greatest power of 2 that divides -/
def pwI (t : Nat) : Int := if t % 4 = 0 then 4 else if t % 2 = 0 then 2 else 1
/-- what is told of a spelling and an end -/
def toB (abs : List (Str × Str)) (t s : Nat) : Bool := nmB abs s && ((s : Int).fdiv (pwI t) == (t : Int).fdiv (pwI t))
theorem app_one (x : Value) (l : List Value) : #[x] ++ l.toArray = (x :: l).toArray := by simp
theorem sel_ints (pz : Nat → Bool) (u a b : Tok) : IntsAre (.int 1 u :: selF pz 0 [.int 2 a, .int 4 b]) (1 :: ((if pz 0 = true then [2] else []) ++ (if pz 1 = true then [4] else []))) := by
  refine .cons _ _ ?_
  unfold selF selF selF
  cases pz 0 <;> cases pz 1
  · exact .nil
  · exact .cons _ _ .nil
  · exact .cons _ _ .nil
  · exact .cons _ _ (.cons _ _ .nil)
abbrev pzT (t : Nat) : Nat → Bool := fun i => decide ((t : Int).fmod (if i = 0 then 2 else 4) = 0)
abbrev selN (t : Nat) : List Int := 1 :: ((if pzT t 0 = true then [2] else []) ++ (if pzT t 1 = true then [4] else []))
theorem sel_mx {t : Nat} (ht : t < 8) : (selN t)[mxAt (selN t)]? = some (pwI t) := by
  match t, ht with
  | 0, _ => decide
  | 1, _ => decide
  | 2, _ => decide
  | 3, _ => decide
  | 4, _ => decide
  | 5, _ => decide
  | 6, _ => decide
  | 7, _ => decide
  | n + 8, h => omega
section
variable {w : World} {A : Around} {E : Value → Shared → Prop} {s : Shared} {mean : ExcName → Option Value} {mg mb : Str → Option Value} {Q : Flow → Shared → Prop} {h₀ : Heap} {L f : Addr} {cd : Value} {m : Str → Option Value} {cv : Nat → Option Value} {fl fp fq fh fr fd : Addr}
local macro_rules | `(tactic| walk_at "go") => `(tactic| repeat' ((fail_if_success (with_reducible show wpAny _ _ (call (Value.ref _) _) _ _ _)); (fail_if_success (with_reducible show wpAny _ _ (subscriptTail _ _ (Value.ref _) _) _ _ _)); (fail_if_success (with_reducible show wpAny _ _ (newList _) _ _ _)); walk1))
local macro_rules | `(tactic| walk_at "eval Call Name") => `(tactic| ((refine' call_def ?kF ?kW ?kf ?kn ?_); (case kF => assumption); (case kW => assumption); (case kf => assumption); (case kn => assumption)))
local macro_rules | `(tactic| walk_at "Here") => `(tactic| ((refine' And.intro (Exists.intro _ ?kF) ?_); (case kF => assumption)))
local macro_rules | `(tactic| walk_at "eval Name") => `(tactic| ((refine' name_g ?kF ?kW ?kf ?_); (case kF => assumption); (case kW => assumption); (case kf => assumption)))
local macro_rules | `(tactic| walk_at "eval Name") => `(tactic| ((refine' name_b ?kF ?kW ?kf ?_); (case kF => assumption); (case kW => assumption); (case kf => assumption)))
local macro_rules | `(tactic| walk_at "eval Name") => `(tactic| ((refine' name_c ?kf ?_); (case kf => assumption)))
local macro_rules | `(tactic| walk_at "eval Name") => `(tactic| ((refine' name_l ?kn ?kf ?_); (case kn => assumption); (case kf => assumption)))
local macro_rules | `(tactic| walk_at "subscriptTail Name Slice str ref") => `(tactic| ((with_unfolding_all refine' cut_sn (s := ⟨_, _, _, _, _⟩) ?kz ?_); (case kz => omega); intro _ _ _ _))
theorem b3 {T : Addr} {abs : List (Str × Str)} {d : Str} {t : Nat} {tt tl : Tok} (X : St h₀ L m cv s.heap) (W : Wd mean mg mb h₀) (N : Nms mg mb fl fp fq fh fr fd h₀) (hroom : A.depth + 30 < recursionLimit)
    (hT : LD s.heap T ((List.range 8).map (tx abs d))) (mT : m "texts" = some (.ref T)) (c4 : cv 4 = some (.int (t : Int) tt)) (c5 : cv 5 = some (.str (tlT abs d t) tl)) (mC : m "climbs" = some (.bool (clB abs t))) (ht : t < 8)
    (len : (tx abs d t).length ≤ 300) (hr : reachF (tx abs d t) = some (if clB abs t = true then tlT abs d t else tx abs d t))
    (hq : ∀ h' k, St h₀ L m cv h' → KT s.heap h' → Q .next { s with heap := h', toks := k }) :
    wpAny (model P w) A (exec (lawB 3) (lawE L f cd)) Q E s := by
  have F := X.F
  have nn := F.ns
  obtain ⟨_, _, _, _, n1, _, _, _, _, _, a1, _⟩ := N
  have d4 := X.c 4 (by decide)
  rw [c4] at d4
  refine wpAny_If ?_
  walk_at "go"
  refine ld_at (i := t) rfl hT (by rw [List.getElem?_map, List.getElem?_range ht]; rfl) (by omega) (fun u => ?_)
  walk_at "go"
  refine reach_call (W.keeps F.keep) (by omega) n1 (by omega) hr (fun h1 t1 u1 k1 => ?_)
  have X1 := X.keeps k1
  have F1 := X1.F
  have nn1 := F1.ns
  have hT1 := hT.keeps k1
  have e4 := X1.c 4 (by decide)
  rw [c4] at e4
  have e5 := X1.c 5 (by decide)
  rw [c5] at e5
  walk_at "go"
  · rename_i h1 h2
    rw [if_pos h1] at h2
    exact (bne_no h2).elim
  · exact hq _ _ X1 (KT.all k1)
  refine ld_at (i := t) rfl hT1 (by rw [List.getElem?_map, List.getElem?_range ht]; rfl) (by omega) (fun u => ?_)
  walk_at "go"
  · rename_i h1 h2
    rw [if_neg (by rw [h1]; decide)] at h2
    exact (bne_no h2).elim
  · exact hq _ _ X1 (KT.all k1)
theorem b4 {t : Nat} {tt : Tok} (X : St h₀ L m cv s.heap) (W : Wd mean mg mb h₀) (hh : A.handled = none) (c4 : cv 4 = some (.int (t : Int) tt)) (ht : t < 8)
    (hq : ∀ h' k tk, St h₀ L m (fun j => if j = 6 then some (.int (pwI t) tk) else cv j) h' → KT s.heap h' → Q .next { s with heap := h', toks := k }) :
    wpAny (model P w) A (exec (lawB 4) (lawE L f cd)) Q E s := by
  have F := X.F
  have nn := F.ns
  have B1 := bt_max W
  have d4 := X.c 4 (by decide)
  rw [c4] at d4
  refine wpAny_Assign_Name ?_
  walk_at "go"
  refine newLst_any (by simp) (fun D1 h1 k1 nD1 eD1 => ?_)
  have X1 := X.keeps k1
  have F1 := X1.F
  refine comp_sel (L := L) F1 hh ?_
  walk_at "go"
  refine newTup_any (by simp) (fun T h2 k2 nT eT => ?_)
  have X2 := X1.keeps k2
  have F2 := X2.F
  have nz : T ≠ L ∧ h₀.get? T = none := by
    obtain ⟨oL, _, _, eL, _⟩ := F1.ns
    refine ⟨Ne.symm (off_none eL nT), ?_⟩
    cases q : h₀.get? T with
    | none => rfl
    | some o => have := F1.keep _ _ q; dsimp only at nT; rw [nT] at this; cases this
  refine ⟨T, _, _, pzT t, rfl, F2, eT, nz.1, nz.2, by simp, ?_, ?_⟩
  · intro i v C m₂ h3 tk3 E' hv nC mC F3 kb3
    have X3 := X2.step F3 kb3
    have e4 := X3.c 4 (by decide)
    rw [c4] at e4
    match i, hv with
    | 0, hv =>
      cases hv
      walk_at "go"
    | 1, hv =>
      cases hv
      walk_at "go"
    | k + 2, hv => simp at hv
  · intro D h tk F' kb e
    have X3 := X2.step F' kb
    have kt : KT s.heap h := KT.trans (KT.all fun b o e => k2 _ _ (k1 _ _ e)) (X2.ktb kb)
    have e1 := (X2.ktb kb).seq _ _ _ _ (k2 _ _ eD1) rfl
    refine add_any e1 e (by simp [selF]; split <;> split <;> simp) (fun h4 D4 k4 e4 => ?_)
    have X4 := X3.keeps k4
    have fin : ∀ (vs : List Value) (ns : List Int), IntsAre vs ns → h4.get? D4 = some { cls := .type "list", data := .seq vs.toArray } → 0 < ns.length → ns[mxAt ns]? = some (pwI t) → ∀ k, wpAny (model P w) A (call (.builtin "max") [.ref D4]) (fun v s₁ => wpAny (model P w) A (storeName (lawE L f cd) "power" v) (fun _ => Q .next) E s₁) E { s with heap := h4, toks := k } := by
      intro vs ns hi e5 hn hm k
      refine max_any hh ⟨_, e5, rfl, _, rfl⟩ hi hn hm (fun h5 tk5 t5 k5 => ?_)
      refine put_c (X4.keeps k5) (i := 6) (by decide) (fun h'' X'' kt' => ?_)
      exact hq _ _ _ X'' (KT.trans (KT.trans kt (KT.all fun b o e => k5 _ _ (k4 _ _ e))) kt')
    walk1
    exact fin _ (selN t) (sel_ints (pzT t) _ _ _) (e4.trans (congrArg (fun z => some ({ cls := Value.type "list", data := .seq z } : Obj)) (app_one _ _))) (Nat.succ_pos _) (sel_mx ht) _
theorem b5 {D : Addr} {abs : List (Str × Str)} {t : Nat} {tt tp : Tok} (X : St h₀ L m cv s.heap) (W : Wd mean mg mb h₀) (hh : A.handled = none) (hN : LB s.heap D ((List.range 8).map (nmB abs))) (c3 : cv 3 = some (.ref D)) (c4 : cv 4 = some (.int (t : Int) tt)) (c6 : cv 6 = some (.int (pwI t) tp)) (ht : t < 8)
    (hq : ∀ h' k V, St h₀ L (updM m "told" V) cv h' → KT s.heap h' → LB h' V ((List.range 8).map (toB abs t)) → Q .next { s with heap := h', toks := k }) :
    wpAny (model P w) A (exec (lawB 5) (lawE L f cd)) Q E s := by
  have F := X.F
  have nn := F.ns
  have B1 := bt_range W
  refine asg_range (L := L) F hh ?_
  walk_at "go"
  refine call_range_1 ?_
  refine ⟨_, 8, _, _, _, fun i y => y = .bool (toB abs t i), rfl, F.push _, IsRange.new _ _ _ _ _ _ _, by decide, ?_, ?_⟩
  · intro i v C m₂ h3 tk3 E' hi hv nC mC F3 kb3
    obtain ⟨t3, rfl⟩ := hv
    have k03 : KB L s.heap h3 := KB.trans (KB.all fun b o e => Heap.get?_push_of_some _ e) kb3
    have X3 := X.step F3 k03
    have d3 := X3.c 3 (by decide)
    rw [c3] at d3
    have d4 := X3.c 4 (by decide)
    rw [c4] at d4
    have d6 := X3.c 6 (by decide)
    rw [c6] at d6
    have hp0 : pwI t ≠ 0 := by unfold pwI; split; decide; split; decide; decide
    have hp1 : (pwI t).natAbs < 1073741824 := by unfold pwI; split; decide; split; decide; decide
    have hN3 := hN.kt (X.ktb k03)
    walk_at "go"
    refine lb_at (i := i) rfl hN3 (by rw [List.getElem?_map, List.getElem?_range hi]; rfl) (by omega) ?_
    walk_at "go"
    · have hnm : nmB abs i = true := by assumption
      exact congrArg Value.bool (by unfold toB; rw [hnm]; rfl)
    · have hnm : nmB abs i = false := by assumption
      exact congrArg Value.bool (by unfold toB; rw [hnm]; rfl)
  · intro V ys h tk F' kb e hn hl hy
    have k0 : KB L s.heap h := KB.trans (KB.all fun b o e => Heap.get?_push_of_some _ e) kb
    exact hq h _ V (X.step F' k0) (X.ktb k0) ⟨_, by rw [e, bools_of hl hy]⟩
end
end Mine

end

section 
-- text C24
open PySem PySem.W PyProof.Rows PySem.Calls
set_option maxRecDepth 100000
set_option maxHeartbeats 1000000
namespace Mine
/-- does a spelling match its own end less the last label -/
def inB (abs : List (Str × Str)) (t : Nat) : Bool := nmB abs t && (((t : Int) != 4) && (((t : Int).fmod 4 != 3) || ((abs.getD 2 ("", "")).1 != Str.ofString "5")))
def inT (abs : List (Str × Str)) (d : Str) (t : Nat) : Str := Txt.join "" (pickL (pc abs d t) (some (fI t : Int)) (some (-2)) none)
section
variable {w : World} {A : Around} {E : Value → Shared → Prop} {s : Shared} {mean : ExcName → Option Value} {mg mb : Str → Option Value} {Q : Flow → Shared → Prop} {h₀ : Heap} {L f : Addr} {cd : Value} {m : Str → Option Value} {cv : Nat → Option Value} {fl fp fq fh fr fd : Addr}
local macro_rules | `(tactic| walk_at "go") => `(tactic| repeat' ((fail_if_success (with_reducible show wpAny _ _ (call (Value.ref _) _) _ _ _)); (fail_if_success (with_reducible show wpAny _ _ (subscriptTail _ _ (Value.ref _) _) _ _ _)); (fail_if_success (with_reducible show wpAny _ _ (newList _) _ _ _)); walk1))
local macro_rules | `(tactic| walk_at "eval Call Name") => `(tactic| ((refine' call_def ?kF ?kW ?kf ?kn ?_); (case kF => assumption); (case kW => assumption); (case kf => assumption); (case kn => assumption)))
local macro_rules | `(tactic| walk_at "Here") => `(tactic| ((refine' And.intro (Exists.intro _ ?kF) ?_); (case kF => assumption)))
local macro_rules | `(tactic| walk_at "eval Name") => `(tactic| ((refine' name_g ?kF ?kW ?kf ?_); (case kF => assumption); (case kW => assumption); (case kf => assumption)))
local macro_rules | `(tactic| walk_at "eval Name") => `(tactic| ((refine' name_b ?kF ?kW ?kf ?_); (case kF => assumption); (case kW => assumption); (case kf => assumption)))
local macro_rules | `(tactic| walk_at "eval Name") => `(tactic| ((refine' name_c ?kf ?_); (case kf => assumption)))
local macro_rules | `(tactic| walk_at "eval Name") => `(tactic| ((refine' name_l ?kn ?kf ?_); (case kn => assumption); (case kf => assumption)))
local macro_rules | `(tactic| walk_at "subscriptTail Name Slice str ref") => `(tactic| ((with_unfolding_all refine' cut_sn (s := ⟨_, _, _, _, _⟩) ?kz ?_); (case kz => omega); intro _ _ _ _))
theorem b6 {T V : Addr} {abs : List (Str × Str)} {d : Str} {t : Nat} {tt tl : Tok} (X : St h₀ L m cv s.heap) (W : Wd mean mg mb h₀) (N : Nms mg mb fl fp fq fh fr fd h₀) (hh : A.handled = none) (hu : A.units + 64 < cLine) (hroom : A.depth + 30 < recursionLimit)
    (hT : LD s.heap T ((List.range 8).map (tx abs d))) (hL : T ≠ L) (h0 : h₀.get? T = none) (mT : m "texts" = some (.ref T)) (c5 : cv 5 = some (.str (tlT abs d t) tl)) (hV : LB s.heap V ((List.range 8).map (toB abs t))) (mV : m "told" = some (.ref V))
    (len : ∀ n, n < 8 → (tx abs d n).length ≤ 300) (lent : (tlT abs d t).length ≤ 300) (dm : ∀ n, n < 8 → dmatch (Txt.upper (tx abs d n)) (tlT abs d t) = some (toB abs t n))
    (hq : ∀ h' k, St h₀ L m cv h' → KT s.heap h' → Q .next { s with heap := h', toks := k }) :
    wpAny (model P w) A (exec (lawB 6) (lawE L f cd)) Q E s := by
  have F := X.F
  have nn := F.ns
  obtain ⟨_, _, _, _, _, n1, _, _, _, _, _, a1⟩ := N
  refine wpAny_If ?_
  walk1
  refine comp_list (L := L) F hh ?_
  walk1
  obtain ⟨vs, n, e, r⟩ := hT
  have hvl : vs.length = 8 := by simpa using strs_len r
  refine ⟨T, vs.toArray, n, fun i y => y = .bool (toB abs t i), rfl, F, e, hL, h0, by rw [List.size_toArray, sizeLine_eq]; omega, ?_, ?_⟩
  · intro i v C m₂ h3 tk3 E' hi hv nC mC F3 kb3
    have hi8 : i < 8 := by simpa [hvl] using hi
    obtain ⟨u, e1⟩ := StrsAre.at r (show ((List.range 8).map (tx abs d))[i]? = some (tx abs d i) by rw [List.getElem?_map, List.getElem?_range hi8]; rfl)
    have : v = .str (tx abs d i) u := by
      have hv' : vs[i]? = some v := by simpa using hv
      rw [e1] at hv'; exact (Option.some.inj hv').symm
    subst this
    have hlen := len i hi8
    have X3 := X.step F3 kb3
    have d5 := X3.c 5 (by decide)
    rw [c5] at d5
    walk_at "go"
    refine dmatch_call (W.keeps F3.keep) (by omega) n1 (by omega) (by omega) (dm i hi8) (fun h' t k => ?_)
    exact ⟨h', _, rfl, k, rfl⟩
  · intro D ys h tk F' kb e hn hl hy
    have X' := X.step F' kb
    have hl' : ys.length = 8 := by simpa [hvl] using hl
    have ld : LB h D ((List.range 8).map (toB abs t)) := ⟨_, by rw [e, bools_of (T := toB abs t) hl' hy]⟩
    have nn' := F'.ns
    have hV' := hV.kt (X.ktb kb)
    walk_at "go"
    refine ne_bools ld hV' hu ?_
    walk_at "go"
    exact hq _ _ X' (X.ktb kb)
theorem b8 {D l : Addr} {abs : List (Str × Str)} {t : Nat} {tt tl : Tok} (X : St h₀ L m cv s.heap) (W : Wd mean mg mb h₀) (lab : LabR s.heap l abs) (hab : abs.length = 4) (hN : LB s.heap D ((List.range 8).map (nmB abs))) (c0 : cv 0 = some (.ref l)) (c3 : cv 3 = some (.ref D)) (c4 : cv 4 = some (.int (t : Int) tt)) (ht : t < 8)
    (hq : ∀ h' k, St h₀ L (fun y => if y = "inner" then some (.bool (inB abs t)) else m y) cv h' → KT s.heap h' → Q .next { s with heap := h', toks := k }) :
    wpAny (model P w) A (exec (lawB 8) (lawE L f cd)) Q E s := by
  have F := X.F
  have nn := F.ns
  have d4 := X.c 4 (by decide)
  rw [c4] at d4
  have d3 := X.c 3 (by decide)
  rw [c3] at d3
  have d0 := X.c 0 (by decide)
  rw [c0] at d0
  have g2 : abs[2]? = some (abs.getD 2 ("", "")) := by rw [List.getElem?_eq_getElem (by omega)]; simp [List.getD, List.getElem?_eq_getElem (show 2 < abs.length by omega)]
  refine wpAny_Assign_Name (wpAny_mono (Q := Gave s (.bool (inB abs t))) ?_ (fun v s' h1 => ?_) fun _ _ e => e)
  rotate_left
  · obtain ⟨rfl, h', k, rfl, kk⟩ := h1
    refine put_l (X.keeps kk) rfl (fun h'' X'' kt => ?_)
    exact hq _ _ X'' (KT.trans (KT.all kk) kt)
  walk_at "go"
  refine lb_at (i := t) rfl hN (by rw [List.getElem?_map, List.getElem?_range ht]; rfl) (by omega) ?_
  walk_at "go"
  · have hnm : nmB abs t = true := by assumption
    have h4 : (t : Int) ≠ 4 := by assumption
    have h3 : (t : Int).fmod 4 ≠ 3 := by assumption
    have e4 : ((t : Int) != 4) = true := by simpa using h4
    have e3 : ((t : Int).fmod 4 != 3) = true := by simpa using h3
    exact ⟨congrArg Value.bool (by unfold inB; rw [hnm, e4, e3]; rfl), _, _, rfl, fun _ _ e => e⟩
  · have hnm : nmB abs t = true := by assumption
    have h4 : (t : Int) ≠ 4 := by assumption
    have h3 : (t : Int).fmod 4 = 3 := by assumption
    have e4 : ((t : Int) != 4) = true := by simpa using h4
    have e3 : ((t : Int).fmod 4 != 3) = false := by simpa using h3
    refine lab_at (i := 2) (by rfl) lab g2 (by decide) (fun b t' t'' tb => ?_)
    walk_at "go"
    refine item_tupleT (l := [_, _]) tb (by decide) (by decide) (by rfl) (by rfl) ?_
    walk_at "go"
    exact ⟨congrArg Value.bool (by unfold inB; rw [hnm, e4, e3]; rfl), _, _, rfl, fun _ _ e => e⟩
  · have hnm : nmB abs t = true := by assumption
    have h4 : (t : Int) = 4 := by assumption
    have e4 : ((t : Int) != 4) = false := by simpa using h4
    exact ⟨congrArg Value.bool (by unfold inB; rw [hnm, e4]; rfl), _, _, rfl, fun _ _ e => e⟩
  · have hnm : nmB abs t = false := by assumption
    exact ⟨congrArg Value.bool (by unfold inB; rw [hnm]; rfl), _, _, rfl, fun _ _ e => e⟩
end
end Mine

end

section 
-- text C25
open PySem PySem.W PyProof.Rows PySem.Calls
set_option maxRecDepth 100000
set_option maxHeartbeats 1000000
namespace Mine
section
variable {w : World} {A : Around} {E : Value → Shared → Prop} {s : Shared} {mean : ExcName → Option Value} {mg mb : Str → Option Value} {Q : Flow → Shared → Prop} {h₀ : Heap} {L f : Addr} {cd : Value} {m : Str → Option Value} {cv : Nat → Option Value} {fl fp fq fh fr fd : Addr}
local macro_rules | `(tactic| walk_at "go") => `(tactic| repeat' ((fail_if_success (with_reducible show wpAny _ _ (call (Value.ref _) _) _ _ _)); (fail_if_success (with_reducible show wpAny _ _ (subscriptTail _ _ (Value.ref _) _) _ _ _)); (fail_if_success (with_reducible show wpAny _ _ (newList _) _ _ _)); walk1))
local macro_rules | `(tactic| walk_at "eval Call Name") => `(tactic| ((refine' call_def ?kF ?kW ?kf ?kn ?_); (case kF => assumption); (case kW => assumption); (case kf => assumption); (case kn => assumption)))
local macro_rules | `(tactic| walk_at "Here") => `(tactic| ((refine' And.intro (Exists.intro _ ?kF) ?_); (case kF => assumption)))
local macro_rules | `(tactic| walk_at "eval Name") => `(tactic| ((refine' name_g ?kF ?kW ?kf ?_); (case kF => assumption); (case kW => assumption); (case kf => assumption)))
local macro_rules | `(tactic| walk_at "eval Name") => `(tactic| ((refine' name_b ?kF ?kW ?kf ?_); (case kF => assumption); (case kW => assumption); (case kf => assumption)))
local macro_rules | `(tactic| walk_at "eval Name") => `(tactic| ((refine' name_c ?kf ?_); (case kf => assumption)))
local macro_rules | `(tactic| walk_at "eval Name") => `(tactic| ((refine' name_l ?kn ?kf ?_); (case kn => assumption); (case kf => assumption)))
local macro_rules | `(tactic| walk_at "subscriptTail Name Slice str ref") => `(tactic| ((with_unfolding_all refine' cut_sn (s := ⟨_, _, _, _, _⟩) ?kz ?_); (case kz => omega); intro _ _ _ _))
theorem b7 {T : Addr} {abs : List (Str × Str)} {d : Str} {t : Nat} {tt tl : Tok} (X : St h₀ L m cv s.heap) (W : Wd mean mg mb h₀) (N : Nms mg mb fl fp fq fh fr fd h₀) (hroom : A.depth + 30 < recursionLimit)
    (hT : LD s.heap T ((List.range 8).map (tx abs d))) (mT : m "texts" = some (.ref T)) (c4 : cv 4 = some (.int (t : Int) tt)) (c5 : cv 5 = some (.str (tlT abs d t) tl)) (ht : t < 8)
    (len : (tx abs d t).length ≤ 300) (lent : (tlT abs d t).length ≤ 300) (dm : dmatch (Txt.upper (tx abs d t)) (Txt.slice (tlT abs d t) (some 1) none) = some false)
    (hq : ∀ h' k, St h₀ L m cv h' → KT s.heap h' → Q .next { s with heap := h', toks := k }) :
    wpAny (model P w) A (exec (lawB 7) (lawE L f cd)) Q E s := by
  have F := X.F
  have nn := F.ns
  obtain ⟨_, _, _, _, _, n1, _, _, _, _, _, a1⟩ := N
  have d4 := X.c 4 (by decide)
  rw [c4] at d4
  have d5 := X.c 5 (by decide)
  rw [c5] at d5
  refine wpAny_If ?_
  walk1
  iterate 4 walk1
  refine name_l nn mT ?_
  refine name_c d4 ?_
  refine ld_at (i := t) rfl hT (by rw [List.getElem?_map, List.getElem?_range ht]; rfl) (by omega) (fun u => ?_)
  walk1
  dsimp only
  walk1
  walk1
  iterate 2 walk1
  refine name_c d5 ?_
  iterate 5 walk1
  refine cut_sn (s := ⟨_, _, _, _, _⟩) (by omega) (fun h1 t1 k kk => ?_)
  have X1 := X.keeps kk
  have F1 := X1.F
  walk1
  refine ⟨⟨_, F1⟩, ?_⟩
  refine dmatch_call (W.keeps F1.keep) (by omega) n1 (by omega) (by have := Txt.slice_le (tlT abs d t) (some 1) none; omega) dm (fun h2 t2 k2 => ?_)
  have X2 := X1.keeps k2
  have F2 := X2.F
  walk_at "go"
  exact hq _ _ X2 (KT.all fun b o e => k2 _ _ (kk _ _ e))
theorem b9 {T H : Addr} {abs : List (Str × Str)} {d : Str} {t : Nat} {tt tf : Tok} (X : St h₀ L m cv s.heap) (W : Wd mean mg mb h₀) (N : Nms mg mb fl fp fq fh fr fd h₀) (hroom : A.depth + 30 < recursionLimit)
    (hT : LD s.heap T ((List.range 8).map (tx abs d))) (mT : m "texts" = some (.ref T)) (hH : LL s.heap H ((List.range 8).map (pc abs d))) (mH : m "hosts" = some (.ref H)) (c4 : cv 4 = some (.int (t : Int) tt)) (ht : t < 8)
    (mF : m "first" = some (.int (fI t : Int) tf)) (mI : m "inner" = some (.bool (inB abs t))) (hlen : (pc abs d t).length = 7) (hw : ((pickL (pc abs d t) (some (fI t : Int)) (some (-2)) none).map (·.length)).sum + (pickL (pc abs d t) (some (fI t : Int)) (some (-2)) none).length ≤ 1000)
    (len : (tx abs d t).length ≤ 300) (lent : (inT abs d t).length ≤ 300) (dm : dmatch (Txt.upper (tx abs d t)) (inT abs d t) = some (inB abs t))
    (hq : ∀ h' k, St h₀ L m cv h' → KT s.heap h' → Q .next { s with heap := h', toks := k }) :
    wpAny (model P w) A (exec (lawB 9) (lawE L f cd)) Q E s := by
  have F := X.F
  have nn := F.ns
  obtain ⟨_, _, _, _, _, n1, _, _, _, _, _, a1⟩ := N
  have d4 := X.c 4 (by decide)
  rw [c4] at d4
  refine wpAny_If ?_
  walk1
  iterate 4 walk1
  refine name_l nn mT ?_
  refine name_c d4 ?_
  refine ld_at (i := t) rfl hT (by rw [List.getElem?_map, List.getElem?_range ht]; rfl) (by omega) (fun u => ?_)
  walk1
  dsimp only
  walk1
  walk1
  iterate 5 walk1
  iterate 3 walk1
  refine name_l nn mH ?_
  refine name_c d4 ?_
  refine ll_at (i := t) rfl hH (by rw [List.getElem?_map, List.getElem?_range ht]; rfl) (by omega) (fun b hb => ?_)
  iterate 2 walk1
  refine name_l nn mF ?_
  iterate 5 walk1
  refine kba_turn (value' := .Name "_" ⟨0, 0, 0, 0⟩) (fun _ => rfl) ?_
  refine cut_ld (s := ⟨_, _, _, _, _⟩) (lo := some (fI t : Int)) (hi := some (-2)) (st := none) hb (.int _ _) (.int _ _) .none (by decide) (by omega) (fun h5 D k5 l5 => ?_)
  have X5 := X.keeps k5
  have F5 := X5.F
  walk1
  refine join_any l5 (by decide) (by omega) (fun t' k => ?_)
  walk1
  refine ⟨⟨_, F5⟩, ?_⟩
  refine dmatch_call (W.keeps F5.keep) (by omega) n1 (by omega) (show (inT abs d t).length ≤ 1000 by omega) dm (fun h2 t2 k2 => ?_)
  have X2 := X5.keeps k2
  have F2 := X2.F
  have nn2 := F2.ns
  refine name_l nn2 mI ?_
  walk_at "go"
  · rename_i h2
    exact absurd h2 (by simp)
  · exact hq _ _ X2 (KT.all fun b o e => k2 _ _ (k5 _ _ e))
end
end Mine

end

section 
-- text C26
open PySem PySem.W PyProof.Rows PySem.Calls
set_option maxRecDepth 100000
set_option maxHeartbeats 1000000
namespace Mine
/-- what one end asks -/
structure TOk (abs : List (Str × Str)) (d : Str) (t : Nat) : Prop where
  ix : (pc abs d t)[fI t]? = some "."
  no : ∀ i y, i < fI t → (pc abs d t)[i]? = some y → (y == Str.ofString ".") = false
  w1 : ((pickL (pc abs d t) (some (fI t : Int)) none none).map (·.length)).sum + (pickL (pc abs d t) (some (fI t : Int)) none none).length ≤ 1000
  w2 : ((pickL (pc abs d t) (some (fI t : Int)) (some (-2)) none).map (·.length)).sum + (pickL (pc abs d t) (some (fI t : Int)) (some (-2)) none).length ≤ 1000
  lent : (tlT abs d t).length ≤ 300
  leni : (inT abs d t).length ≤ 300
  cl : reachF (tx abs d t) = some (if clB abs t = true then tlT abs d t else tx abs d t)
  told : ∀ n, n < 8 → dmatch (Txt.upper (tx abs d n)) (tlT abs d t) = some (toB abs t n)
  cut : dmatch (Txt.upper (tx abs d t)) (Txt.slice (tlT abs d t) (some 1) none) = some false
  inr : dmatch (Txt.upper (tx abs d t)) (inT abs d t) = some (inB abs t)
/-- what law asks of the labels and the dot -/
structure LawOk (abs : List (Str × Str)) (d : Str) : Prop where
  n4 : abs.length = 4
  w1 : ∀ n, n < 8 → ((pc abs d n).map (·.length)).sum + (pc abs d n).length ≤ 1000
  w2 : ((abs.map (·.2)).map (·.length)).sum + (abs.map (·.2)).length ≤ 1000
  ok : PyData.strOk (wh abs) = true
  len : ∀ n, n < 8 → (tx abs d n).length ≤ 300
  lenw : (wh abs).length ≤ 300
  len0 : (abs.getD 0 ("", "")).2.length ≤ 300
  dec : ∀ n, n < 8 → hdec (tx abs d n) = some (wh abs)
  rw : reachF (wh abs) = some (if (abs.getD 3 ("", "")).2 == Str.ofString "7" then wh abs else Txt.slice (wh abs) (some ((abs.getD 0 ("", "")).2.length : Nat)) none)
  r0 : reachF (tx abs d 0) = some (tx abs d 0)
  slf : ∀ n, n < 8 → dmatch (Txt.upper (tx abs d n)) (tx abs d n) = some true
  ts : ∀ t, 1 ≤ t → t < 8 → TOk abs d t
theorem pc_len {abs : List (Str × Str)} {d : Str} {n : Nat} : (pc abs d n).length = 7 := pcs_len 3
section
variable {w : World} {A : Around} {E : Value → Shared → Prop} {s : Shared} {mean : ExcName → Option Value} {mg mb : Str → Option Value} {Q : Flow → Shared → Prop} {h₀ : Heap} {L f : Addr} {cd : Value} {m : Str → Option Value} {cv : Nat → Option Value} {fl fp fq fh fr fd : Addr}
local macro_rules | `(tactic| walk_at "eval Call Name") => `(tactic| ((refine' call_def ?kF ?kW ?kf ?kn ?_); (case kF => assumption); (case kW => assumption); (case kf => assumption); (case kn => assumption)))
local macro_rules | `(tactic| walk_at "Here") => `(tactic| ((refine' And.intro (Exists.intro _ ?kF) ?_); (case kF => assumption)))
local macro_rules | `(tactic| walk_at "eval Name") => `(tactic| ((refine' name_g ?kF ?kW ?kf ?_); (case kF => assumption); (case kW => assumption); (case kf => assumption)))
local macro_rules | `(tactic| walk_at "eval Name") => `(tactic| ((refine' name_b ?kF ?kW ?kf ?_); (case kF => assumption); (case kW => assumption); (case kf => assumption)))
local macro_rules | `(tactic| walk_at "eval Name") => `(tactic| ((refine' name_c ?kf ?_); (case kf => assumption)))
local macro_rules | `(tactic| walk_at "eval Name") => `(tactic| ((refine' name_l ?kn ?kf ?_); (case kn => assumption); (case kf => assumption)))
local macro_rules | `(tactic| walk_at "subscriptTail Name Slice str ref") => `(tactic| ((with_unfolding_all refine' cut_sn (s := ⟨_, _, _, _, _⟩) ?kz ?_); (case kz => omega); intro _ _ _ _))
/-- the loop's state, between its turns -/
def LoopJ (h₀ : Heap) (L : Addr) (l H T D : Addr) (abs : List (Str × Str)) (d : Str) (tl : Tok) (g h : Heap) : Prop := ∃ m cv, St h₀ L m cv h ∧ m "hosts" = some (.ref H) ∧ m "texts" = some (.ref T) ∧ cv 0 = some (.ref l) ∧ cv 1 = some (.str (abs.getD 3 ("", "")).1 tl) ∧ cv 3 = some (.ref D) ∧ KT g h
theorem body_walk {l H T D : Addr} {abs : List (Str × Str)} {d : Str} {t : Nat} {tt tl : Tok} (W : Wd mean mg mb h₀) (N : Nms mg mb fl fp fq fh fr fd h₀) (hh : A.handled = none) (hu : A.units + 64 < cLine) (hroom : A.depth + 30 < recursionLimit)
    (O : LawOk abs d) (h1 : 1 ≤ t) (h8 : t < 8) (X : St h₀ L m cv s.heap) (mH : m "hosts" = some (.ref H)) (mT : m "texts" = some (.ref T)) (c0 : cv 0 = some (.ref l)) (c1 : cv 1 = some (.str (abs.getD 3 ("", "")).1 tl)) (c3 : cv 3 = some (.ref D)) (c4 : cv 4 = some (.int (t : Int) tt))
    (lab : LabR s.heap l abs) (hH : LL s.heap H ((List.range 8).map (pc abs d))) (hT : LD s.heap T ((List.range 8).map (tx abs d))) (hTL : T ≠ L) (hT0 : h₀.get? T = none) (hN : LB s.heap D ((List.range 8).map (nmB abs)))
    (hq : ∀ h' k m' cv', St h₀ L m' cv' h' → KT s.heap h' → m' "hosts" = some (.ref H) → m' "texts" = some (.ref T) → cv' 0 = some (.ref l) → cv' 1 = some (.str (abs.getD 3 ("", "")).1 tl) → cv' 3 = some (.ref D) → Q .next { s with heap := h', toks := k }) :
    wpAny (model P w) A (execs [lawB 0, lawB 1, lawB 2, lawB 3, lawB 4, lawB 5, lawB 6, lawB 7, lawB 8, lawB 9] (lawE L f cd)) Q E s := by
  have Z := O.ts t h1 h8
  refine wpAny_execs_cons (b0 X W hH mH c4 h8 Z.ix Z.no pc_len (fun g1 k1 t1 X1 e1 => ?_))
  refine wpAny_execs_cons (b1 (s := ⟨_, _, _, _, _⟩) X1 W (hH.kt e1) mH c4 h8 rfl pc_len Z.w1 (fun g2 k2 t2 X2 e2 => ?_))
  have e2 := e1.trans e2
  refine wpAny_execs_cons (b2 (s := ⟨_, _, _, _, _⟩) X2 W (hN.kt e2) c1 c3 c4 h8 (fun g3 k3 X3 e3 => ?_))
  have e3 := e2.trans e3
  refine wpAny_execs_cons (b3 (s := ⟨_, _, _, _, _⟩) X3 W N hroom (hT.kt e3) mT c4 rfl rfl h8 (O.len t h8) Z.cl (fun g4 k4 X4 e4 => ?_))
  have e4 := e3.trans e4
  refine wpAny_execs_cons (b4 (s := ⟨_, _, _, _, _⟩) X4 W hh c4 h8 (fun g5 k5 t5 X5 e5 => ?_))
  have e5 := e4.trans e5
  refine wpAny_execs_cons (b5 (s := ⟨_, _, _, _, _⟩) X5 W hh (hN.kt e5) c3 c4 rfl h8 (fun g6 k6 V X6 e6 hV => ?_))
  have e6 := e5.trans e6
  refine wpAny_execs_cons (b6 (s := ⟨_, _, _, _, _⟩) (tt := tt) X6 W N hh hu hroom (hT.kt e6) hTL hT0 mT rfl hV rfl O.len Z.lent Z.told (fun g7 k7 X7 e7 => ?_))
  have e7 := e6.trans e7
  refine wpAny_execs_cons (b7 (s := ⟨_, _, _, _, _⟩) X7 W N hroom (hT.kt e7) mT c4 rfl h8 (O.len t h8) Z.lent Z.cut (fun g8 k8 X8 e8 => ?_))
  have e8 := e7.trans e8
  refine wpAny_execs_cons (b8 (s := ⟨_, _, _, _, _⟩) (tl := tl) X8 W (lab.kt e8) O.n4 (hN.kt e8) c0 c3 c4 h8 (fun g9 k9 X9 e9 => ?_))
  have e9 := e8.trans e9
  refine wpAny_execs_cons (b9 (s := ⟨_, _, _, _, _⟩) X9 W N hroom (hT.kt e9) mT (hH.kt e9) mH c4 h8 rfl rfl pc_len Z.w2 (O.len t h8) Z.leni Z.inr (fun g10 k10 X10 e10 => ?_))
  have e10 := e9.trans e10
  exact wpAny_execs_nil (hq _ _ _ _ X10 e10 mH mT c0 c1 c3)
end
end Mine

end

section 
-- text C27
open PySem PySem.W PyProof.Rows PySem.Calls
set_option maxRecDepth 100000
set_option maxHeartbeats 1000000
namespace Mine
section
variable {w : World} {A : Around} {E : Value → Shared → Prop} {s : Shared} {mean : ExcName → Option Value} {mg mb : Str → Option Value} {Q : Flow → Shared → Prop} {h₀ : Heap} {L f : Addr} {cd : Value} {m : Str → Option Value} {cv : Nat → Option Value} {fl fp fq fh fr fd : Addr}
local macro_rules | `(tactic| walk_at "go") => `(tactic| repeat' ((fail_if_success (with_reducible show wpAny _ _ (call (Value.ref _) _) _ _ _)); (fail_if_success (with_reducible show wpAny _ _ (subscriptTail _ _ (Value.ref _) _) _ _ _)); (fail_if_success (with_reducible show wpAny _ _ (newList _) _ _ _)); walk1))
local macro_rules | `(tactic| walk_at "eval Call Name") => `(tactic| ((refine' call_def ?kF ?kW ?kf ?kn ?_); (case kF => assumption); (case kW => assumption); (case kf => assumption); (case kn => assumption)))
local macro_rules | `(tactic| walk_at "Here") => `(tactic| ((refine' And.intro (Exists.intro _ ?kF) ?_); (case kF => assumption)))
local macro_rules | `(tactic| walk_at "eval Name") => `(tactic| ((refine' name_g ?kF ?kW ?kf ?_); (case kF => assumption); (case kW => assumption); (case kf => assumption)))
local macro_rules | `(tactic| walk_at "eval Name") => `(tactic| ((refine' name_b ?kF ?kW ?kf ?_); (case kF => assumption); (case kW => assumption); (case kf => assumption)))
local macro_rules | `(tactic| walk_at "eval Name") => `(tactic| ((refine' name_c ?kf ?_); (case kf => assumption)))
local macro_rules | `(tactic| walk_at "eval Name") => `(tactic| ((refine' name_l ?kn ?kf ?_); (case kn => assumption); (case kf => assumption)))
local macro_rules | `(tactic| walk_at "subscriptTail Name Slice str ref") => `(tactic| ((with_unfolding_all refine' cut_sn (s := ⟨_, _, _, _, _⟩) ?kz ?_); (case kz => omega); intro _ _ _ _))
theorem s11 {l H T D : Addr} {abs : List (Str × Str)} {d : Str} {tl : Tok} (W : Wd mean mg mb h₀) (N : Nms mg mb fl fp fq fh fr fd h₀) (hh : A.handled = none) (hu : A.units + 64 < cLine) (hroom : A.depth + 30 < recursionLimit)
    (O : LawOk abs d) (X : St h₀ L m cv s.heap) (mH : m "hosts" = some (.ref H)) (mT : m "texts" = some (.ref T)) (c0 : cv 0 = some (.ref l)) (c1 : cv 1 = some (.str (abs.getD 3 ("", "")).1 tl)) (c3 : cv 3 = some (.ref D))
    (lab : LabR s.heap l abs) (hH : LL s.heap H ((List.range 8).map (pc abs d))) (hT : LD s.heap T ((List.range 8).map (tx abs d))) (hTL : T ≠ L) (hT0 : h₀.get? T = none) (hN : LB s.heap D ((List.range 8).map (nmB abs)))
    (hq : ∀ h' k m' cv', St h₀ L m' cv' h' → Q .next { s with heap := h', toks := k }) :
    wpAny (model P w) A (exec (lawS 11) (lawE L f cd)) Q E s := by
  have F := X.F
  have nn := F.ns
  have B1 := bt_range W
  refine for_range hh ?_
  walk_at "go"
  refine call_range_2 ?_
  have k0 : ∀ b o, s.heap.get? b = some o → (s.heap.push { cls := .type "range", data := .fields #[.int 1 s.toks, .int 8 (s.toks + 1), .int 1 (s.toks + 1 + 1)] }).get? b = some o := fun b o e => Heap.get?_push_of_some _ e
  have X0 := X.keeps k0
  have hr : IsRange (s.heap.push { cls := .type "range", data := .fields #[.int 1 s.toks, .int 8 (s.toks + 1), .int 1 (s.toks + 1 + 1)] }) s.heap.objs.size 1 (1 + ((7 : Nat) : Int)) 1 s.toks (s.toks + 1) (s.toks + 1 + 1) := IsRange.new _ _ _ _ _ _ _
  generalize hs0 : s.heap.push { cls := .type "range", data := .fields #[.int 1 s.toks, .int 8 (s.toks + 1), .int 1 (s.toks + 1 + 1)] } = g0 at k0 X0 hr ⊢
  refine ⟨_, 1, 7, _, _, _, fun I i h => LoopJ h₀ L l H T D abs d tl g0 h, rfl, hr, by decide, by decide, by decide, ?_, ?_⟩
  · intro I h' nI k
    exact ⟨m, cv, X0.keeps k, mH, mT, c0, c1, c3, KT.all k⟩
  · refine ⟨?_, ?_, ?_⟩
    · rintro I i h h' nI ⟨m', cv', X', a1, a2, a3, a4, a5, kt⟩ k
      exact ⟨m', cv', X'.off X0 nI k, a1, a2, a3, a4, a5, kt.off nI k⟩
    · rintro I i h tk t E' oI hi nI eI nd nc ⟨m', cv', X', a1, a2, a3, a4, a5, kt⟩
      have hti : (1 : Int) + (i : Int) = ((i + 1 : Nat) : Int) := by omega
      rw [hti]
      refine wpAny_assign_Name (put_c (i := 4) X' (by decide) (fun h2 X2 kt2 => ?_))
      have e2 := KT.trans (KT.trans (KT.all k0) kt) kt2
      refine body_walk (s := ⟨_, _, _, _, _⟩) (m := m') (tt := t) (t := i + 1) (D := D) W N hh hu hroom O (by omega) (by omega) X2 a1 a2 a3 a4 a5 rfl (lab.kt e2) (hH.kt e2) (hT.kt e2) hTL hT0 (hN.kt e2) (fun h3 k3 m3 cv3 X3 kt3 b1 b2 b3 b4 b5 => ?_)
      exact ⟨h3, k3, rfl, KT.trans kt2 kt3 I oI eI nd nc, m3, cv3, X3, b1, b2, b3, b4, b5, KT.trans kt (KT.trans kt2 kt3)⟩
    · rintro I h tk nI ⟨m', cv', X', a1, a2, a3, a4, a5, kt⟩
      exact hq _ _ _ _ X'
end
end Mine

end

section 
-- text C28
open PySem PySem.W PyProof.Rows PySem.Calls
set_option maxRecDepth 100000
set_option maxHeartbeats 1000000
namespace Mine
section
variable {w : World} {A : Around} {E : Value → Shared → Prop} {s : Shared} {mean : ExcName → Option Value} {mg mb : Str → Option Value} {Q : Flow → Shared → Prop} {h₀ : Heap} {L f : Addr} {cd : Value} {m : Str → Option Value} {cv : Nat → Option Value} {fl fp fq fh fr fd : Addr}
local macro_rules | `(tactic| walk_at "go") => `(tactic| repeat' ((fail_if_success (with_reducible show wpAny _ _ (call (Value.ref _) _) _ _ _)); (fail_if_success (with_reducible show wpAny _ _ (subscriptTail _ _ (Value.ref _) _) _ _ _)); (fail_if_success (with_reducible show wpAny _ _ (newList _) _ _ _)); walk1))
local macro_rules | `(tactic| walk_at "eval Call Name") => `(tactic| ((refine' call_def ?kF ?kW ?kf ?kn ?_); (case kF => assumption); (case kW => assumption); (case kf => assumption); (case kn => assumption)))
local macro_rules | `(tactic| walk_at "Here") => `(tactic| ((refine' And.intro (Exists.intro _ ?kF) ?_); (case kF => assumption)))
local macro_rules | `(tactic| walk_at "eval Name") => `(tactic| ((refine' name_g ?kF ?kW ?kf ?_); (case kF => assumption); (case kW => assumption); (case kf => assumption)))
local macro_rules | `(tactic| walk_at "eval Name") => `(tactic| ((refine' name_b ?kF ?kW ?kf ?_); (case kF => assumption); (case kW => assumption); (case kf => assumption)))
local macro_rules | `(tactic| walk_at "eval Name") => `(tactic| ((refine' name_c ?kf ?_); (case kf => assumption)))
local macro_rules | `(tactic| walk_at "eval Name") => `(tactic| ((refine' name_l ?kn ?kf ?_); (case kn => assumption); (case kf => assumption)))
local macro_rules | `(tactic| walk_at "subscriptTail Name Slice str ref") => `(tactic| ((with_unfolding_all refine' cut_sn (s := ⟨_, _, _, _, _⟩) ?kz ?_); (case kz => omega); intro _ _ _ _))
theorem law_call {f a : Addr} {vs : List Value} {ns : List Int} {Q : Value → Shared → Prop} (W : Wd mean mg mb s.heap) (hh : A.handled = none) (hu : A.units + 128 < cLine) (hroom : A.depth + 40 < recursionLimit) (hf : mg "law" = some (.ref f)) (hl : s.heap.IsList a vs.toArray) (hi' : IntsAre vs ns) (hn : ns.length ≤ 1000)
    (all : ∀ ab0 ab1 ab2 ab3 (d : Str), InTab 0 ab0 → InTab 1 ab1 → InTab 2 ab2 → InTab 3 ab3 → d = "=2E" ∨ d = Txt.lower "=2E" → LawOk [ab0, ab1, ab2, ab3] d)
    (hq : ∀ h' t, (∀ b o, s.heap.get? b = some o → h'.get? b = some o) → Q (.bool true) { s with heap := h', toks := t }) :
    wpAny (model P w) A (call (.ref f) [.ref a]) Q E s := by
  obtain ⟨o, pm, cd, doc, h2, h3, h4⟩ := fn_at (i := 28) W 9 (by kernel_rfl) hf
  obtain ⟨fl, fp, fq, fh, fr, fd, N⟩ := Nms.of W
  refine wpAny_call (call_cells_ret (by omega) h2 h3 W.T.nolimit h4 (binds := [("script", .ref a)]) (by rfl) ?_ (fun h₁ tk F X => ?_) (by rfl) (by rfl) (by rfl))
  · intro x hx
    rcases List.mem_cons.mp hx with rfl | hx
    · exact .inl rfl
    · cases hx
  have X0 : St s.heap s.heap.objs.size _ (fun _ => none) h₁ := ⟨F, fun i hi => by
    match i, hi with
    | 0, _ => exact X.cell "labels" _ rfl
    | 1, _ => exact X.cell "last" _ rfl
    | 2, _ => exact X.cell "dot" _ rfl
    | 3, _ => exact X.cell "names" _ rfl
    | 4, _ => exact X.cell "t" _ rfl
    | 5, _ => exact X.cell "tail" _ rfl
    | 6, _ => exact X.cell "power" _ rfl
    | k + 7, h => exact absurd h (Nat.not_lt.mpr (Nat.le_add_left 7 k)), rfl⟩
  generalize hL : s.heap.objs.size = L at *
  have hu' : (A.deeper (lawE L f cd)).units + 64 < cLine := by
    show A.units + 3 + 64 < cLine
    exact Nat.lt_of_le_of_lt (by omega) hu
  have hroom' : (A.deeper (lawE L f cd)).depth + 30 < recursionLimit := by show A.depth + 1 + 30 < _; omega
  have mS : bindL (envOfC (fdef 28).name (fdef 28).scope L f cd).kindOf [(Str.ofString "script", Value.ref a)] (fun _ => none) "script" = some (.ref a) := rfl
  generalize bindL (envOfC (fdef 28).name (fdef 28).scope L f cd).kindOf [(Str.ofString "script", Value.ref a)] (fun _ => none) = m at *
  refine wpAny_execs_cons (s0 (s := ⟨_, _, _, _, _⟩) X0 W N hh hroom' mS hl hi' hn (fun g0 t0 l ab0 ab1 ab2 ab3 X1 i0 i1 i2 i3 lab => ?_))
  refine wpAny_execs_cons (s1 (s := ⟨_, _, _, _, _⟩) X1 W lab.r rfl (fun g1 t1 u1 X2 e1 => ?_))
  refine wpAny_execs_cons (s2 (s := ⟨_, _, _, _, _⟩) X2 W N hh hroom' mS hl hi' hn (fun g2 t2 u2 d hd X3 e2 => ?_))
  have O := all ab0 ab1 ab2 ab3 d i0 i1 i2 i3 hd
  have e2 := e1.trans e2
  refine wpAny_execs_cons (s3 (s := ⟨_, _, _, _, _⟩) (abs := [ab0, ab1, ab2, ab3]) X3 W N hh hroom' (lab.kt e2).r rfl rfl rfl (fun g3 t3 H X4 e3 hH hHL hH0 => ?_))
  have e3 := e2.trans e3
  refine wpAny_execs_cons (s4 (s := ⟨_, _, _, _, _⟩) X4 W hh hH hHL hH0 rfl O.w1 (fun g4 t4 T X5 e4 hT hTL hT0 => ?_))
  have hH := hH.kt e4
  have e4 := e3.trans e4
  refine wpAny_execs_cons (s5 (s := ⟨_, _, _, _, _⟩) (abs := [ab0, ab1, ab2, ab3]) X5 W hh rfl (fun g5 t5 D X6 e5 hN => ?_))
  have hH := hH.kt e5
  have hT := hT.kt e5
  have e5 := e4.trans e5
  refine wpAny_execs_cons (s6 (s := ⟨_, _, _, _, _⟩) X6 W hh (lab.kt e5) rfl rfl O.w2 (fun g6 t6 u6 X7 e6 => ?_))
  have hH := hH.kt e6
  have hT := hT.kt e6
  have hN := hN.kt e6
  have e6 := e5.trans e6
  refine wpAny_execs_cons (s7 (s := ⟨_, _, _, _, _⟩) X7 W N hh hu' hroom' hT hTL hT0 rfl rfl O.len O.ok O.dec (fun g7 t7 X8 e7 => ?_))
  have hH := hH.kt e7
  have hT := hT.kt e7
  have hN := hN.kt e7
  have e7 := e6.trans e7
  refine wpAny_execs_cons (s8 (s := ⟨_, _, _, _, _⟩) (abs := [ab0, ab1, ab2, ab3]) X8 W N hh hroom' rfl (lab.kt e7).r rfl rfl O.lenw O.len0 O.rw (fun g8 t8 X9 e8 => ?_))
  have hH := hH.kt e8
  have hT := hT.kt e8
  have hN := hN.kt e8
  have e8 := e7.trans e8
  refine wpAny_execs_cons (s9 (s := ⟨_, _, _, _, _⟩) X9 W N hh hroom' hT rfl O.len O.r0 (fun g9 t9 X10 e9 => ?_))
  have hH := hH.kt e9
  have hT := hT.kt e9
  have hN := hN.kt e9
  have e9 := e8.trans e9
  refine wpAny_execs_cons (s10 (s := ⟨_, _, _, _, _⟩) X10 W N hh hu' hroom' hT hTL hT0 rfl O.len O.slf (fun g10 t10 X11 e10 => ?_))
  have hH := hH.kt e10
  have hT := hT.kt e10
  have hN := hN.kt e10
  have e10 := e9.trans e10
  refine wpAny_execs_cons (s11 (s := ⟨_, _, _, _, _⟩) W N hh hu' hroom' O X11 rfl rfl rfl rfl rfl (lab.kt e10).r hH hT hTL hT0 hN (fun g11 t11 m' cv' X12 => ?_))
  refine wpAny_execs_cons ?_
  walk_at "go"
  exact hq _ _ X12.F.keep
end
end Mine

end

section 
-- text E1
open PySem PySem.W PyProof.Rows PySem.Sre
set_option maxRecDepth 100000
set_option maxHeartbeats 1000000
namespace Mine
/-- n steps of the engine -/
def stp : Nat → Sre.M → Sre.M
  | 0, m => m
  | n + 1, m => stp n m.step
theorem stp_add : ∀ (a b : Nat) (m : Sre.M), stp (a + b) m = stp b (stp a m)
  | 0, b, m => by rw [Nat.zero_add]; rfl
  | a + 1, b, m => by rw [show a + 1 + b = (a + b) + 1 by omega]; exact stp_add a b m.step
theorem step_done {m : Sre.M} (h : m.outcome.isSome = true) : m.step = m := by
  unfold Sre.M.step; rw [if_pos h]
theorem stp_done : ∀ (n : Nat) {m : Sre.M}, m.outcome.isSome = true → stp n m = m
  | 0, _, _ => rfl
  | n + 1, m, h => by show stp n m.step = m; rw [step_done h]; exact stp_done n h
theorem runFor_stp : ∀ (n : Nat) (m : Sre.M), m.runFor n = stp n m
  | 0, _ => rfl
  | n + 1, m => by
    unfold Sre.M.runFor
    by_cases h : m.outcome.isSome = true
    · rw [if_pos h, stp_done _ h]
    · rw [if_neg h]; exact runFor_stp n m.step
theorem drv_of : ∀ (n k : Nat) (m : Sre.M), (stp k m).outcome.isSome = true → k ≤ 4 * n → 0 < n → drv n m = some (stp k m)
  | 0, _, _, _, _, h => absurd h (Nat.lt_irrefl 0)
  | n + 1, k, m, hk, hn, _ => by
    unfold drv
    rw [runFor_stp]
    by_cases h4 : k ≤ 4
    · have e : stp 4 m = stp k m := by
        rw [show 4 = k + (4 - k) by omega, stp_add, stp_done _ hk]
      rw [e, if_pos hk]
    · by_cases h : (stp 4 m).outcome.isSome = true
      · rw [if_pos h]
        have e : stp k m = stp 4 m := by
          rw [show k = 4 + (k - 4) by omega, stp_add, stp_done _ h]
        rw [e]
      · rw [if_neg h]
        have e : stp k m = stp (k - 4) (stp 4 m) := by rw [← stp_add]; congr 1; omega
        rw [e] at hk ⊢
        exact drv_of n (k - 4) _ hk (by omega) (by omega)
/-- the engine at a start -/
def stAt (x : Array Nat) (s : Nat) (o : Bool) (sn : Sre.Seen) : Sre.M :=
  { code := ipCode.toArray, text := x, lim := x.size, start := s, lastStart := x.size, pc := 9, pos := s, handed := s, outermost := o, marks := #[], frames := [{ wait := .nextStart, pc := 9, pos := s, outermost := o }], weight := 1, seen := sn }
theorem at_no {x : Array Nat} {s : Nat} {o : Bool} {sn : Sre.Seen} (h : s < x.size → x.getD s 0 ≠ 46) : ∃ sn', (stAt x s o sn).step = { stAt x s o sn' with answer := some false } := by
  refine ⟨sn.add 16, ?_⟩
  by_cases hs : s < x.size
  · have h' := h hs
    have h2 : (x.getD s 0 == 46) = false := by simpa using h'
    show (if x.size ≤ s then _ else _) = _
    rw [if_neg (by omega)]
    show (match Except.ok (ε := String) (x.getD s 0 == 46, sn.add 16) with | .error why => _ | .ok (false, seen) => _ | .ok (true, seen) => _) = _
    rw [h2]
    rfl
  · show (if x.size ≤ s then _ else _) = _
    rw [if_pos (by omega)]
    rfl
theorem no_next {x : Array Nat} {s p c hd : Nat} {o ot : Bool} {sn : Sre.Seen} (h : s < x.size) : { stAt x s o sn with answer := some false, pc := c, pos := p, outermost := ot, handed := hd }.step = stAt x (s + 1) false sn := by
  show (if s < x.size then _ else _) = _
  rw [if_pos h]
  rfl
theorem no_last {x : Array Nat} {s : Nat} {o : Bool} {sn : Sre.Seen} (h : ¬ s < x.size) : (stp 2 { stAt x s o sn with answer := some false }).outcome = some .failed := by
  have e : { stAt x s o sn with answer := some false }.step = { stAt x s o sn with answer := some false, frames := [], weight := 0 } := by
    show (if s < x.size then _ else _) = _
    rw [if_neg h]
    rfl
  show (Sre.M.step (Sre.M.step _)).outcome = _
  rw [e]
  rfl
theorem acc_ip (c : Nat) (sn : Sre.Seen) : ∃ sn', Sre.accepts ipCode.toArray 15 c sn = .ok (Sre.isDigit c, sn') := by
  refine ⟨if Sre.isDigit c = true then (sn.add 8).add 55 else ((sn.add 8).add 55).add 0, ?_⟩
  show (Sre.inSet ipCode.toArray c 24 17 true sn) = _
  show (do if ← Except.ok (ε := String) (Sre.isDigit c != (0 % 2 == 1)) then pure (true, (sn.add 8).add 55) else Sre.inSet ipCode.toArray c 23 19 true ((sn.add 8).add 55)) = _
  cases Sre.isDigit c
  · rfl
  · rfl
/-- digits from a place on -/
def dg (x : Array Nat) : Nat → Nat → Nat
  | 0, _ => 0
  | n + 1, p => if Sre.isDigit (x.getD p 0) = true then 1 + dg x n (p + 1) else 0
theorem dg_le (x : Array Nat) : ∀ n p, dg x n p ≤ n
  | 0, _ => Nat.le_refl _
  | n + 1, p => by unfold dg; split; have := dg_le x n (p + 1); omega; omega
theorem run_ip (x : Array Nat) : ∀ (n p fd : Nat) (sn : Sre.Seen), ∃ sn', Sre.run ipCode.toArray x 15 n p fd sn = .ok (fd + dg x n p, sn')
  | 0, p, fd, sn => ⟨sn, rfl⟩
  | n + 1, p, fd, sn => by
    obtain ⟨sn1, h1⟩ := acc_ip (x.getD p 0) sn
    show ∃ sn', (do let (yes, seen) ← Sre.accepts ipCode.toArray 15 (x.getD p 0) sn; if yes then Sre.run ipCode.toArray x 15 n (p + 1) (fd + 1) seen else pure (fd, seen)) = _
    rw [h1]
    unfold dg
    by_cases h : Sre.isDigit (x.getD p 0) = true
    · obtain ⟨sn2, h2⟩ := run_ip x n (p + 1) (fd + 1) sn1
      refine ⟨sn2, ?_⟩
      show (if Sre.isDigit (x.getD p 0) = true then Sre.run ipCode.toArray x 15 n (p + 1) (fd + 1) sn1 else pure (fd, sn1)) = _
      rw [if_pos h, if_pos h, h2]
      rw [Nat.add_assoc]
    · refine ⟨sn1, ?_⟩
      show (if Sre.isDigit (x.getD p 0) = true then Sre.run ipCode.toArray x 15 n (p + 1) (fd + 1) sn1 else pure (fd, sn1)) = _
      rw [if_neg h, if_neg h]
      rfl
theorem at_yes {x : Array Nat} {s : Nat} {o : Bool} {sn : Sre.Seen} (hs : s < x.size) (h : x.getD s 0 = 46) : ∃ sn', (stAt x s o sn).step = { stAt x s o sn' with pc := 11, pos := s + 1 } := by
  refine ⟨sn.add 16, ?_⟩
  have h2 : (x.getD s 0 == 46) = true := by simpa using h
  show (if x.size ≤ s then _ else _) = _
  rw [if_neg (by omega)]
  show (match Except.ok (ε := String) (x.getD s 0 == 46, sn.add 16) with | .error why => _ | .ok (false, seen) => _ | .ok (true, seen) => _) = _
  rw [h2]
  rfl
/-- the engine behind k digits -/
def tlAt (x : Array Nat) (s k : Nat) (o : Bool) (sn : Sre.Seen) : Sre.M :=
  { stAt x s o sn with pc := 21, pos := s + 1 + k, handed := s + 1 + k, frames := [{ wait := .giveBack, pc := 11, pos := s + 1 + k, outermost := o, count := k }, { wait := .nextStart, pc := 9, pos := s, outermost := o }], weight := 2 }
theorem rep_no {x : Array Nat} {s : Nat} {o : Bool} {sn : Sre.Seen} (hs : s < x.size) (hx : x.size ≤ 1000) (h : dg x (x.size - (s + 1)) (s + 1) = 0) : ∃ sn', { stAt x s o sn with pc := 11, pos := s + 1 }.step = { stAt x s o sn' with pc := 11, pos := s + 1, answer := some false } := by
  by_cases hr : x.size - (s + 1) = 0
  · refine ⟨sn.add 24, ?_⟩
    show (if ((1 : Nat) : Int) > (x.size : Int) - ((s + 1 : Nat) : Int) then _ else _) = _
    rw [if_pos (by omega)]
    rfl
  · have hm : min 4294967295 ((x.size : Int) - ((s + 1 : Nat) : Int)).toNat = x.size - (s + 1) := by omega
    obtain ⟨sn1, h1⟩ := run_ip x (x.size - (s + 1)) (s + 1) 0 ((sn.add 24).add 13)
    refine ⟨sn1, ?_⟩
    show (if ((1 : Nat) : Int) > (x.size : Int) - ((s + 1 : Nat) : Int) then _ else (match Sre.run ipCode.toArray x 15 (min 4294967295 ((x.size : Int) - ((s + 1 : Nat) : Int)).toNat) (s + 1) 0 ((sn.add 24).add 13) with | .error why => _ | .ok (n, seen) => _)) = _
    rw [if_neg (by omega), hm, h1, h]
    rfl
theorem rep_yes {x : Array Nat} {s k : Nat} {o : Bool} {sn : Sre.Seen} (hs : s < x.size) (hx : x.size ≤ 1000) (h : dg x (x.size - (s + 1)) (s + 1) = k + 1) : ∃ sn', { stAt x s o sn with pc := 11, pos := s + 1 }.step = tlAt x s (k + 1) o sn' := by
  have hle := dg_le x (x.size - (s + 1)) (s + 1)
  have hm : min 4294967295 ((x.size : Int) - ((s + 1 : Nat) : Int)).toNat = x.size - (s + 1) := by omega
  obtain ⟨sn1, h1⟩ := run_ip x (x.size - (s + 1)) (s + 1) 0 ((sn.add 24).add 13)
  refine ⟨sn1, ?_⟩
  show (if ((1 : Nat) : Int) > (x.size : Int) - ((s + 1 : Nat) : Int) then _ else (match Sre.run ipCode.toArray x 15 (min 4294967295 ((x.size : Int) - ((s + 1 : Nat) : Int)).toNat) (s + 1) 0 ((sn.add 24).add 13) with | .error why => _ | .ok (n, seen) => _)) = _
  rw [if_neg (by omega), hm, h1, h]
  show (if 0 + (k + 1) < 1 then _ else _) = _
  rw [if_neg (by omega), Nat.zero_add]
  rfl
theorem tl_yes {x : Array Nat} {s k : Nat} {o : Bool} {sn : Sre.Seen} (h : s + 1 + k = x.size) : (stp 5 (tlAt x s k o sn)).outcome = some .matched := by
  have e : ∃ sn', (tlAt x s k o sn).step = { tlAt x s k o sn' with pc := 23 } := by
    refine ⟨(sn.add 6).add 48, ?_⟩
    have hb : (s + 1 + k == x.size) = true := by simpa using h
    show (match Except.ok (ε := String) ((s + 1 + k == x.size) || (s + 1 + k + 1 == x.size && x.getD (s + 1 + k) 0 == 10)) with | .error why => { tlAt x s k o (sn.add 6) with outcome := some (.stuck why) } | .ok yes => (if yes = true then { tlAt x s k o ((sn.add 6).add 48) with pc := 23 } else { tlAt x s k o ((sn.add 6).add 48) with answer := some false })) = _
    rw [hb]
    rfl
  obtain ⟨sn', e⟩ := e
  show (stp 4 (Sre.M.step _)).outcome = _
  rw [e]
  cases o <;> rfl
theorem tl_no {x : Array Nat} {s k : Nat} {o : Bool} {sn : Sre.Seen} (h : s + 1 + k ≠ x.size) (h10 : ∀ i, x.getD i 0 ≠ 10) : ∃ sn', (tlAt x s k o sn).step = { tlAt x s k o sn' with answer := some false } := by
  refine ⟨(sn.add 6).add 48, ?_⟩
  have hb : (s + 1 + k == x.size) = false := by simpa using h
  have hc : (x.getD (s + 1 + k) 0 == 10) = false := by simpa using h10 (s + 1 + k)
  show (match Except.ok (ε := String) ((s + 1 + k == x.size) || (s + 1 + k + 1 == x.size && x.getD (s + 1 + k) 0 == 10)) with | .error why => { tlAt x s k o (sn.add 6) with outcome := some (.stuck why) } | .ok yes => (if yes = true then { tlAt x s k o ((sn.add 6).add 48) with pc := 23 } else { tlAt x s k o ((sn.add 6).add 48) with answer := some false })) = _
  rw [hb, hc, Bool.and_false]
  rfl
def tlG (x : Array Nat) (s p : Nat) (c : Int) (o : Bool) (sn : Sre.Seen) : Sre.M :=
  { stAt x s o sn with pc := 21, pos := p, handed := p, frames := [{ wait := .giveBack, pc := 11, pos := p, outermost := o, count := c }, { wait := .nextStart, pc := 9, pos := s, outermost := o }], weight := 2 }
theorem give {x : Array Nat} {s k : Nat} {o : Bool} {sn : Sre.Seen} : { tlAt x s (k + 2) o sn with answer := some false }.step = tlAt x s (k + 1) o sn := by
  show (if (((k + 2 : Nat) : Int) - 1 < ((1 : Nat) : Int)) then _ else _) = _
  rw [if_neg (by omega)]
  show tlG x s (s + 1 + (k + 2) - 1) (((k + 2 : Nat) : Int) - 1) o sn = tlG x s (s + 1 + (k + 1)) ((k + 1 : Nat) : Int) o sn
  rw [show ((k + 2 : Nat) : Int) - 1 = ((k + 1 : Nat) : Int) by omega, show s + 1 + (k + 2) - 1 = s + 1 + (k + 1) by omega]
theorem give_last {x : Array Nat} {s : Nat} {o : Bool} {sn : Sre.Seen} : { tlAt x s 1 o sn with answer := some false }.step = { stAt x s o sn with answer := some false, pc := 11, pos := s + 1 + 1, handed := s + 1 + 1 } := by
  rfl
theorem tl_fail {x : Array Nat} {s : Nat} {o : Bool} (h10 : ∀ i, x.getD i 0 ≠ 10) : ∀ (k : Nat) (sn : Sre.Seen), s + 1 + (k + 1) < x.size → ∃ sn', stp (2 * (k + 1)) (tlAt x s (k + 1) o sn) = { stAt x s o sn' with answer := some false, pc := 11, pos := s + 1 + 1, handed := s + 1 + 1 }
  | 0, sn, h => by
    obtain ⟨sn1, e1⟩ := tl_no (o := o) (sn := sn) (k := 0 + 1) (Nat.ne_of_lt h) h10
    refine ⟨sn1, ?_⟩
    show Sre.M.step (Sre.M.step _) = _
    rw [e1]
    exact give_last
  | k + 1, sn, h => by
    obtain ⟨sn1, e1⟩ := tl_no (o := o) (sn := sn) (k := k + 1 + 1) (Nat.ne_of_lt h) h10
    obtain ⟨sn2, e2⟩ := tl_fail (s := s) (o := o) h10 k sn1 (by omega)
    refine ⟨sn2, ?_⟩
    rw [show 2 * (k + 1 + 1) = 2 * (k + 1) + 1 + 1 by omega]
    show stp (2 * (k + 1)) (Sre.M.step (Sre.M.step _)) = _
    rw [e1, give]
    exact e2
/-- is there, from a place on, a dot with digits to the end -/
def sp (x : Array Nat) : Nat → Nat → Bool
  | 0, _ => false
  | k + 1, s => (x.getD s 0 == 46 && (dg x k (s + 1) == k && decide (0 < k))) || sp x k (s + 1)
theorem ip_run {x : Array Nat} (hx : x.size ≤ 1000) (h10 : ∀ i, x.getD i 0 ≠ 10) : ∀ (k s : Nat) (o : Bool) (sn : Sre.Seen), s + k = x.size → ∃ K, K + 2 * dg x k s ≤ 10 * k + 8 ∧ (stp K (stAt x s o sn)).outcome = some (if sp x k s = true then .matched else .failed)
  | 0, s, o, sn, hs => by
    obtain ⟨sn1, e1⟩ := at_no (x := x) (s := s) (o := o) (sn := sn) (fun h => by omega)
    refine ⟨3, by unfold dg; omega, ?_⟩
    show (stp 2 (Sre.M.step _)).outcome = _
    rw [e1, no_last (by omega)]
    rfl
  | k + 1, s, o, sn, hs => by
    by_cases h46 : x.getD s 0 = 46
    · have hnd : Sre.isDigit (x.getD s 0) = false := by rw [h46]; rfl
      have hd0 : dg x (k + 1) s = 0 := by unfold dg; rw [hnd]; rfl
      obtain ⟨sn1, e1⟩ := at_yes (o := o) (sn := sn) (show s < x.size by omega) h46
      have hk : x.size - (s + 1) = k := by omega
      have hsp : sp x (k + 1) s = ((dg x k (s + 1) == k && decide (0 < k)) || sp x k (s + 1)) := by
        show ((x.getD s 0 == 46 && _) || _) = _
        rw [h46]
        rfl
      cases hdg : dg x k (s + 1) with
      | zero =>
        obtain ⟨sn2, e2⟩ := rep_no (o := o) (sn := sn1) (show s < x.size by omega) hx (by rw [hk]; exact hdg)
        obtain ⟨K, hK, hO⟩ := ip_run hx h10 k (s + 1) false sn2 (by omega)
        refine ⟨K + 3, by rw [hd0]; omega, ?_⟩
        have hsp' : sp x (k + 1) s = sp x k (s + 1) := by
          rw [hsp, hdg]
          cases k with
          | zero => rfl
          | succ j => rfl
        rw [hsp']
        show (stp K (Sre.M.step (Sre.M.step (Sre.M.step _)))).outcome = _
        rw [e1, e2, no_next (by omega)]
        exact hO
      | succ j =>
        obtain ⟨sn2, e2⟩ := rep_yes (o := o) (sn := sn1) (k := j) (show s < x.size by omega) hx (by rw [hk]; exact hdg)
        have hle := dg_le x k (s + 1)
        by_cases hend : j + 1 = k
        · refine ⟨7, by rw [hd0]; omega, ?_⟩
          have hsp' : sp x (k + 1) s = true := by
            rw [hsp, hdg, hend]
            simp
            omega
          rw [hsp', if_pos rfl]
          show (stp 5 (Sre.M.step (Sre.M.step _))).outcome = _
          rw [e1, e2]
          exact tl_yes (by omega)
        · obtain ⟨sn3, e3⟩ := tl_fail (o := o) (s := s) h10 j sn2 (by omega)
          obtain ⟨K, hK, hO⟩ := ip_run hx h10 k (s + 1) false sn3 (by omega)
          refine ⟨K + 1 + 2 * (j + 1) + 2, by rw [hd0]; omega, ?_⟩
          have hsp' : sp x (k + 1) s = sp x k (s + 1) := by
            rw [hsp, hdg]
            have : (j + 1 == k) = false := by simpa using hend
            rw [this]
            rfl
          rw [hsp']
          rw [show K + 1 + 2 * (j + 1) + 2 = 2 + (2 * (j + 1) + (1 + K)) by omega, stp_add 2, stp_add (2 * (j + 1)), stp_add 1]
          show (stp K (stp 1 (stp (2 * (j + 1)) (Sre.M.step (Sre.M.step _))))).outcome = _
          rw [e1, e2, e3]
          have e4 : stp 1 { stAt x s o sn3 with answer := some false, pc := 11, pos := s + 1 + 1, handed := s + 1 + 1 } = stAt x (s + 1) false sn3 := no_next (o := o) (ot := o) (by omega)
          rw [e4]
          exact hO
    · obtain ⟨sn1, e1⟩ := at_no (x := x) (s := s) (o := o) (sn := sn) (fun _ => h46)
      obtain ⟨K, hK, hO⟩ := ip_run hx h10 k (s + 1) false sn1 (by omega)
      have hd1 : dg x (k + 1) s ≤ 1 + dg x k (s + 1) := by
        rw [dg]; split <;> omega
      refine ⟨K + 2, by omega, ?_⟩
      have hsp' : sp x (k + 1) s = sp x k (s + 1) := by
        show ((x.getD s 0 == 46 && _) || _) = _
        have : (x.getD s 0 == 46) = false := by simpa using h46
        rw [this]
        rfl
      rw [hsp']
      show (stp K (Sre.M.step (Sre.M.step _))).outcome = _
      rw [e1]
      rw [show ({ stAt x s o sn1 with answer := some false } : Sre.M) = { stAt x s o sn1 with answer := some false, pc := 9, pos := s, outermost := o, handed := s } from rfl, no_next (by omega)]
      exact hO
theorem ip_srch {x : Str} (hx : x.cps.size ≤ 150) (h10 : ∀ i, x.cps.getD i 0 ≠ 10) : srch ipCode x = some (decide (2 ≤ x.cps.size) && sp x.cps x.cps.size 0) := by
  unfold srch
  by_cases h2 : x.cps.size < 2
  · have e : Sre.forSearch ipCode.toArray x.cps 0 0 x.cps.size false = { stAt x.cps 0 true ((({} : Sre.Seen)).add 14) with lastStart := 0, frames := [], weight := 0, answer := some false } := by
      unfold Sre.forSearch
      show (if (decide (0 > x.cps.size) || decide (x.cps.size - 0 < 2)) = true then _ else _) = _
      rw [if_pos (by simp; omega)]
      rfl
    rw [e]
    have e2 : drv 400 { stAt x.cps 0 true ((({} : Sre.Seen)).add 14) with lastStart := 0, frames := [], weight := 0, answer := some false } = some (stp 1 { stAt x.cps 0 true ((({} : Sre.Seen)).add 14) with lastStart := 0, frames := [], weight := 0, answer := some false }) := drv_of 400 1 _ rfl (by decide) (by decide)
    rw [e2]
    have : decide (2 ≤ x.cps.size) = false := by simpa using h2
    rw [this]
    rfl
  · have e : Sre.forSearch ipCode.toArray x.cps 0 0 x.cps.size false = stAt x.cps 0 true ((({} : Sre.Seen)).add 14) := by
      unfold Sre.forSearch
      show (if (decide (0 > x.cps.size) || decide (x.cps.size - 0 < 2)) = true then _ else _) = _
      rw [if_neg (by simp; omega)]
      rfl
    obtain ⟨K, hK, hO⟩ := ip_run (by omega) h10 x.cps.size 0 true ((({} : Sre.Seen)).add 14) (by omega)
    rw [e, drv_of 400 K _ (by rw [hO]; rfl) (by omega) (by decide)]
    show outB _ = _
    unfold outB
    rw [hO]
    have : decide (2 ≤ x.cps.size) = true := by simpa using h2
    rw [this]
    cases sp x.cps x.cps.size 0 <;> rfl
end Mine

end

section 
-- text E2
open PySem PySem.W PyProof.Rows PySem.Sre
set_option maxRecDepth 100000
set_option maxHeartbeats 1000000
namespace Mine
/-- the sixteen's figures, as the pattern's words say -/
def hx (c : Nat) : Bool := decide (c < 256) && ((([0, 67043328, 126, 126, 0, 0, 0, 0] : List Nat).getD (c / 32) 0).testBit (c % 32))
def twAt (x : Array Nat) (s : Nat) (o : Bool) (sn : Sre.Seen) : Sre.M :=
  { code := twCode.toArray, text := x, lim := x.size, start := s, lastStart := x.size, pc := 9, pos := s, handed := s, outermost := o, marks := #[], frames := [{ wait := .nextStart, pc := 9, pos := s, outermost := o }], weight := 1, seen := sn }
theorem tw_no {x : Array Nat} {s : Nat} {o : Bool} {sn : Sre.Seen} (h : s < x.size → x.getD s 0 ≠ 61) : ∃ sn', (twAt x s o sn).step = { twAt x s o sn' with answer := some false } := by
  refine ⟨sn.add 16, ?_⟩
  by_cases hs : s < x.size
  · have h' := h hs
    have h2 : (x.getD s 0 == 61) = false := by simpa using h'
    show (if x.size ≤ s then _ else _) = _
    rw [if_neg (by omega)]
    show (match Except.ok (ε := String) (x.getD s 0 == 61, sn.add 16) with | .error why => _ | .ok (false, seen) => _ | .ok (true, seen) => _) = _
    rw [h2]
    rfl
  · show (if x.size ≤ s then _ else _) = _
    rw [if_pos (by omega)]
    rfl
theorem tw_next {x : Array Nat} {s p c hd : Nat} {o ot : Bool} {sn : Sre.Seen} (h : s < x.size) : { twAt x s o sn with answer := some false, pc := c, pos := p, outermost := ot, handed := hd }.step = twAt x (s + 1) false sn := by
  show (if s < x.size then _ else _) = _
  rw [if_pos h]
  rfl
theorem tw_last {x : Array Nat} {s : Nat} {o : Bool} {sn : Sre.Seen} (h : ¬ s < x.size) : (stp 2 { twAt x s o sn with answer := some false }).outcome = some .failed := by
  have e : { twAt x s o sn with answer := some false }.step = { twAt x s o sn with answer := some false, frames := [], weight := 0 } := by
    show (if s < x.size then _ else _) = _
    rw [if_neg h]
    rfl
  show (Sre.M.step (Sre.M.step _)).outcome = _
  rw [e]
  rfl
theorem words_tw (i : Nat) (hi : i < 8) : twCode.toArray.getD (17 + (1 + i)) 0 = ([0, 67043328, 126, 126, 0, 0, 0, 0] : List Nat).getD i 0 := by
  match i, hi with
  | 0, _ => rfl
  | 1, _ => rfl
  | 2, _ => rfl
  | 3, _ => rfl
  | 4, _ => rfl
  | 5, _ => rfl
  | 6, _ => rfl
  | 7, _ => rfl
  | n + 8, h => omega
theorem acc_tw (c : Nat) (sn : Sre.Seen) : ∃ sn', Sre.accepts twCode.toArray 15 c sn = .ok (hx c, sn') := by
  refine ⟨if hx c = true then sn.add 9 else (sn.add 9).add 0, ?_⟩
  show (Sre.inSet twCode.toArray c 29 17 true sn) = _
  have e : (decide (c < 256) && (twCode.toArray.getD (17 + (1 + c / 32)) 0).testBit (c % 32)) = hx c := by
    unfold hx
    by_cases h : c < 256
    · rw [words_tw (c / 32) (by omega)]
    · simp [h]
  show (if (decide (c < 256) && (twCode.toArray.getD (17 + (1 + c / 32)) 0).testBit (c % 32)) = true then Except.ok (true, sn.add 9) else Sre.inSet twCode.toArray c 28 26 true (sn.add 9)) = _
  rw [e]
  cases hx c
  · rfl
  · rfl
theorem run_tw2 (x : Array Nat) (p : Nat) (sn : Sre.Seen) : ∃ sn', Sre.run twCode.toArray x 15 2 p 0 sn = .ok (if hx (x.getD p 0) = true then (if hx (x.getD (p + 1) 0) = true then 2 else 1) else 0, sn') := by
  obtain ⟨sn1, h1⟩ := acc_tw (x.getD p 0) sn
  show ∃ sn', (do let (yes, seen) ← Sre.accepts twCode.toArray 15 (x.getD p 0) sn; if yes then Sre.run twCode.toArray x 15 1 (p + 1) (0 + 1) seen else pure (0, seen)) = _
  rw [h1]
  cases hx (x.getD p 0) with
  | false => exact ⟨sn1, rfl⟩
  | true =>
    obtain ⟨sn2, h2⟩ := acc_tw (x.getD (p + 1) 0) sn1
    show ∃ sn', (do let (yes, seen) ← Sre.accepts twCode.toArray 15 (x.getD (p + 1) 0) sn1; if yes then Sre.run twCode.toArray x 15 0 (p + 1 + 1) (0 + 1 + 1) seen else pure (0 + 1, seen)) = _
    rw [h2]
    cases hx (x.getD (p + 1) 0) with
    | false => exact ⟨sn2, rfl⟩
    | true => exact ⟨sn2, rfl⟩
theorem tw_yes {x : Array Nat} {s : Nat} {o : Bool} {sn : Sre.Seen} (hs : s < x.size) (h : x.getD s 0 = 61) : ∃ sn', (twAt x s o sn).step = { twAt x s o sn' with pc := 11, pos := s + 1 } := by
  refine ⟨sn.add 16, ?_⟩
  have h2 : (x.getD s 0 == 61) = true := by simpa using h
  show (if x.size ≤ s then _ else _) = _
  rw [if_neg (by omega)]
  show (match Except.ok (ε := String) (x.getD s 0 == 61, sn.add 16) with | .error why => _ | .ok (false, seen) => _ | .ok (true, seen) => _) = _
  rw [h2]
  rfl
/-- does the pattern lie at a place -/
def isTw (x : Array Nat) (s : Nat) : Bool := x.getD s 0 == 61 && (decide (s + 2 < x.size) && (hx (x.getD (s + 1) 0) && hx (x.getD (s + 2) 0)))
theorem tr_no {x : Array Nat} {s : Nat} {o : Bool} {sn : Sre.Seen} (hs : s < x.size) (h : (decide (s + 2 < x.size) && (hx (x.getD (s + 1) 0) && hx (x.getD (s + 2) 0))) = false) : ∃ sn', { twAt x s o sn with pc := 11, pos := s + 1 }.step = { twAt x s o sn' with pc := 11, pos := s + 1, answer := some false } := by
  by_cases hr : s + 2 < x.size
  · have hm : min 2 ((x.size : Int) - ((s + 1 : Nat) : Int)).toNat = 2 := by omega
    obtain ⟨sn1, h1⟩ := run_tw2 x (s + 1) ((sn.add 24).add 13)
    refine ⟨sn1, ?_⟩
    show (if ((2 : Nat) : Int) > (x.size : Int) - ((s + 1 : Nat) : Int) then _ else (match Sre.run twCode.toArray x 15 (min 2 ((x.size : Int) - ((s + 1 : Nat) : Int)).toNat) (s + 1) 0 ((sn.add 24).add 13) with | .error why => _ | .ok (n, seen) => _)) = _
    rw [if_neg (by omega), hm, h1]
    have hd : decide (s + 2 < x.size) = true := by simpa using hr
    rw [hd, Bool.true_and] at h
    cases h3 : hx (x.getD (s + 1) 0) with
    | false => rfl
    | true =>
      rw [h3, Bool.true_and] at h
      rw [show s + 1 + 1 = s + 2 from rfl, h]
      rfl
  · refine ⟨sn.add 24, ?_⟩
    show (if ((2 : Nat) : Int) > (x.size : Int) - ((s + 1 : Nat) : Int) then _ else _) = _
    rw [if_pos (by omega)]
    rfl
theorem tr_yes {x : Array Nat} {s : Nat} {o : Bool} {sn : Sre.Seen} (hs : s + 2 < x.size) (h1 : hx (x.getD (s + 1) 0) = true) (h2 : hx (x.getD (s + 2) 0) = true) :
    (stp 5 { twAt x s o sn with pc := 11, pos := s + 1 }).outcome = some .matched ∧ (stp 5 { twAt x s o sn with pc := 11, pos := s + 1 }).start = s ∧ (stp 5 { twAt x s o sn with pc := 11, pos := s + 1 }).handed = s + 3 := by
  have hm : min 2 ((x.size : Int) - ((s + 1 : Nat) : Int)).toNat = 2 := by omega
  obtain ⟨sn1, h3⟩ := run_tw2 x (s + 1) ((sn.add 24).add 13)
  have e : { twAt x s o sn with pc := 11, pos := s + 1 }.step = { twAt x s o sn1 with pc := 28, pos := s + 3, handed := s + 3, frames := [{ wait := .giveBack, pc := 11, pos := s + 3, outermost := o, count := 2 }, { wait := .nextStart, pc := 9, pos := s, outermost := o }], weight := 2 } := by
    show (if ((2 : Nat) : Int) > (x.size : Int) - ((s + 1 : Nat) : Int) then _ else (match Sre.run twCode.toArray x 15 (min 2 ((x.size : Int) - ((s + 1 : Nat) : Int)).toNat) (s + 1) 0 ((sn.add 24).add 13) with | .error why => _ | .ok (n, seen) => _)) = _
    rw [if_neg (by omega), hm, h3, h1, show s + 1 + 1 = s + 2 from rfl, h2]
    rfl
  have e2 : stp 5 { twAt x s o sn with pc := 11, pos := s + 1 } = stp 4 { twAt x s o sn1 with pc := 28, pos := s + 3, handed := s + 3, frames := [{ wait := .giveBack, pc := 11, pos := s + 3, outermost := o, count := 2 }, { wait := .nextStart, pc := 9, pos := s, outermost := o }], weight := 2 } := by
    show stp 4 (Sre.M.step _) = _
    rw [e]
  rw [e2]
  cases o <;> exact ⟨rfl, rfl, rfl⟩
/-- the first place of the pattern -/
def twf (x : Array Nat) : Nat → Nat → Option Nat
  | 0, _ => none
  | k + 1, s => if isTw x s = true then some s else twf x k (s + 1)
theorem tw_run {x : Array Nat} : ∀ (k s : Nat) (o : Bool) (sn : Sre.Seen), s + k = x.size → ∃ K, K ≤ 3 * k + 8 ∧ (match twf x k s with
    | none => (stp K (twAt x s o sn)).outcome = some .failed
    | some s' => (stp K (twAt x s o sn)).outcome = some .matched ∧ (stp K (twAt x s o sn)).start = s' ∧ (stp K (twAt x s o sn)).handed = s' + 3)
  | 0, s, o, sn, hs => by
    obtain ⟨sn1, e1⟩ := tw_no (x := x) (s := s) (o := o) (sn := sn) (fun h => by omega)
    refine ⟨3, by omega, ?_⟩
    show (stp 2 (Sre.M.step _)).outcome = _
    rw [e1]
    exact tw_last (by omega)
  | k + 1, s, o, sn, hs => by
    by_cases h61 : x.getD s 0 = 61
    · obtain ⟨sn1, e1⟩ := tw_yes (o := o) (sn := sn) (show s < x.size by omega) h61
      cases h : (decide (s + 2 < x.size) && (hx (x.getD (s + 1) 0) && hx (x.getD (s + 2) 0))) with
      | false =>
        have hi : isTw x s = false := by unfold isTw; rw [h, Bool.and_false]
        obtain ⟨sn2, e2⟩ := tr_no (o := o) (sn := sn1) (show s < x.size by omega) h
        obtain ⟨K, hK, hO⟩ := tw_run (x := x) k (s + 1) false sn2 (by omega)
        refine ⟨K + 3, by omega, ?_⟩
        have e : stp (K + 3) (twAt x s o sn) = stp K (twAt x (s + 1) false sn2) := by
          show stp K (Sre.M.step (Sre.M.step (Sre.M.step _))) = _
          rw [e1, e2, tw_next (x := x) (s := s) (by omega)]
        rw [e]
        unfold twf
        rw [if_neg (by rw [hi]; decide)]
        exact hO
      | true =>
        have hi : isTw x s = true := by unfold isTw; rw [h, h61]; rfl
        simp only [Bool.and_eq_true, decide_eq_true_eq] at h
        refine ⟨6, by omega, ?_⟩
        unfold twf
        rw [if_pos hi]
        have e : stp 6 (twAt x s o sn) = stp 5 { twAt x s o sn1 with pc := 11, pos := s + 1 } := by
          show stp 5 (Sre.M.step _) = _
          rw [e1]
        rw [e]
        exact tr_yes h.1 h.2.1 h.2.2
    · obtain ⟨sn1, e1⟩ := tw_no (x := x) (s := s) (o := o) (sn := sn) (fun _ => h61)
      obtain ⟨K, hK, hO⟩ := tw_run (x := x) k (s + 1) false sn1 (by omega)
      refine ⟨K + 2, by omega, ?_⟩
      have hi : isTw x s = false := by
        unfold isTw
        have : (x.getD s 0 == 61) = false := by simpa using h61
        rw [this, Bool.false_and]
      have e : stp (K + 2) (twAt x s o sn) = stp K (twAt x (s + 1) false sn1) := by
        show stp K (Sre.M.step (Sre.M.step _)) = _
        rw [e1]
        rw [show ({ twAt x s o sn1 with answer := some false } : Sre.M) = { twAt x s o sn1 with answer := some false, pc := 9, pos := s, outermost := o, handed := s } from rfl, tw_next (x := x) (s := s) (by omega)]
      rw [e]
      unfold twf
      rw [if_neg (by rw [hi]; decide)]
      exact hO
theorem twf_short {x : Array Nat} : ∀ (k s : Nat), s + k = x.size → k < 3 → twf x k s = none
  | 0, _, _, _ => rfl
  | k + 1, s, hs, hk => by
    unfold twf
    have hi : isTw x s = false := by
      unfold isTw
      have : decide (s + 2 < x.size) = false := by simp; omega
      rw [this, Bool.false_and, Bool.and_false]
    rw [if_neg (by rw [hi]; decide)]
    exact twf_short k (s + 1) (by omega) (by omega)
theorem tw_srch {x : Array Nat} {s : Nat} (hs : s ≤ x.size) (hx : x.size ≤ 300) : ∃ m, drv 400 (Sre.forSearch twCode.toArray x 0 s x.size false) = some m ∧ (match twf x (x.size - s) s with
    | none => m.outcome = some .failed
    | some s' => m.outcome = some .matched ∧ m.start = s' ∧ m.handed = s' + 3) := by
  by_cases h3 : x.size - s < 3
  · have e : Sre.forSearch twCode.toArray x 0 s x.size false = { twAt x s true ((({} : Sre.Seen)).add 14) with lastStart := 0, frames := [], weight := 0, answer := some false } := by
      unfold Sre.forSearch
      show (if (decide (s > x.size) || decide (x.size - s < 3)) = true then _ else _) = _
      rw [if_pos (by simp; omega)]
      rfl
    rw [e, twf_short _ _ (by omega) h3]
    exact ⟨_, drv_of 400 1 _ rfl (by decide) (by decide), rfl⟩
  · have e : Sre.forSearch twCode.toArray x 0 s x.size false = twAt x s true ((({} : Sre.Seen)).add 14) := by
      unfold Sre.forSearch
      show (if (decide (s > x.size) || decide (x.size - s < 3)) = true then _ else _) = _
      rw [if_neg (by simp; omega)]
      rfl
    obtain ⟨K, hK, hO⟩ := tw_run (x := x) (x.size - s) s true ((({} : Sre.Seen)).add 14) (by omega)
    rw [e]
    refine ⟨_, drv_of 400 K _ ?_ (by omega) (by decide), hO⟩
    revert hO
    cases twf x (x.size - s) s with
    | none => intro hO; rw [hO]; rfl
    | some s' => intro hO; rw [hO.1]; rfl
end Mine

end

section 
-- text PL0
set_option maxRecDepth 100000
set_option maxHeartbeats 0

namespace Mine
abbrev LN := List Nat
def digC (c : Nat) : Bool := Nat.ble 48 c && Nat.ble c 57
def allDig : LN → Bool
  | [] => true
  | c :: r => match digC c with | true => allDig r | false => false
def spL : LN → Bool
  | [] => false
  | c :: r => match Nat.beq c 46 with
    | true => match r with
      | [] => false
      | _ :: _ => match allDig r with | true => true | false => spL r
    | false => spL r
def lastIs (d : Nat) : LN → Bool
  | [] => false
  | c :: r => match r with
    | [] => Nat.beq c d
    | _ :: _ => lastIs d r
def headIs (d : Nat) : LN → Bool
  | [] => false
  | c :: _ => Nat.beq c d
def hdnL (l : LN) : Bool := match l with
  | [] => false
  | c :: r => !(spL (c :: r)) && (!(Nat.beq c 46) && !(lastIs 46 (c :: r)))
def eqL : LN → LN → Bool
  | [], [] => true
  | a :: r, b :: t => match Nat.beq a b with | true => eqL r t | false => false
  | _, _ => false
def preL : LN → LN → Bool
  | _, [] => true
  | [], _ :: _ => false
  | a :: r, b :: t => match Nat.beq a b with | true => preL r t | false => false
def subL : LN → LN → Bool
  | [], b => preL [] b
  | a :: r, b => match preL (a :: r) b with | true => true | false => subL r b
def dmL (a b : LN) : Bool := match eqL a b with
  | true => true
  | false => match hdnL a with
    | false => false
    | true => match subL (a.drop 1) b with
      | false => false
      | true => match headIs 46 b with
        | false => false
        | true => hdnL (b.drop 1)
def lowC (c : Nat) : Nat := match Nat.ble 65 c && Nat.ble c 90 with | true => c + 32 | false => c
def chars (s : String) : LN := s.toList.map Char.toNat
def tabL : List (List (LN × LN)) := [[([97], [97]), ([61, 54, 49], [97]), ([87], [87])], [([98, 55], [98, 55]), ([66], [66]), ([51], [51])], [([100, 45, 101], [100, 45, 101]), ([53], [53]), ([61, 54, 52], [100])],
  [([99, 111, 109], [99, 111, 109]), ([108, 111, 99, 97, 108], [108, 111, 99, 97, 108]), ([55], [55]), ([61, 54, 67, 111, 99, 97, 108], [108, 111, 99, 97, 108]), ([61, 51, 55], [55]), ([76, 79, 67, 65, 76], [76, 79, 67, 65, 76])]]
def sepL (d : LN) (n k : Nat) : LN := match Nat.beq (n / 2 ^ k % 2) 1 with | true => [46] | false => d
def txL (a b c e d : LN) (n : Nat) : LN := a ++ (sepL d n 0 ++ (b ++ (sepL d n 1 ++ (c ++ (sepL d n 2 ++ e)))))
def tlL (b c e d : LN) (t : Nat) : LN := match Nat.beq (t % 2) 1 with
  | true => 46 :: (b ++ (sepL d t 1 ++ (c ++ (sepL d t 2 ++ e))))
  | false => match Nat.beq (t % 4) 2 with
    | true => 46 :: (c ++ (sepL d t 2 ++ e))
    | false => 46 :: e
def inL (b c d : LN) (t : Nat) : LN := match Nat.beq (t % 2) 1 with
  | true => 46 :: (b ++ (sepL d t 1 ++ c))
  | false => match Nat.beq (t % 4) 2 with
    | true => 46 :: c
    | false => []
def pwN (t : Nat) : Nat := match Nat.beq (t % 4) 0 with | true => 4 | false => match Nat.beq (t % 2) 0 with | true => 2 | false => 1
def nmN (e : LN) (n : Nat) : Bool := Nat.blt n 4 || !(eqL e [55])
def bq : Bool → Bool → Bool
  | true, b => b
  | false, true => false
  | false, false => true
def allN (n : Nat) (f : Nat → Bool) : Bool := match n with
  | 0 => true
  | k + 1 => match f k with | true => allN k f | false => false
def chk1 (a b c e d : LN) : Bool := allN 8 (fun n => dmL (txL a b c e d n) (txL a b c e d n)) &&
  allN 7 (fun u => allN 8 (fun n => bq (dmL (txL a b c e d n) (tlL b c e d (u + 1))) (nmN e n && Nat.beq (n / pwN (u + 1)) ((u + 1) / pwN (u + 1)))) &&
    (!(dmL (txL a b c e d (u + 1)) (tlL b c e d (u + 1)).tail) &&
    bq (dmL (txL a b c e d (u + 1)) (inL b c d (u + 1))) (nmN e (u + 1) && (!(Nat.beq (u + 1) 4) && (!(Nat.beq ((u + 1) % 4) 3) || !(eqL c [53]))))))
def lowsA : List LN := [[97], [61, 54, 49], [119]]
def lowsB : List LN := [[98, 55], [98], [51]]
def lowsC : List LN := [[100, 45, 101], [53], [61, 54, 52]]
def lowsE : List LN := [[99, 111, 109], [108, 111, 99, 97, 108], [55], [61, 54, 99, 111, 99, 97, 108], [61, 51, 55]]
end Mine

end

section 
-- text E3
open PySem PySem.W PyProof.Rows PySem.Calls
set_option maxRecDepth 100000
set_option maxHeartbeats 1000000
namespace Mine
abbrev S (l : LN) : Str := ⟨l.toArray⟩
theorem S_inj {a b : LN} (h : S a = S b) : a = b := by
  have := congrArg (fun s => s.cps.toList) h
  simpa using this
theorem eqL_iff : ∀ (a b : LN), eqL a b = true ↔ a = b
  | [], [] => by simp [eqL]
  | [], _ :: _ => by simp [eqL]
  | _ :: _, [] => by simp [eqL]
  | a :: r, b :: t => by
    unfold eqL
    cases h : Nat.beq a b with
    | true => have := Nat.eq_of_beq_eq_true h; subst this; simp [eqL_iff r t]
    | false => have := Nat.ne_of_beq_eq_false h; simp [this]
theorem S_beq (a b : LN) : (S a == S b) = eqL a b := by
  cases h : eqL a b with
  | true => rw [(eqL_iff a b).mp h]; simp
  | false =>
    have : S a ≠ S b := fun e => by rw [(eqL_iff a b).mpr (S_inj e)] at h; cases h
    simpa using this
theorem emp_S : Str.ofString "" = S [] := by rfl
theorem dot_S : Str.ofString "." = S [46] := by decide +kernel
theorem app_S (a b : LN) : S a ++ S b = S (a ++ b) := by
  show (⟨a.toArray ++ b.toArray⟩ : Str) = ⟨(a ++ b).toArray⟩
  simp
theorem len_S (a : LN) : (S a).length = a.length := by show a.toArray.size = _; simp
theorem join_S0 : ∀ (ls : List LN), Str.join (S []) (ls.map S) = S ls.flatten
  | [] => rfl
  | [a] => by simp [Str.join]
  | a :: b :: r => by
    show S a ++ S [] ++ Str.join (S []) ((b :: r).map S) = _
    rw [join_S0 (b :: r), app_S, app_S]
    simp
theorem join_S (ls : List LN) : Txt.join (Str.ofString "") (ls.map S) = S ls.flatten := by
  show Builtin.Str.glued _ _ = _
  rw [StrLaws.glued_eq_join, emp_S]
  exact join_S0 ls
/-- all signs below 128, none a line's end or an underscore -/
def okL : LN → Bool
  | [] => true
  | c :: r => (Nat.blt c 128 && (!(Nat.beq c 10) && !(Nat.beq c 95))) && okL r
theorem okL_mem {l : LN} (h : okL l = true) : ∀ c ∈ l, c < 128 ∧ c ≠ 10 ∧ c ≠ 95 := by
  induction l with
  | nil => intro c hc; cases hc
  | cons a r ih =>
    simp only [okL, Bool.and_eq_true, Bool.not_eq_true'] at h
    intro c hc
    rcases List.mem_cons.mp hc with rfl | hc
    · exact ⟨Nat.le_of_ble_eq_true h.1.1, Nat.ne_of_beq_eq_false h.1.2.1, Nat.ne_of_beq_eq_false h.1.2.2⟩
    · exact ih h.2 c hc
theorem okL_app {a b : LN} (ha : okL a = true) (hb : okL b = true) : okL (a ++ b) = true := by
  induction a with
  | nil => exact hb
  | cons c r ih =>
    simp only [okL, List.cons_append, Bool.and_eq_true] at ha ⊢
    exact ⟨ha.1, ih ha.2⟩
theorem low_tab : (List.range 128).all (fun c => Unicode.lowerOf c == [lowC c]) = true := by decide +kernel
def upC (c : Nat) : Nat := if 97 ≤ c ∧ c ≤ 122 then c - 32 else c
theorem up_tab : (List.range 128).all (fun c => Unicode.upperOf c == [upC c]) = true := by decide +kernel
theorem low_of {c : Nat} (h : c < 128) : Unicode.lowerOf c = [lowC c] := by
  have := List.all_eq_true.mp low_tab c (List.mem_range.mpr h)
  simpa using this
theorem up_of {c : Nat} (h : c < 128) : Unicode.upperOf c = [upC c] := by
  have := List.all_eq_true.mp up_tab c (List.mem_range.mpr h)
  simpa using this
theorem flat_ones (f : Nat → Nat) (l : LN) : ((l.toArray.map fun c => #[f c]).flatten : Array Nat) = (l.map f).toArray := by
  apply Array.toList_inj.mp
  simp
  induction l with
  | nil => rfl
  | cons a r ih => simp [ih]
theorem lower_S {l : LN} (h : ∀ c ∈ l, c < 128) : Txt.lower (S l) = S (l.map lowC) := by
  show (⟨(l.toArray.mapIdx fun i c => (Unicode.lowerAt l.toArray i).toArray).flatten⟩ : Str) = _
  have e : (l.toArray.mapIdx fun i c => (Unicode.lowerAt l.toArray i).toArray) = l.toArray.map fun c => #[lowC c] := by
    refine Array.ext (by simp) fun i h1 h2 => ?_
    have hi : i < l.length := by simpa using h2
    rw [Array.getElem_mapIdx, Array.getElem_map]
    unfold Unicode.lowerAt
    have hc : l[i] < 128 := h _ (List.getElem_mem hi)
    rw [show l.toArray[i]? = some l[i] by simp [hi]]
    have hne : (l[i] == 0x3A3) = false := by simp; omega
    simp only [hne, Bool.false_and, Bool.false_eq_true, if_false]
    rw [low_of hc]
    simp
  rw [e, flat_ones]
theorem upper_S {l : LN} (h : ∀ c ∈ l, c < 128) : Txt.upper (S l) = S (l.map upC) := by
  show (⟨(l.toArray.mapIdx fun i c => (Unicode.upperOf c).toArray).flatten⟩ : Str) = _
  have e : (l.toArray.mapIdx fun i c => (Unicode.upperOf c).toArray) = l.toArray.map fun c => #[upC c] := by
    refine Array.ext (by simp) fun i h1 h2 => ?_
    have hi : i < l.length := by simpa using h2
    rw [Array.getElem_mapIdx, Array.getElem_map]
    have hc : l[i] < 128 := h _ (List.getElem_mem hi)
    rw [show l.toArray[i] = l[i] by simp, up_of hc]
  rw [e, flat_ones]
theorem upC_lt {c : Nat} (h : c < 128) : upC c < 128 := by unfold upC; split <;> omega
theorem low_up (c : Nat) : lowC (upC c) = lowC c := by
  unfold upC
  split
  · rename_i h
    have e1 : (Nat.ble 65 (c - 32) && Nat.ble (c - 32) 90) = true := by simp [Nat.ble_eq]; omega
    have e2 : (Nat.ble 65 c && Nat.ble c 90) = false := by
      have : Nat.ble c 90 = false := by
        cases q : Nat.ble c 90 with
        | false => rfl
        | true => have := Nat.le_of_ble_eq_true q; omega
      rw [this, Bool.and_false]
    unfold lowC
    rw [e1, e2]
    show c - 32 + 32 = c
    omega
  · rfl
theorem lowup_S {l : LN} (h : ∀ c ∈ l, c < 128) : Txt.lower (Txt.upper (S l)) = S (l.map lowC) := by
  rw [upper_S h, lower_S]
  · rw [List.map_map]
    exact congrArg S (List.map_congr_left fun c _ => low_up c)
  · intro c hc
    obtain ⟨b, hb, rfl⟩ := List.mem_map.mp hc
    exact upC_lt (h b hb)
theorem beq_n (a b : Nat) : (a == b) = Nat.beq a b := by
  rw [Bool.eq_iff_iff]; simp
theorem dig_eq (c : Nat) : Sre.isDigit c = digC c := by
  unfold Sre.isDigit digC
  have e : ∀ a b : Nat, decide (a ≤ b) = Nat.ble a b := fun a b => by
    rw [Bool.eq_iff_iff]; simp [Nat.ble_eq]
  rw [e, e]
theorem getD_S (l : LN) (i : Nat) : l.toArray.getD i 0 = l.getD i 0 := by
  simp [Array.getD_eq_getD_getElem?, List.getD_eq_getElem?_getD]
theorem drop_cons {l : LN} {s : Nat} (h : s < l.length) : l.drop s = l.getD s 0 :: l.drop (s + 1) := by
  rw [List.drop_eq_getElem_cons h]
  simp [List.getD_eq_getElem?_getD, List.getElem?_eq_getElem h]
theorem dg_all (l : LN) : ∀ (k s : Nat), s + k = l.length → (dg l.toArray k s == k) = allDig (l.drop s)
  | 0, s, h => by
    rw [List.drop_of_length_le (by omega)]
    rfl
  | k + 1, s, h => by
    rw [drop_cons (by omega)]
    unfold dg allDig
    rw [getD_S, dig_eq]
    have ih := dg_all l k (s + 1) (by omega)
    cases digC (l.getD s 0) with
    | true =>
      rw [if_pos rfl, ← ih, Nat.add_comm 1]
      by_cases q : dg l.toArray k (s + 1) = k
      · simp [q]
      · simp [q]
    | false => rw [if_neg (by decide)]; rfl
theorem spL_cons (c : Nat) (r : LN) : spL (c :: r) = (match Nat.beq c 46 with
    | true => (match r with
      | [] => false
      | _ :: _ => (match allDig r with | true => true | false => spL r))
    | false => spL r) := by
  conv => lhs; unfold spL
  cases Nat.beq c 46 <;> cases r <;> rfl
theorem sp_L (l : LN) : ∀ (k s : Nat), s + k = l.length → sp l.toArray k s = spL (l.drop s)
  | 0, s, h => by
    rw [List.drop_of_length_le (by omega)]
    rfl
  | k + 1, s, h => by
    have ih := sp_L l k (s + 1) (by omega)
    have id := dg_all l k (s + 1) (by omega)
    unfold sp
    rw [ih, id, getD_S, drop_cons (l := l) (s := s) (by omega), spL_cons]
    have hb : (l.getD s 0 == 46) = Nat.beq (l.getD s 0) 46 := beq_n _ _
    rw [hb]
    cases Nat.beq (l.getD s 0) 46 with
    | false => rfl
    | true =>
      rw [Bool.true_and]
      cases hr : l.drop (s + 1) with
      | nil =>
        have : k = 0 := by
          have := congrArg List.length hr
          simp at this
          omega
        subst this
        rfl
      | cons a r =>
        have : 0 < k := by
          have := congrArg List.length hr
          simp at this
          omega
        have e : decide (0 < k) = true := by simpa using this
        rw [e, Bool.and_true]
        cases allDig (a :: r) <;> rfl
theorem lastIs_eq (d : Nat) : ∀ (l : LN), l ≠ [] → lastIs d l = (l.getD (l.length - 1) 0 == d)
  | [], h => absurd rfl h
  | [c], _ => (beq_n _ _).symm
  | c :: b :: r, _ => by
    show lastIs d (b :: r) = _
    rw [lastIs_eq d (b :: r) (by simp)]
    rfl
theorem item_0 (c : Nat) (r : LN) : Txt.item (S (c :: r)) 0 = S [c] := by
  show (⟨#[(Txt.charAt (S (c :: r)) 0).getD 0]⟩ : Str) = _
  have : Txt.charAt (S (c :: r)) 0 = some c := by
    unfold Txt.charAt
    have e : seqIndex? (0 : Int) (S (c :: r)).length = some 0 := by rw [len_S]; exact idx_at (by simp)
    rw [e]
    rfl
  rw [this]
  rfl
theorem item_last (c : Nat) (r : LN) : Txt.item (S (c :: r)) (-1) = S [(c :: r).getD r.length 0] := by
  show (⟨#[(Txt.charAt (S (c :: r)) (-1)).getD 0]⟩ : Str) = _
  have : Txt.charAt (S (c :: r)) (-1) = some ((c :: r).getD r.length 0) := by
    unfold Txt.charAt
    have e : seqIndex? (-1 : Int) (S (c :: r)).length = some r.length := by
      rw [len_S]
      unfold seqIndex?
      simp
      omega
    rw [e]
    show (c :: r).toArray[r.length]? = _
    simp [List.getD_eq_getElem?_getD]
  rw [this]
  rfl
theorem hdn_S {l : LN} (hl : l.length ≤ 150) (h10 : ∀ c ∈ l, c ≠ 10) : hdn (S l) = some (hdnL l) := by
  have h := ip_srch (x := S l) (by simpa using hl) (fun i => by
    show l.toArray.getD i 0 ≠ 10
    rw [getD_S]
    by_cases hi : i < l.length
    · rw [List.getD_eq_getElem?_getD, List.getElem?_eq_getElem hi]; exact h10 _ (List.getElem_mem hi)
    · rw [List.getD_eq_getElem?_getD, List.getElem?_eq_none (by omega)]; decide)
  unfold hdn
  rw [h]
  have hsz : (S l).cps.size = l.length := by simp
  rw [hsz, sp_L l l.length 0 (by omega), List.drop_zero, emp_S, dot_S, S_beq]
  cases l with
  | nil => rfl
  | cons c r =>
    rw [item_0, item_last, S_beq, S_beq]
    have e1 : eqL (c :: r) [] = false := rfl
    have e2 : eqL [c] [46] = Nat.beq c 46 := by unfold eqL; cases Nat.beq c 46 <;> rfl
    have e3 : eqL [(c :: r).getD r.length 0] [46] = lastIs 46 (c :: r) := by
      rw [lastIs_eq 46 (c :: r) (by simp), beq_n]
      show _ = Nat.beq ((c :: r).getD r.length 0) 46
      unfold eqL
      cases Nat.beq ((c :: r).getD r.length 0) 46 <;> rfl
    rw [e1, e2, e3]
    have e4 : (decide (2 ≤ (c :: r).length) && spL (c :: r)) = spL (c :: r) := by
      cases r with
      | nil =>
        have : spL [c] = false := by unfold spL; cases Nat.beq c 46 <;> rfl
        rw [this, Bool.and_false]
      | cons a t => rfl
    rw [e4]
    show some (!spL (c :: r) && true && !Nat.beq c 46 && !lastIs 46 (c :: r)) = some (!spL (c :: r) && (!Nat.beq c 46 && !lastIs 46 (c :: r)))
    rw [Bool.and_true, Bool.and_assoc]
end Mine

end

section 
-- text E4
open PySem PySem.W PyProof.Rows PySem.Calls
set_option maxRecDepth 100000
set_option maxHeartbeats 1000000
namespace Mine
theorem preL_iff : ∀ (a b : LN), preL a b = true ↔ a.take b.length = b
  | a, [] => by simp [preL]
  | [], _ :: _ => by simp [preL]
  | a :: r, b :: t => by
    unfold preL
    cases h : Nat.beq a b with
    | true =>
      have := Nat.eq_of_beq_eq_true h
      subst this
      simp [preL_iff r t]
    | false =>
      have := Nat.ne_of_beq_eq_false h
      simp [this]
theorem subL_iff : ∀ (a b : LN), subL a b = true ↔ ∃ i, i ≤ a.length ∧ preL (a.drop i) b = true
  | [], b => by
    unfold subL
    constructor
    · intro h; exact ⟨0, Nat.le_refl _, h⟩
    · rintro ⟨i, _, h⟩; simpa using h
  | a :: r, b => by
    unfold subL
    cases h : preL (a :: r) b with
    | true => simp only [true_iff]; exact ⟨0, Nat.zero_le _, h⟩
    | false =>
      show subL r b = true ↔ _
      rw [subL_iff r b]
      constructor
      · rintro ⟨i, hi, hp⟩; exact ⟨i + 1, by simp; exact hi, hp⟩
      · rintro ⟨i, hi, hp⟩
        cases i with
        | zero => rw [List.drop_zero, h] at hp; cases hp
        | succ j => exact ⟨j, by simpa using hi, hp⟩
theorem at_S {a b : LN} {i : Nat} : StrLaws.At (S a) (S b) (S a).length i ↔ i ≤ a.length ∧ preL (a.drop i) b = true := by
  unfold StrLaws.At Builtin.Str.subAt
  rw [preL_iff, len_S, len_S]
  have e : (a.toArray.extract i (i + b.length) == b.toArray) = true ↔ (a.drop i).take b.length = b := by
    rw [beq_iff_eq]
    constructor
    · intro h
      have := congrArg Array.toList h
      simpa using this
    · intro h
      apply Array.toList_inj.mp
      simpa using h
  constructor
  · rintro ⟨h1, h2⟩
    exact ⟨by omega, e.mp h2⟩
  · rintro ⟨h1, h2⟩
    refine ⟨?_, e.mpr h2⟩
    have := congrArg List.length h2
    simp at this
    omega
theorem rfind_S {a b : LN} (ha : a ≠ []) : (subL (a.drop 1) b = true → Txt.rfind (S a) (S b) ≠ -1 ∧ Txt.rfind (S a) (S b) ≠ 0) ∧ (subL (a.drop 1) b = false → Txt.rfind (S a) (S b) = -1 ∨ Txt.rfind (S a) (S b) = 0) := by
  have hl : 1 ≤ a.length := by cases a with | nil => exact absurd rfl ha | cons _ _ => simp
  have key : subL (a.drop 1) b = true ↔ ∃ i, 1 ≤ i ∧ StrLaws.At (S a) (S b) (S a).length i := by
    rw [subL_iff]
    constructor
    · rintro ⟨i, hi, hp⟩
      rw [List.drop_drop] at hp
      exact ⟨1 + i, by omega, at_S.mpr ⟨by simp at hi; omega, hp⟩⟩
    · rintro ⟨i, h1, hp⟩
      obtain ⟨h2, h3⟩ := at_S.mp hp
      refine ⟨i - 1, by simp; omega, ?_⟩
      rw [List.drop_drop, show 1 + (i - 1) = i by omega]
      exact h3
  unfold Txt.rfind
  rcases StrLaws.last_spec (S a) (S b) with ⟨h, hn⟩ | ⟨i, h, hi, hn⟩
  · rw [h]
    refine ⟨fun q => ?_, fun _ => .inl rfl⟩
    obtain ⟨i, _, hp⟩ := key.mp q
    exact absurd hp (hn i)
  · rw [h]
    refine ⟨fun q => ?_, fun q => ?_⟩
    · obtain ⟨j, h1, hp⟩ := key.mp q
      have : j ≤ i := Nat.le_of_not_lt fun z => hn j z hp
      refine ⟨?_, ?_⟩
      · show (i : Int) ≠ -1; omega
      · show (i : Int) ≠ 0; omega
    · by_cases h0 : i = 0
      · subst h0; exact .inr rfl
      · have := key.mpr ⟨i, by omega, hi⟩
        rw [q] at this; cases this
theorem starts_S (b : LN) : Txt.startswith (S b) (Str.ofString ".") = headIs 46 b := by
  rw [dot_S]
  unfold Txt.startswith
  rw [len_S, len_S]
  cases b with
  | nil => rfl
  | cons c r =>
    have e1 : decide (0 + ([46] : LN).length ≤ (c :: r).length) = true := by simp
    rw [e1, Bool.true_and]
    unfold Builtin.Str.subAt
    have e2 : (S (c :: r)).cps.extract 0 (0 + (S [46]).length) = #[c] := by
      apply Array.toList_inj.mp
      simp [Str.length]
    rw [e2]
    show (#[c] == #[46]) = Nat.beq c 46
    rw [Bool.eq_iff_iff]
    simp
theorem slice_S (b : LN) (k : Nat) : Txt.slice (S b) (some (k : Int)) none = S (b.drop k) := by
  by_cases h : k ≤ b.length
  · rw [slice_from_eq (b := (b.length : Int)) (by omega) (by rw [len_S]; omega) (by rw [len_S])]
    have : (((S b).cps.toList.drop (k : Int).toNat).take ((b.length : Int) - (k : Int)).toNat) = b.drop k := by
      rw [List.take_of_length_le (by simp)]
      simp
    rw [this]
  · rw [slice_beyond (by rw [len_S]; omega), List.drop_of_length_le (by omega)]
    rfl
/-- domain_match on texts in small letters -/
def dmS (a b : Str) : Option Bool :=
  if (a == b) = true then some true else
  match hdn a with
  | none => none
  | some u => if u = false then some false else
    if Txt.rfind a b = -1 then some false else
    if Txt.rfind a b = 0 then some false else
    if Txt.startswith b (Str.ofString ".") = false then some false else hdn (Txt.slice b (some 1) none)
theorem dmatch_low (x y : Str) : dmatch x y = dmS (Txt.lower x) (Txt.lower y) := rfl
theorem dm_S {a b : LN} (ha : a.length ≤ 150) (hb : b.length ≤ 150) (ha10 : ∀ c ∈ a, c ≠ 10) (hb10 : ∀ c ∈ b, c ≠ 10) : dmS (S a) (S b) = some (dmL a b) := by
  unfold dmS dmL
  rw [S_beq]
  cases h1 : eqL a b with
  | true => rfl
  | false =>
    rw [if_neg (by decide), hdn_S ha ha10]
    cases h2 : hdnL a with
    | false => rfl
    | true =>
      have hne : a ≠ [] := fun e => by rw [e] at h2; cases h2
      have hr := rfind_S (b := b) hne
      show (if true = false then _ else _) = _
      rw [if_neg (by decide)]
      cases h3 : subL (a.drop 1) b with
      | false =>
        rcases hr.2 h3 with q | q
        · rw [if_pos q]
        · rw [if_neg (by rw [q]; decide), if_pos q]
      | true =>
        obtain ⟨q1, q2⟩ := hr.1 h3
        rw [if_neg q1, if_neg q2, starts_S]
        cases h4 : headIs 46 b with
        | false => rfl
        | true =>
          have es : Txt.slice (S b) (some 1) none = S (b.drop 1) := slice_S b 1
          rw [if_neg (by decide), es, hdn_S (by simp; omega) (fun c hc => hb10 c (List.mem_of_mem_drop hc))]
theorem lowC_ne {c : Nat} (h : c ≠ 10) : lowC c ≠ 10 := by
  unfold lowC
  cases q : (Nat.ble 65 c && Nat.ble c 90) with
  | false => exact h
  | true => show c + 32 ≠ 10; omega
theorem ok_low {l : LN} (h : okL l = true) : ∀ c ∈ l.map lowC, c ≠ 10 := by
  intro c hc
  obtain ⟨b, hb, rfl⟩ := List.mem_map.mp hc
  exact lowC_ne (okL_mem h b hb).2.1
theorem dmatch_S {l r : LN} (hl : okL l = true) (hr : okL r = true) (h1 : l.length ≤ 150) (h2 : r.length ≤ 150) : dmatch (Txt.upper (S l)) (S r) = some (dmL (l.map lowC) (r.map lowC)) := by
  rw [dmatch_low, lowup_S fun c hc => (okL_mem hl c hc).1, lower_S fun c hc => (okL_mem hr c hc).1]
  exact dm_S (by simpa using h1) (by simpa using h2) (ok_low hl) (ok_low hr)
end Mine

end

section 
-- text E5
open PySem PySem.W PyProof.Rows PySem.Calls
set_option maxRecDepth 100000
set_option maxHeartbeats 1000000
namespace Mine
def aftL : LN → Option LN
  | [] => none
  | c :: r => match Nat.beq c 46 with | true => some r | false => aftL r
def locL : LN := [108, 111, 99, 97, 108]
def reL (l : LN) : LN := match aftL l with
  | none => l
  | some b => match hdnL l with
    | false => l
    | true => match aftL b with
      | some _ => 46 :: b
      | none => match eqL b locL with | true => 46 :: b | false => l
theorem aft_none : ∀ {l : LN}, (∀ i, headIs 46 (l.drop i) = false) → aftL l = none
  | [], _ => rfl
  | c :: r, h => by
    have h0 : Nat.beq c 46 = false := h 0
    unfold aftL
    rw [h0]
    exact aft_none fun i => h (i + 1)
theorem aft_some : ∀ {l : LN} {i : Nat}, headIs 46 (l.drop i) = true → (∀ k, k < i → headIs 46 (l.drop k) = false) → aftL l = some (l.drop (i + 1))
  | [], i, h, _ => by simp [headIs] at h
  | c :: r, 0, h, _ => by
    have h0 : Nat.beq c 46 = true := h
    unfold aftL
    rw [h0]
    rfl
  | c :: r, i + 1, h, hn => by
    have h0 : Nat.beq c 46 = false := hn 0 (Nat.succ_pos _)
    unfold aftL
    rw [h0]
    exact aft_some (l := r) (i := i) h fun k hk => hn (k + 1) (by omega)
theorem pre_dot (l : LN) : preL l [46] = headIs 46 l := by
  cases l with
  | nil => rfl
  | cons c r =>
    show (match Nat.beq c 46 with | true => preL r [] | false => false) = Nat.beq c 46
    cases Nat.beq c 46
    · rfl
    · cases r <;> rfl
theorem find_S (l : LN) : (aftL l = none ∧ Txt.find (S l) (Str.ofString ".") = -1) ∨ ∃ i : Nat, Txt.find (S l) (Str.ofString ".") = (i : Int) ∧ aftL l = some (l.drop (i + 1)) := by
  rw [dot_S]
  have at_d : ∀ i, StrLaws.At (S l) (S [46]) (S l).length i ↔ i ≤ l.length ∧ headIs 46 (l.drop i) = true := fun i => by rw [at_S, pre_dot]
  have big : ∀ i, headIs 46 (l.drop i) = true → i ≤ l.length := fun i h => by
    refine Nat.le_of_not_lt fun z => ?_
    rw [List.drop_of_length_le (by omega)] at h
    cases h
  unfold Txt.find
  rcases StrLaws.occ_head (S l) (S [46]) 1 (Nat.le_refl _) with ⟨h, hn⟩ | ⟨i, r, h, hi, hn⟩
  · refine .inl ⟨aft_none fun i => ?_, by rw [h]⟩
    cases q : headIs 46 (l.drop i) with
    | false => rfl
    | true => exact absurd ((at_d i).mpr ⟨big i q, q⟩) (hn i)
  · refine .inr ⟨i, by rw [h], aft_some ((at_d i).mp hi).2 fun k hk => ?_⟩
    cases q : headIs 46 (l.drop k) with
    | false => rfl
    | true => exact absurd ((at_d k).mpr ⟨big k q, q⟩) (hn k hk)
theorem loc_S : Str.ofString "local" = S locL := by decide +kernel
theorem reach_S {l : LN} (hl : l.length ≤ 150) (h10 : ∀ c ∈ l, c ≠ 10) : reachF (S l) = some (S (reL l)) := by
  unfold reachF reL
  rcases find_S l with ⟨h1, h2⟩ | ⟨i, h1, h2⟩
  · rw [h1, if_neg (by rw [h2]; decide)]
  · have ht : tl (S l) = S (l.drop (i + 1)) := by
      unfold tl
      rw [h1]
      exact slice_S l (i + 1)
    rw [h2, if_pos (by rw [h1]; omega), hdn_S hl h10, ht, loc_S, S_beq]
    cases hdnL l with
    | false => rfl
    | true =>
      have e46 : Str.ofString "." ++ S (l.drop (i + 1)) = S (46 :: l.drop (i + 1)) := by rw [dot_S, app_S]; rfl
      dsimp only
      rcases find_S (l.drop (i + 1)) with ⟨g1, g2⟩ | ⟨j, g1, g2⟩
      · rw [g1]
        cases q : eqL (l.drop (i + 1)) locL with
        | true =>
          show (if true = true ∧ (0 ≤ Txt.find (S (l.drop (i + 1))) (Str.ofString ".") ∨ true = true) then _ else _) = _
          rw [if_pos ⟨rfl, .inr rfl⟩, e46]
        | false =>
          show (if true = true ∧ (0 ≤ Txt.find (S (l.drop (i + 1))) (Str.ofString ".") ∨ false = true) then _ else _) = _
          rw [if_neg (fun z => z.2.elim (fun y => by rw [g2] at y; exact absurd y (by decide)) (fun y => by cases y))]
      · rw [g2]
        show (if true = true ∧ (0 ≤ Txt.find (S (l.drop (i + 1))) (Str.ofString ".") ∨ _) then _ else _) = _
        rw [if_pos ⟨rfl, .inl (by rw [g1]; omega)⟩, e46]
/-- the six numbers by base 16 -/
def hexL (a b : Nat) : Option Nat :=
  if a = 54 ∧ b = 49 then some 97 else if a = 54 ∧ b = 52 then some 100 else if a = 54 ∧ b = 67 then some 108 else if a = 51 ∧ b = 55 then some 55 else if a = 50 ∧ b = 69 then some 46 else if a = 50 ∧ b = 101 then some 46 else none
theorem hex_S (a b : Nat) : hex2 (S [a, b]) = hexL a b := by
  have e1 : Str.ofString "61" = S [54, 49] := by decide +kernel
  have e2 : Str.ofString "64" = S [54, 52] := by decide +kernel
  have e3 : Str.ofString "6C" = S [54, 67] := by decide +kernel
  have e4 : Str.ofString "37" = S [51, 55] := by decide +kernel
  have e5 : Str.ofString "2E" = S [50, 69] := by decide +kernel
  have e6 : Str.ofString "2e" = S [50, 101] := by decide +kernel
  have iff : ∀ c d : Nat, (S [a, b] = S [c, d]) = (a = c ∧ b = d) := fun c d => by
    apply propext
    constructor
    · intro h; have := S_inj h; simpa using this
    · rintro ⟨rfl, rfl⟩; rfl
  unfold hex2 hexL
  rw [e1, e2, e3, e4, e5, e6]
  simp only [iff]
def isTL : LN → Bool
  | c :: a :: b :: _ => Nat.beq c 61 && (hx a && hx b)
  | _ => false
/-- header_decode, on lists -/
def deL : Nat → LN → Option LN
  | 0, _ => none
  | _ + 1, [] => some []
  | n + 1, c :: r => match isTL (c :: r) with
    | true => (match r with
      | a :: b :: t => (match hexL a b with
        | none => none
        | some v => (deL n t).map (v :: ·))
      | _ => none)
    | false => (deL n r).map (c :: ·)
theorem isTw_L (l : LN) (s : Nat) : isTw l.toArray s = isTL (l.drop s) := by
  unfold isTw
  rw [getD_S, getD_S, getD_S, beq_n]
  by_cases h : s + 2 < l.length
  · rw [drop_cons (l := l) (s := s) (by omega), drop_cons (l := l) (s := s + 1) (by omega), drop_cons (l := l) (s := s + 1 + 1) (by omega)]
    have : decide (s + 2 < l.toArray.size) = true := by simpa using h
    rw [this]
    rfl
  · have : decide (s + 2 < l.toArray.size) = false := by simpa using h
    rw [this, Bool.false_and, Bool.and_false]
    have hlen : (l.drop s).length < 3 := by simp; omega
    match l.drop s, hlen with
    | [], _ => rfl
    | [_], _ => rfl
    | [_, _], _ => rfl
    | _ :: _ :: _ :: _, h => simp only [List.length_cons] at h; omega
theorem de_none {l : LN} : ∀ (k s n : Nat) (out : LN), s + k = l.length → twf l.toArray k s = none → deL n (l.drop s) = some out → out = l.drop s
  | 0, s, n, out, hs, _, hd => by
    rw [List.drop_of_length_le (by omega)] at hd ⊢
    cases n with
    | zero => cases hd
    | succ n => exact (Option.some.inj hd).symm
  | k + 1, s, n, out, hs, ht, hd => by
    unfold twf at ht
    split at ht
    · cases ht
    rename_i hi
    rw [isTw_L] at hi
    have hi' : isTL (l.drop s) = false := by simpa using hi
    rw [drop_cons (l := l) (s := s) (by omega)] at hd hi' ⊢
    cases n with
    | zero => cases hd
    | succ n =>
      unfold deL at hd
      rw [hi'] at hd
      obtain ⟨o, ho, rfl⟩ := Option.map_eq_some_iff.mp hd
      rw [de_none k (s + 1) n o (by omega) ht ho]
theorem de_some {l : LN} : ∀ (k s n : Nat) (out : LN) (s' : Nat), s + k = l.length → twf l.toArray k s = some s' → deL n (l.drop s) = some out →
    ∃ n' v out', hexL (l.getD (s' + 1) 0) (l.getD (s' + 2) 0) = some v ∧ deL n' (l.drop (s' + 3)) = some out' ∧ out = (l.drop s).take (s' - s) ++ v :: out' ∧ s ≤ s' ∧ s' + 3 ≤ l.length
  | 0, s, n, out, s', hs, ht, _ => by cases ht
  | k + 1, s, n, out, s', hs, ht, hd => by
    unfold twf at ht
    split at ht
    · rename_i hi
      cases ht
      rw [isTw_L] at hi
      have hlen : s + 2 < l.length := by
        refine Nat.lt_of_not_le fun z => ?_
        have hlen : (l.drop s).length < 3 := by simp; omega
        revert hi
        match l.drop s, hlen with
        | [], _ => intro h; cases h
        | [_], _ => intro h; cases h
        | [_, _], _ => intro h; cases h
        | _ :: _ :: _ :: _, h => simp only [List.length_cons] at h; omega
      rw [drop_cons (l := l) (s := s) (by omega), drop_cons (l := l) (s := s + 1) (by omega), drop_cons (l := l) (s := s + 1 + 1) (by omega)] at hd hi
      cases n with
      | zero => cases hd
      | succ n =>
        unfold deL at hd
        rw [hi] at hd
        dsimp only at hd
        split at hd
        · cases hd
        · rename_i v hv
          obtain ⟨o, ho, rfl⟩ := Option.map_eq_some_iff.mp hd
          exact ⟨n, v, o, hv, ho, by simp, Nat.le_refl _, by omega⟩
    · rename_i hi
      rw [isTw_L] at hi
      have hi' : isTL (l.drop s) = false := by simpa using hi
      rw [drop_cons (l := l) (s := s) (by omega)] at hd hi' ⊢
      cases n with
      | zero => cases hd
      | succ n =>
        unfold deL at hd
        rw [hi'] at hd
        obtain ⟨o, ho, rfl⟩ := Option.map_eq_some_iff.mp hd
        obtain ⟨n', v, o', h1, h2, h3, h4, h5⟩ := de_some k (s + 1) n o s' (by omega) ht ho
        refine ⟨n', v, o', h1, h2, ?_, by omega, h5⟩
        rw [h3, show s' - s = (s' - (s + 1)) + 1 by omega]
        rfl
end Mine

end

section 
-- text E6
open PySem PySem.W PyProof.Rows PySem.Calls
set_option maxRecDepth 100000
set_option maxHeartbeats 1000000
namespace Mine
theorem ext_S (l : LN) (i j : Nat) : (⟨l.toArray.extract i j⟩ : Str) = S ((l.drop i).take (j - i)) := by
  have : l.toArray.extract i j = ((l.drop i).take (j - i)).toArray := by
    apply Array.toList_inj.mp
    simp
  rw [this]
theorem slice_13 (a b c : Nat) : Txt.slice (S [a, b, c]) (some 1) (some 3) = S [b, c] := by
  have h : (0 : Int) ≤ 1 ∧ (1 : Int) ≤ 3 ∧ (3 : Int) ≤ ((S [a, b, c]).cps.toList.length : Nat) := by
    refine ⟨by decide, by decide, ?_⟩
    show (3 : Int) ≤ ((3 : Nat) : Int)
    decide
  rw [beq_iff_eq.mp (slice_closes h)]
  rfl
theorem subGo_S {l : LN} (hl : l.length ≤ 300) : ∀ (n done k : Nat) (out : LN) (acc : List Str), l.length - done < 3 * n → done ≤ l.length → deL k (l.drop done) = some out →
    ∃ zs : List LN, subGo n (S l) done false acc = some (acc ++ zs.map S) ∧ zs.flatten = out ∧ zs.length ≤ out.length
  | 0, done, k, out, acc, hn, _, _ => by omega
  | n + 1, done, k, out, acc, hn, hdn, hd => by
    obtain ⟨m, hm, hO⟩ := tw_srch (x := l.toArray) (s := done) (by simpa using hdn) (by simpa using hl)
    have hsz : l.toArray.size = l.length := by simp
    unfold subGo
    rw [show (S l).cps = l.toArray from rfl, hm]
    dsimp only
    cases ht : twf l.toArray (l.toArray.size - done) done with
    | none =>
      rw [ht] at hO
      have hO' : m.outcome = some .failed := hO
      have hb : outB m = some false := by unfold outB; rw [hO']
      rw [hb]
      dsimp only
      have ho := de_none (l := l) (l.toArray.size - done) done k out (by omega) ht hd
      subst ho
      by_cases hlt : done < l.length
      · refine ⟨[l.drop done], ?_, by simp, by simp; omega⟩
        rw [if_pos (by rw [hsz]; exact hlt), ext_S, hsz, List.take_of_length_le (by simp)]
        rfl
      · refine ⟨[], ?_, ?_, Nat.zero_le _⟩
        · rw [if_neg (by rw [hsz]; exact hlt)]
          simp
        · rw [List.drop_of_length_le (by omega)]
          rfl
    | some s' =>
      rw [ht] at hO
      obtain ⟨h1, h2, h3⟩ : m.outcome = some .matched ∧ m.start = s' ∧ m.handed = s' + 3 := hO
      have hb : outB m = some true := by unfold outB; rw [h1]
      rw [hb]
      dsimp only
      obtain ⟨n', v, out', g1, g2, g3, g4, g5⟩ := de_some (l := l) (l.toArray.size - done) done k out s' (by omega) ht hd
      have e3 : (⟨l.toArray.extract s' (s' + 3)⟩ : Str) = S [l.getD s' 0, l.getD (s' + 1) 0, l.getD (s' + 2) 0] := by
        rw [ext_S, drop_cons (l := l) (s := s') (by omega), drop_cons (l := l) (s := s' + 1) (by omega), drop_cons (l := l) (s := s' + 1 + 1) (by omega)]
        rw [show s' + 3 - s' = 3 by omega]
        rfl
      rw [h2, h3, e3, slice_13, hex_S, g1]
      dsimp only
      have hmust : (s' + 3 == s') = false := by simp
      rw [hmust]
      obtain ⟨zs, q1, q2, q3⟩ := subGo_S hl n (s' + 3) n' out' ((if done < s' then acc ++ [⟨l.toArray.extract done s'⟩] else acc) ++ [⟨#[v]⟩]) (by omega) g5 g2
      by_cases hlt : done < s'
      · refine ⟨(l.drop done).take (s' - done) :: [v] :: zs, ?_, ?_, ?_⟩
        · rw [q1, if_pos hlt, ext_S]
          simp
        · rw [g3]
          simp [q2]
        · rw [g3]
          simp
          omega
      · have he : s' = done := by omega
        refine ⟨[v] :: zs, ?_, ?_, ?_⟩
        · rw [q1, if_neg hlt]
          simp
        · rw [g3, he]
          simp [q2]
        · rw [g3]
          simp
          omega
theorem no_us {l : LN} (h : ∀ c ∈ l, c ≠ 95) : Txt.replace (S l) (Str.ofString "_") (Str.ofString " ") = S l := by
  have e : Str.ofString "_" = S [95] := by decide +kernel
  unfold Txt.replace
  rw [e]
  rcases StrLaws.occ_head (S l) (S [95]) ((S l).length + 1) (by omega) with ⟨q, _⟩ | ⟨i, r, _, hi, _⟩
  · rw [q]
    rfl
  · obtain ⟨h1, h2⟩ := at_S.mp hi
    have h3 := (preL_iff _ _).mp h2
    have : 95 ∈ l := by
      have h4 : 95 ∈ (l.drop i).take 1 := by
        have : (l.drop i).take 1 = [95] := h3
        rw [this]; simp
      exact List.mem_of_mem_drop (List.mem_of_mem_take h4)
    exact absurd rfl (h 95 this)
theorem sum_S (zs : List LN) : ((zs.map S).map (·.length)).sum = zs.flatten.length := by
  induction zs with
  | nil => rfl
  | cons a r ih =>
    simp only [List.map_cons, List.sum_cons, List.flatten_cons, List.length_append, ih]
    rw [len_S]
theorem hdec_S {l out : LN} {k : Nat} (hok : okL l = true) (hl : l.length < 60) (hd : deL k l = some out) (h0 : out ≠ []) (ho : out.length ≤ 300) : hdec (S l) = some (S out) := by
  unfold hdec
  rw [no_us fun c hc => (okL_mem hok c hc).2.2]
  obtain ⟨zs, q1, q2, q3⟩ := subGo_S (l := l) (by omega) 20 0 k out [] (by omega) (Nat.zero_le _) hd
  rw [q1]
  dsimp only
  rw [List.nil_append]
  have hne : zs ≠ [] := fun e => by rw [e] at q2; exact h0 q2.symm
  rw [if_pos ⟨by simpa using hne, by rw [sum_S, q2]; simp; omega, by rw [len_S]; omega⟩, join_S, q2]
end Mine

end

section 
-- text E7
open PySem PySem.W PyProof.Rows PySem.Calls
set_option maxRecDepth 100000
set_option maxHeartbeats 1000000
namespace Mine
theorem allN_get : ∀ {n : Nat} {f : Nat → Bool}, allN n f = true → ∀ k, k < n → f k = true
  | 0, _, _, k, h => absurd h (Nat.not_lt_zero _)
  | n + 1, f, h, k, hk => by
    unfold allN at h
    cases q : f n with
    | false => rw [q] at h; cases h
    | true =>
      rw [q] at h
      by_cases e : k = n
      · subst e; exact q
      · exact allN_get h k (by omega)
theorem bq_eq : ∀ {a b : Bool}, bq a b = true → a = b
  | true, true, _ => rfl
  | false, false, _ => rfl
  | true, false, h => by cases h
  | false, true, h => by cases h
theorem sep_S (dl : LN) (n k : Nat) : sep (S dl) n k = S (sepL dl n k) := by
  unfold sep sepL
  cases h : Nat.beq (n / 2 ^ k % 2) 1 with
  | true => rw [if_pos (Nat.eq_of_beq_eq_true h)]; exact dot_S
  | false => rw [if_neg (Nat.ne_of_beq_eq_false h)]
/-- labels and dot as lists -/
structure LabL where
  ra : LN
  rb : LN
  rc : LN
  re : LN
  ca : LN
  cb : LN
  cc : LN
  ce : LN
  dl : LN
def LabL.abs (v : LabL) : List (Str × Str) := [(S v.ra, S v.ca), (S v.rb, S v.cb), (S v.rc, S v.cc), (S v.re, S v.ce)]
def LabL.tx (v : LabL) (n : Nat) : LN := txL v.ra v.rb v.rc v.re v.dl n
def LabL.tl (v : LabL) (t : Nat) : LN := tlL v.rb v.rc v.re v.dl t
def LabL.inn (v : LabL) (t : Nat) : LN := inL v.rb v.rc v.dl t
def LabL.wh (v : LabL) : LN := v.ca ++ (46 :: (v.cb ++ (46 :: (v.cc ++ (46 :: v.ce)))))
def LabL.pcs (v : LabL) (n : Nat) : List LN := [v.ra, sepL v.dl n 0, v.rb, sepL v.dl n 1, v.rc, sepL v.dl n 2, v.re]
theorem pc_S (v : LabL) (n : Nat) : pc v.abs (S v.dl) n = (v.pcs n).map S := by
  show [S v.ra, sep (S v.dl) n 0, S v.rb, sep (S v.dl) n 1, S v.rc, sep (S v.dl) n 2, S v.re] = _
  rw [sep_S, sep_S, sep_S]
  rfl
theorem tx_S (v : LabL) (n : Nat) : tx v.abs (S v.dl) n = S (v.tx n) := by
  unfold Mine.tx
  rw [pc_S, join_S]
  simp [LabL.pcs, LabL.tx, txL]
theorem wh_S (v : LabL) : Mine.wh v.abs = S v.wh := by
  unfold Mine.wh
  show Builtin.Str.glued _ _ = _
  rw [StrLaws.glued_eq_join, dot_S]
  show S v.ca ++ S [46] ++ (S v.cb ++ S [46] ++ (S v.cc ++ S [46] ++ S v.ce)) = _
  simp only [app_S]
  simp [LabL.wh]
theorem pick1 (x0 x1 x2 x3 x4 x5 x6 : Str) : pickL [x0, x1, x2, x3, x4, x5, x6] (some 1) none none = [x1, x2, x3, x4, x5, x6] := by
  have e : sliceRange (sliceBounds (some 1) none none 7).1 (sliceBounds (some 1) none none 7).2.1 (sliceBounds (some 1) none none 7).2.2 = [1, 2, 3, 4, 5, 6] := by decide +kernel
  show List.filterMap _ (sliceRange (sliceBounds (some 1) none none 7).1 (sliceBounds (some 1) none none 7).2.1 (sliceBounds (some 1) none none 7).2.2) = _
  rw [e]
  rfl
theorem pick3 (x0 x1 x2 x3 x4 x5 x6 : Str) : pickL [x0, x1, x2, x3, x4, x5, x6] (some 3) none none = [x3, x4, x5, x6] := by
  have e : sliceRange (sliceBounds (some 3) none none 7).1 (sliceBounds (some 3) none none 7).2.1 (sliceBounds (some 3) none none 7).2.2 = [3, 4, 5, 6] := by decide +kernel
  show List.filterMap _ (sliceRange (sliceBounds (some 3) none none 7).1 (sliceBounds (some 3) none none 7).2.1 (sliceBounds (some 3) none none 7).2.2) = _
  rw [e]
  rfl
theorem pick5 (x0 x1 x2 x3 x4 x5 x6 : Str) : pickL [x0, x1, x2, x3, x4, x5, x6] (some 5) none none = [x5, x6] := by
  have e : sliceRange (sliceBounds (some 5) none none 7).1 (sliceBounds (some 5) none none 7).2.1 (sliceBounds (some 5) none none 7).2.2 = [5, 6] := by decide +kernel
  show List.filterMap _ (sliceRange (sliceBounds (some 5) none none 7).1 (sliceBounds (some 5) none none 7).2.1 (sliceBounds (some 5) none none 7).2.2) = _
  rw [e]
  rfl
theorem pick1' (x0 x1 x2 x3 x4 x5 x6 : Str) : pickL [x0, x1, x2, x3, x4, x5, x6] (some 1) (some (-2)) none = [x1, x2, x3, x4] := by
  have e : sliceRange (sliceBounds (some 1) (some (-2)) none 7).1 (sliceBounds (some 1) (some (-2)) none 7).2.1 (sliceBounds (some 1) (some (-2)) none 7).2.2 = [1, 2, 3, 4] := by decide +kernel
  show List.filterMap _ (sliceRange (sliceBounds (some 1) (some (-2)) none 7).1 (sliceBounds (some 1) (some (-2)) none 7).2.1 (sliceBounds (some 1) (some (-2)) none 7).2.2) = _
  rw [e]
  rfl
theorem pick3' (x0 x1 x2 x3 x4 x5 x6 : Str) : pickL [x0, x1, x2, x3, x4, x5, x6] (some 3) (some (-2)) none = [x3, x4] := by
  have e : sliceRange (sliceBounds (some 3) (some (-2)) none 7).1 (sliceBounds (some 3) (some (-2)) none 7).2.1 (sliceBounds (some 3) (some (-2)) none 7).2.2 = [3, 4] := by decide +kernel
  show List.filterMap _ (sliceRange (sliceBounds (some 3) (some (-2)) none 7).1 (sliceBounds (some 3) (some (-2)) none 7).2.1 (sliceBounds (some 3) (some (-2)) none 7).2.2) = _
  rw [e]
  rfl
theorem pick5' (x0 x1 x2 x3 x4 x5 x6 : Str) : pickL [x0, x1, x2, x3, x4, x5, x6] (some 5) (some (-2)) none = [] := by
  have e : sliceRange (sliceBounds (some 5) (some (-2)) none 7).1 (sliceBounds (some 5) (some (-2)) none 7).2.1 (sliceBounds (some 5) (some (-2)) none 7).2.2 = [] := by decide +kernel
  show List.filterMap _ (sliceRange (sliceBounds (some 5) (some (-2)) none 7).1 (sliceBounds (some 5) (some (-2)) none 7).2.1 (sliceBounds (some 5) (some (-2)) none 7).2.2) = _
  rw [e]
  rfl
def LabL.tlp (v : LabL) (t : Nat) : List LN := (v.pcs t).drop (fI t)
def LabL.inp (v : LabL) (t : Nat) : List LN := ((v.pcs t).drop (fI t)).take (5 - fI t)
theorem fI_of (t : Nat) : fI t = 1 ∨ fI t = 3 ∨ fI t = 5 := by
  unfold fI; split
  · exact .inl rfl
  · split
    · exact .inr (.inl rfl)
    · exact .inr (.inr rfl)
theorem pickT (v : LabL) (t : Nat) : pickL (pc v.abs (S v.dl) t) (some (fI t : Int)) none none = (v.tlp t).map S := by
  rw [pc_S]
  unfold LabL.tlp
  rcases fI_of t with h | h | h
  · rw [h]; exact pick1 _ _ _ _ _ _ _
  · rw [h]; exact pick3 _ _ _ _ _ _ _
  · rw [h]; exact pick5 _ _ _ _ _ _ _
theorem pickI (v : LabL) (t : Nat) : pickL (pc v.abs (S v.dl) t) (some (fI t : Int)) (some (-2)) none = (v.inp t).map S := by
  rw [pc_S]
  unfold LabL.inp
  rcases fI_of t with h | h | h
  · rw [h]; exact pick1' _ _ _ _ _ _ _
  · rw [h]; exact pick3' _ _ _ _ _ _ _
  · rw [h]; exact pick5' _ _ _ _ _ _ _
theorem fI_sep {dl : LN} {t : Nat} (h1 : 1 ≤ t) (h8 : t < 8) : (t % 2 = 1 ∧ fI t = 1 ∧ sepL dl t 0 = [46]) ∨ (t % 4 = 2 ∧ fI t = 3 ∧ sepL dl t 0 = dl ∧ sepL dl t 1 = [46]) ∨ (t = 4 ∧ fI t = 5 ∧ sepL dl t 0 = dl ∧ sepL dl t 1 = dl ∧ sepL dl t 2 = [46]) := by
  match t, h1, h8 with
  | 1, _, _ => exact .inl ⟨rfl, rfl, rfl⟩
  | 2, _, _ => exact .inr (.inl ⟨rfl, rfl, rfl, rfl⟩)
  | 3, _, _ => exact .inl ⟨rfl, rfl, rfl⟩
  | 4, _, _ => exact .inr (.inr ⟨rfl, rfl, rfl, rfl, rfl⟩)
  | 5, _, _ => exact .inl ⟨rfl, rfl, rfl⟩
  | 6, _, _ => exact .inr (.inl ⟨rfl, rfl, rfl, rfl⟩)
  | 7, _, _ => exact .inl ⟨rfl, rfl, rfl⟩
  | n + 8, _, h => omega
theorem tl_S (v : LabL) {t : Nat} (h1 : 1 ≤ t) (h8 : t < 8) : tlT v.abs (S v.dl) t = S (v.tl t) := by
  unfold tlT
  rw [pickT, join_S]
  refine congrArg S ?_
  unfold LabL.tlp LabL.tl tlL
  rcases fI_sep (dl := v.dl) h1 h8 with ⟨e1, e2, e3⟩ | ⟨e1, e2, e3, e4⟩ | ⟨e1, e2, e3, e4, e5⟩
  · have : Nat.beq (t % 2) 1 = true := by rw [e1]; rfl
    rw [this, e2]
    simp [LabL.pcs, e3]
  · have a1 : Nat.beq (t % 2) 1 = false := by
      have : t % 2 = 0 := by omega
      rw [this]; rfl
    have a2 : Nat.beq (t % 4) 2 = true := by rw [e1]; rfl
    rw [a1, a2, e2]
    simp [LabL.pcs, e4]
  · subst e1
    rw [e2]
    simp [LabL.pcs, e5]
theorem in_S (v : LabL) {t : Nat} (h1 : 1 ≤ t) (h8 : t < 8) : inT v.abs (S v.dl) t = S (v.inn t) := by
  unfold inT
  rw [pickI, join_S]
  refine congrArg S ?_
  unfold LabL.inp LabL.inn inL
  rcases fI_sep (dl := v.dl) h1 h8 with ⟨e1, e2, e3⟩ | ⟨e1, e2, e3, e4⟩ | ⟨e1, e2, e3, e4, e5⟩
  · have : Nat.beq (t % 2) 1 = true := by rw [e1]; rfl
    rw [this, e2]
    simp [LabL.pcs, e3]
  · have a1 : Nat.beq (t % 2) 1 = false := by
      have : t % 2 = 0 := by omega
      rw [this]; rfl
    have a2 : Nat.beq (t % 4) 2 = true := by rw [e1]; rfl
    rw [a1, a2, e2]
    simp [LabL.pcs, e4]
  · subst e1
    rw [e2]
    simp [LabL.pcs]
end Mine

end

section 
-- text E8
open PySem PySem.W PyProof.Rows PySem.Calls
set_option maxRecDepth 100000
set_option maxHeartbeats 1000000
namespace Mine
def optIs : Option LN → LN → Bool
  | some a, b => eqL a b
  | none, _ => false
theorem optIs_eq {o : Option LN} {b : LN} (h : optIs o b = true) : o = some b := by
  cases o with
  | none => cases h
  | some a => rw [(eqL_iff a b).mp h]
def clN (re : LN) (t : Nat) : Bool := nmN re t && ((Nat.beq t 3 || (Nat.beq t 5 || (Nat.beq t 6 || Nat.beq t 7))) || (Nat.beq t 4 && eqL re locL))
/-- what is asked of the labels as they stand -/
def chk2 (v : LabL) : Bool := allN 8 (fun n => optIs (deL 60 (v.tx n)) v.wh) &&
  (eqL (reL v.wh) (match eqL v.ce [55] with | true => v.wh | false => v.wh.drop v.ca.length) &&
  (eqL (reL (v.tx 0)) (v.tx 0) &&
  allN 7 (fun u => eqL (reL (v.tx (u + 1))) (match clN v.re (u + 1) with | true => v.tl (u + 1) | false => v.tx (u + 1)))))
structure GoodS (l : LN) : Prop where
  ok : okL l = true
  len : l.length ≤ 12
  nd : eqL l [46] = false
structure Good (v : LabL) : Prop where
  ra : GoodS v.ra
  rb : GoodS v.rb
  rc : GoodS v.rc
  re : GoodS v.re
  ca : GoodS v.ca
  cb : GoodS v.cb
  cc : GoodS v.cc
  ce : GoodS v.ce
  dl : GoodS v.dl
  d3 : v.dl.length ≤ 3
  ne : v.wh ≠ []
theorem GoodS.ne {l : LN} (h : GoodS l) : (S l == Str.ofString ".") = false := by
  rw [dot_S, S_beq]; exact h.nd
theorem sep_ok {dl : LN} (h : okL dl = true) (n k : Nat) : okL (sepL dl n k) = true := by
  unfold sepL; cases Nat.beq (n / 2 ^ k % 2) 1
  · exact h
  · rfl
theorem sep_len {dl : LN} (h : dl.length ≤ 3) (n k : Nat) : (sepL dl n k).length ≤ 3 := by
  unfold sepL; cases Nat.beq (n / 2 ^ k % 2) 1
  · exact h
  · show 1 ≤ 3; decide
section
variable {v : LabL}
theorem Good.txok (g : Good v) (n : Nat) : okL (v.tx n) = true :=
  okL_app g.ra.ok (okL_app (sep_ok g.dl.ok n 0) (okL_app g.rb.ok (okL_app (sep_ok g.dl.ok n 1) (okL_app g.rc.ok (okL_app (sep_ok g.dl.ok n 2) g.re.ok)))))
theorem Good.txlen (g : Good v) (n : Nat) : (v.tx n).length < 60 := by
  have h1 := g.ra.len; have h2 := g.rb.len; have h3 := g.rc.len; have h4 := g.re.len
  have s0 := sep_len g.d3 n 0; have s1 := sep_len g.d3 n 1; have s2 := sep_len g.d3 n 2
  simp only [LabL.tx, txL, List.length_append]
  omega
theorem Good.whok (g : Good v) : okL v.wh = true := by
  refine okL_app g.ca.ok (?_ : okL ([46] ++ _) = true)
  refine okL_app rfl (okL_app g.cb.ok (?_ : okL ([46] ++ _) = true))
  refine okL_app rfl (okL_app g.cc.ok (?_ : okL ([46] ++ _) = true))
  exact okL_app rfl g.ce.ok
theorem Good.whlen (g : Good v) : v.wh.length ≤ 60 := by
  have h1 := g.ca.len; have h2 := g.cb.len; have h3 := g.cc.len; have h4 := g.ce.len
  simp only [LabL.wh, List.length_append, List.length_cons]
  omega
theorem Good.tlok (g : Good v) (t : Nat) : okL (v.tl t) = true := by
  unfold LabL.tl tlL
  split
  · exact okL_app (a := [46]) rfl (okL_app g.rb.ok (okL_app (sep_ok g.dl.ok t 1) (okL_app g.rc.ok (okL_app (sep_ok g.dl.ok t 2) g.re.ok))))
  · split
    · exact okL_app (a := [46]) rfl (okL_app g.rc.ok (okL_app (sep_ok g.dl.ok t 2) g.re.ok))
    · exact okL_app (a := [46]) rfl g.re.ok
theorem Good.tllen (g : Good v) (t : Nat) : (v.tl t).length ≤ 60 := by
  have h2 := g.rb.len; have h3 := g.rc.len; have h4 := g.re.len
  have s1 := sep_len g.d3 t 1; have s2 := sep_len g.d3 t 2
  unfold LabL.tl tlL
  split
  · simp only [List.length_cons, List.length_append]; omega
  · split
    · simp only [List.length_cons, List.length_append]; omega
    · simp only [List.length_cons]; omega
theorem Good.inok (g : Good v) (t : Nat) : okL (v.inn t) = true := by
  unfold LabL.inn inL
  split
  · exact okL_app (a := [46]) rfl (okL_app g.rb.ok (okL_app (sep_ok g.dl.ok t 1) g.rc.ok))
  · split
    · exact okL_app (a := [46]) rfl g.rc.ok
    · rfl
theorem Good.inlen (g : Good v) (t : Nat) : (v.inn t).length ≤ 60 := by
  have h2 := g.rb.len; have h3 := g.rc.len
  have s1 := sep_len g.d3 t 1
  unfold LabL.inn inL
  split
  · simp only [List.length_cons, List.length_append]; omega
  · split
    · simp only [List.length_cons]; omega
    · simp
end
theorem low_sep (dl : LN) (n k : Nat) : (sepL dl n k).map lowC = sepL (dl.map lowC) n k := by
  unfold sepL; cases Nat.beq (n / 2 ^ k % 2) 1 <;> rfl
/-- the labels in small letters -/
def LabL.low (v : LabL) : LabL := ⟨v.ra.map lowC, v.rb.map lowC, v.rc.map lowC, v.re.map lowC, v.ca, v.cb, v.cc, v.ce, v.dl.map lowC⟩
theorem low_tx (v : LabL) (n : Nat) : (v.tx n).map lowC = v.low.tx n := by
  simp only [LabL.tx, txL, List.map_append, low_sep]
  rfl
theorem low_tl (v : LabL) (t : Nat) : (v.tl t).map lowC = v.low.tl t := by
  unfold LabL.tl tlL
  split
  · simp only [List.map_cons, List.map_append, low_sep]; rfl
  · split
    · simp only [List.map_cons, List.map_append, low_sep]; rfl
    · rfl
theorem low_inn (v : LabL) (t : Nat) : (v.inn t).map lowC = v.low.inn t := by
  unfold LabL.inn inL
  split
  · simp only [List.map_cons, List.map_append, low_sep]; rfl
  · split
    · rfl
    · rfl
theorem low_digit {d : Nat} (hd : d < 65) (c : Nat) : Nat.beq (lowC c) d = Nat.beq c d := by
  unfold lowC
  cases q : (Nat.ble 65 c && Nat.ble c 90) with
  | false => rfl
  | true =>
    simp only [Bool.and_eq_true] at q
    have h := Nat.le_of_ble_eq_true q.1
    rw [Bool.eq_iff_iff]
    simp only [Nat.beq_eq]
    omega
theorem low_one {d : Nat} (hd : d < 65) (l : LN) : eqL (l.map lowC) [d] = eqL l [d] := by
  cases l with
  | nil => rfl
  | cons c r =>
    show eqL (lowC c :: r.map lowC) [d] = _
    unfold eqL
    rw [low_digit hd]
    cases Nat.beq c d with
    | false => rfl
    | true => cases r <;> rfl
theorem nm_low (re : LN) (n : Nat) : nmN (re.map lowC) n = nmN re n := by
  unfold nmN
  rw [low_one (by decide)]
theorem nm_S (v : LabL) (n : Nat) : nmB v.abs n = nmN v.re n := by
  unfold nmB nmN
  have e : Str.ofString "7" = S [55] := by decide +kernel
  show (decide (n < 4) || (S v.re != Str.ofString "7")) = _
  rw [e]
  have h1 : (S v.re != S [55]) = !(eqL v.re [55]) := by rw [← S_beq]; rfl
  have h2 : decide (n < 4) = Nat.blt n 4 := by rw [Bool.eq_iff_iff]; simp [Nat.blt]; omega
  rw [h1, h2]
theorem pw_N (t : Nat) : pwI t = ((pwN t : Nat) : Int) := by
  unfold pwI pwN
  by_cases h4 : t % 4 = 0
  · rw [if_pos h4, h4]; rfl
  · have e4 : Nat.beq (t % 4) 0 = false := by rw [Bool.eq_false_iff]; simpa using h4
    rw [if_neg h4, e4]
    by_cases h2 : t % 2 = 0
    · rw [if_pos h2, h2]; rfl
    · have e2 : Nat.beq (t % 2) 0 = false := by rw [Bool.eq_false_iff]; simpa using h2
      rw [if_neg h2, e2]; rfl
theorem to_S (v : LabL) (t n : Nat) : toB v.abs t n = (nmN v.re n && Nat.beq (n / pwN t) (t / pwN t)) := by
  unfold toB
  rw [nm_S, pw_N, Int.fdiv_eq_ediv_of_nonneg _ (by omega), Int.fdiv_eq_ediv_of_nonneg _ (by omega), ← Int.natCast_ediv, ← Int.natCast_ediv]
  congr 1
  rw [Bool.eq_iff_iff]
  simp only [beq_iff_eq, Nat.beq_eq]
  omega
theorem in_B (v : LabL) (t : Nat) : inB v.abs t = (nmN v.re t && (!(Nat.beq t 4) && (!(Nat.beq (t % 4) 3) || !(eqL v.rc [53])))) := by
  unfold inB
  have e : Str.ofString "5" = S [53] := by decide +kernel
  rw [nm_S]
  have h1 : ((t : Int) != 4) = !(Nat.beq t 4) := by
    rw [Bool.eq_iff_iff]
    simp only [bne_iff_ne, Bool.not_eq_true', ne_eq]
    rw [Bool.eq_false_iff]
    simp only [ne_eq, Nat.beq_eq]
    omega
  have h2 : ((t : Int).fmod 4 != 3) = !(Nat.beq (t % 4) 3) := by
    rw [Int.fmod_eq_emod_of_nonneg _ (by decide)]
    rw [Bool.eq_iff_iff]
    simp only [bne_iff_ne, Bool.not_eq_true', ne_eq]
    rw [Bool.eq_false_iff]
    simp only [ne_eq, Nat.beq_eq]
    omega
  have h3 : ((v.abs.getD 2 (Str.ofString "", Str.ofString "")).1 != Str.ofString "5") = !(eqL v.rc [53]) := by
    show (S v.rc != Str.ofString "5") = _
    rw [e, ← S_beq]; rfl
  rw [h1, h2, h3]
theorem cl_S (v : LabL) {t : Nat} (h1 : 1 ≤ t) (h8 : t < 8) : clB v.abs t = clN v.re t := by
  unfold clB clN
  rw [nm_S]
  have h3 : ((v.abs.getD 3 (Str.ofString "", Str.ofString "")).1 == Str.ofString "local") = eqL v.re locL := by
    show (S v.re == Str.ofString "local") = _
    rw [loc_S, S_beq]
  rw [h3]
  match t, h1, h8 with
  | 1, _, _ => rfl
  | 2, _, _ => rfl
  | 3, _, _ => rfl
  | 4, _, _ => rfl
  | 5, _, _ => rfl
  | 6, _, _ => rfl
  | 7, _, _ => rfl
  | n + 8, _, h => omega
end Mine

end

section 
-- text E9
open PySem PySem.W PyProof.Rows PySem.Calls
set_option maxRecDepth 100000
set_option maxHeartbeats 1000000
namespace Mine
/-- what is asked of the labels in small letters -/
def chk1L (v : LabL) : Bool := allN 7 (fun u => allN 8 (fun n => bq (dmL (v.tx n) (v.tl (u + 1))) (nmN v.re n && Nat.beq (n / pwN (u + 1)) ((u + 1) / pwN (u + 1)))) &&
    (!(dmL (v.tx (u + 1)) ((v.tl (u + 1)).drop 1)) &&
    bq (dmL (v.tx (u + 1)) (v.inn (u + 1))) (nmN v.re (u + 1) && (!(Nat.beq (u + 1) 4) && (!(Nat.beq ((u + 1) % 4) 3) || !(eqL v.rc [53]))))))
theorem pcs_sum {v : LabL} (g : Good v) (n : Nat) : (((v.pcs n).map S).map (·.length)).sum + ((v.pcs n).map S).length ≤ 1000 := by
  have h1 := g.ra.len; have h2 := g.rb.len; have h3 := g.rc.len; have h4 := g.re.len
  have s0 := sep_len g.d3 n 0; have s1 := sep_len g.d3 n 1; have s2 := sep_len g.d3 n 2
  rw [sum_S]
  simp [LabL.pcs]
  omega
theorem sub_sum {ls ms : List LN} (h : (ls.map S |>.map (·.length)).sum + (ls.map S).length ≤ 1000) (hs : ms.flatten.length ≤ ls.flatten.length) (hl : ms.length ≤ ls.length) : ((ms.map S).map (·.length)).sum + (ms.map S).length ≤ 1000 := by
  rw [sum_S] at h ⊢
  simp at h ⊢
  simp at hs
  omega
theorem flat_drop (ls : List LN) (k : Nat) : (ls.drop k).flatten.length ≤ ls.flatten.length := by
  have := congrArg (fun z => z.flatten.length) (List.take_append_drop k ls)
  simp only [List.flatten_append, List.length_append] at this
  omega
theorem flat_take (ls : List LN) (k : Nat) : (ls.take k).flatten.length ≤ ls.flatten.length := by
  have := congrArg (fun z => z.flatten.length) (List.take_append_drop k ls)
  simp only [List.flatten_append, List.length_append] at this
  omega
theorem no10 {l : LN} (h : okL l = true) : ∀ c ∈ l, c ≠ 10 := fun c hc => (okL_mem h c hc).2.1
theorem tOk {v : LabL} (g : Good v) (k1 : chk1L v.low = true) (k2 : chk2 v = true) {t : Nat} (h1 : 1 ≤ t) (h8 : t < 8) : TOk v.abs (S v.dl) t := by
  obtain ⟨u, rfl⟩ : ∃ u, t = u + 1 := ⟨t - 1, by omega⟩
  have a := allN_get k1 u (by omega)
  simp only [Bool.and_eq_true] at a
  obtain ⟨a1, a2, a3⟩ := a
  simp only [chk2, Bool.and_eq_true] at k2
  have b := allN_get k2.2.2.2 u (by omega)
  have lok : ∀ n, okL (v.tx n) = true := g.txok
  have ht := tl_S v h1 h8
  have hi := in_S v h1 h8
  refine ⟨?_, ?_, ?_, ?_, ?_, ?_, ?_, ?_, ?_, ?_⟩
  · rw [pc_S]
    rcases fI_sep (dl := v.dl) h1 h8 with ⟨e1, e2, e3⟩ | ⟨e1, e2, e3, e4⟩ | ⟨e1, e2, e3, e4, e5⟩
    · rw [e2]; show some (S (sepL v.dl (u + 1) 0)) = _; rw [e3]; exact congrArg some dot_S.symm
    · rw [e2]; show some (S (sepL v.dl (u + 1) 1)) = _; rw [e4]; exact congrArg some dot_S.symm
    · rw [e2]; show some (S (sepL v.dl (u + 1) 2)) = _; rw [e5]; exact congrArg some dot_S.symm
  · intro i y hlt hy
    rw [pc_S] at hy
    rcases fI_sep (dl := v.dl) h1 h8 with ⟨e1, e2, e3⟩ | ⟨e1, e2, e3, e4⟩ | ⟨e1, e2, e3, e4, e5⟩
    · rw [e2] at hlt
      match i, hlt with
      | 0, _ => cases hy; exact g.ra.ne
      | n + 1, h => omega
    · rw [e2] at hlt
      match i, hlt with
      | 0, _ => cases hy; exact g.ra.ne
      | 1, _ =>
        have : some (S (sepL v.dl (u + 1) 0)) = some y := hy
        rw [e3] at this; cases this; exact g.dl.ne
      | 2, _ => cases hy; exact g.rb.ne
      | n + 3, h => omega
    · rw [e2] at hlt
      match i, hlt with
      | 0, _ => cases hy; exact g.ra.ne
      | 1, _ =>
        have : some (S (sepL v.dl (u + 1) 0)) = some y := hy
        rw [e3] at this; cases this; exact g.dl.ne
      | 2, _ => cases hy; exact g.rb.ne
      | 3, _ =>
        have : some (S (sepL v.dl (u + 1) 1)) = some y := hy
        rw [e4] at this; cases this; exact g.dl.ne
      | 4, _ => cases hy; exact g.rc.ne
      | n + 5, h => omega
  · rw [pickT]
    exact sub_sum (pcs_sum g (u + 1)) (flat_drop _ _) (by simp [LabL.tlp])
  · rw [pickI]
    refine sub_sum (pcs_sum g (u + 1)) (Nat.le_trans (flat_take _ _) (flat_drop _ _)) ?_
    simp only [LabL.inp, List.length_take, List.length_drop]
    omega
  · rw [ht, len_S]; have := g.tllen (u + 1); omega
  · rw [hi, len_S]; have := g.inlen (u + 1); omega
  · rw [tx_S, reach_S (by have := g.txlen (u + 1); omega) (no10 (lok _)), ht, cl_S v h1 h8, (eqL_iff _ _).mp b]
    cases clN v.re (u + 1) with
    | true => rw [if_pos rfl]
    | false => rw [if_neg (by decide)]
  · intro n hn
    rw [tx_S, ht, dmatch_S (lok n) (g.tlok _) (by have := g.txlen n; omega) (by have := g.tllen (u + 1); omega), low_tx, low_tl, to_S]
    have := bq_eq (allN_get a1 n hn)
    rw [this]
    show some (nmN (v.re.map lowC) n && _) = _
    rw [nm_low]
  · rw [tx_S, ht]
    have es : Txt.slice (S (v.tl (u + 1))) (some 1) none = S ((v.tl (u + 1)).drop 1) := slice_S _ 1
    have hok : okL ((v.tl (u + 1)).drop 1) = true := by
      have := g.tlok (u + 1)
      cases q : v.tl (u + 1) with
      | nil => rfl
      | cons c r =>
        rw [q] at this
        simp only [okL, Bool.and_eq_true] at this
        exact this.2
    rw [es, dmatch_S (lok _) hok (by have := g.txlen (u + 1); omega) (by have := g.tllen (u + 1); simp; omega), low_tx, List.map_drop, low_tl]
    have := a2
    simp only [Bool.not_eq_true'] at this
    rw [this]
  · rw [tx_S, hi, dmatch_S (lok _) (g.inok _) (by have := g.txlen (u + 1); omega) (by have := g.inlen (u + 1); omega), low_tx, low_inn, in_B]
    have := bq_eq a3
    rw [this]
    show some (nmN (v.re.map lowC) (u + 1) && (!(Nat.beq (u + 1) 4) && (!(Nat.beq ((u + 1) % 4) 3) || !(eqL (v.rc.map lowC) [53])))) = _
    rw [nm_low, low_one (by decide)]
theorem strOk_S {l : LN} (h : okL l = true) : PyData.strOk (S l) = true := by
  show l.toArray.all (· < 0x110000) = true
  rw [List.all_toArray, List.all_eq_true]
  intro c hc
  have := (okL_mem h c hc).1
  simp
  omega
theorem dm_self (a : LN) : dmL a a = true := by
  unfold dmL
  rw [(eqL_iff a a).mpr rfl]
theorem lawOk {v : LabL} (g : Good v) (k1 : chk1L v.low = true) (k2 : chk2 v = true) : LawOk v.abs (S v.dl) := by
  have k2' := k2
  simp only [chk2, Bool.and_eq_true] at k2
  obtain ⟨c1, c2, c3, _⟩ := k2
  refine ⟨rfl, ?_, ?_, ?_, ?_, ?_, ?_, ?_, ?_, ?_, ?_, fun t h1 h8 => tOk g k1 k2' h1 h8⟩
  · intro n _; rw [pc_S]; exact pcs_sum g n
  · have h1 := g.ca.len; have h2 := g.cb.len; have h3 := g.cc.len; have h4 := g.ce.len
    show ([S v.ca, S v.cb, S v.cc, S v.ce].map (·.length)).sum + 4 ≤ 1000
    simp only [List.map_cons, List.map_nil, List.sum_cons, List.sum_nil, len_S]
    omega
  · rw [wh_S]; exact strOk_S g.whok
  · intro n _; rw [tx_S, len_S]; have := g.txlen n; omega
  · rw [wh_S, len_S]; have := g.whlen; omega
  · show (S v.ca).length ≤ 300
    rw [len_S]; have := g.ca.len; omega
  · intro n hn
    rw [tx_S, wh_S]
    exact hdec_S (g.txok n) (g.txlen n) (optIs_eq (allN_get c1 n hn)) g.ne (by have := g.whlen; omega)
  · rw [wh_S, reach_S (by have := g.whlen; omega) (no10 g.whok), (eqL_iff _ _).mp c2]
    show some (S (match eqL v.ce [55] with | true => v.wh | false => v.wh.drop v.ca.length)) = some (if (S v.ce == Str.ofString "7") = true then S v.wh else Txt.slice (S v.wh) (some ((S v.ca).length : Nat)) none)
    have e : Str.ofString "7" = S [55] := by decide +kernel
    rw [e, S_beq, len_S, slice_S]
    cases eqL v.ce [55] with
    | true => rw [if_pos rfl]
    | false => rw [if_neg (by decide)]
  · rw [tx_S, reach_S (by have := g.txlen 0; omega) (no10 (g.txok 0)), (eqL_iff _ _).mp c3]
  · intro n _
    rw [tx_S, dmatch_S (g.txok n) (g.txok n) (by have := g.txlen n; omega) (by have := g.txlen n; omega), dm_self]
end Mine

end

section 
-- text E10
open PySem PySem.W PyProof.Rows PySem.Calls
set_option maxRecDepth 100000
set_option maxHeartbeats 0
namespace Mine
def rA : List (LN × LN) := [([97], [97]), ([61, 54, 49], [97]), ([87], [87])]
def rB : List (LN × LN) := [([98, 55], [98, 55]), ([66], [66]), ([51], [51])]
def rC : List (LN × LN) := [([100, 45, 101], [100, 45, 101]), ([53], [53]), ([61, 54, 52], [100])]
def rE : List (LN × LN) := [([99, 111, 109], [99, 111, 109]), ([108, 111, 99, 97, 108], [108, 111, 99, 97, 108]), ([55], [55]), ([61, 54, 67, 111, 99, 97, 108], [108, 111, 99, 97, 108]), ([61, 51, 55], [55]), ([76, 79, 67, 65, 76], [76, 79, 67, 65, 76])]
def rD : List LN := [[61, 50, 69], [61, 50, 101]]
theorem tab_eq : tabs = [rA, rB, rC, rE].map (fun r => r.map fun p => (S p.1, S p.2)) := by decide +kernel
theorem in_row {k : Nat} {ab : Str × Str} {r : List (LN × LN)} (h : InTab k ab) (hr : [rA, rB, rC, rE][k]? = some r) : ∃ p ∈ r, ab = (S p.1, S p.2) := by
  obtain ⟨row, j, h1, h2⟩ := h
  rw [tab_eq, List.getElem?_map, hr] at h1
  cases h1
  rw [List.getElem?_map] at h2
  obtain ⟨p, hp, rfl⟩ := Option.map_eq_some_iff.mp h2
  exact ⟨p, List.mem_of_getElem? hp, rfl⟩
def goodB (l : LN) : Bool := okL l && (Nat.ble l.length 12 && !(eqL l [46]))
theorem good_of {l : LN} (h : goodB l = true) : GoodS l := by
  simp only [goodB, Bool.and_eq_true, Bool.not_eq_true'] at h
  exact ⟨h.1, Nat.le_of_ble_eq_true h.2.1, h.2.2⟩
theorem good_rows : ([rA, rB, rC, rE].all fun r => r.all fun p => goodB p.1 && goodB p.2) = true := by decide +kernel
theorem good_p {r : List (LN × LN)} (hr : r ∈ [rA, rB, rC, rE]) {p : LN × LN} (hp : p ∈ r) : GoodS p.1 ∧ GoodS p.2 := by
  have := List.all_eq_true.mp (List.all_eq_true.mp good_rows r hr) p hp
  simp only [Bool.and_eq_true] at this
  exact ⟨good_of this.1, good_of this.2⟩
theorem good_d : (rD.all fun d => goodB d && Nat.ble d.length 3) = true := by decide +kernel
def lowRow (r : List (LN × LN)) : List LN := r.map fun p => p.1.map lowC
theorem low_d : ∀ d ∈ rD, d.map lowC = [61, 50, 101] := by
  intro d hd
  rcases List.mem_cons.mp hd with rfl | hd
  · rfl
  · rcases List.mem_cons.mp hd with rfl | hd
    · rfl
    · cases hd
def c1 (e : LN) : Bool := (lowRow rA).all fun a => (lowRow rB).all fun b => (lowRow rC).all fun c => chk1L ⟨a, b, c, e, [], [], [], [], [61, 50, 101]⟩
theorem c1_com : c1 [99, 111, 109] = true := by decide +kernel
theorem c1_loc : c1 [108, 111, 99, 97, 108] = true := by decide +kernel
theorem c1_7 : c1 [55] = true := by decide +kernel
theorem c1_6c : c1 [61, 54, 99, 111, 99, 97, 108] = true := by decide +kernel
theorem c1_37 : c1 [61, 51, 55] = true := by decide +kernel
theorem c1_all : ∀ p ∈ rE, c1 (p.1.map lowC) = true := by
  intro p hp
  rcases List.mem_cons.mp hp with rfl | hp
  · exact c1_com
  rcases List.mem_cons.mp hp with rfl | hp
  · exact c1_loc
  rcases List.mem_cons.mp hp with rfl | hp
  · exact c1_7
  rcases List.mem_cons.mp hp with rfl | hp
  · exact c1_6c
  rcases List.mem_cons.mp hp with rfl | hp
  · exact c1_37
  rcases List.mem_cons.mp hp with rfl | hp
  · exact c1_loc
  cases hp
def c2 (e : LN × LN) : Bool := rA.all fun a => rB.all fun b => rC.all fun c => rD.all fun d => chk2 ⟨a.1, b.1, c.1, e.1, a.2, b.2, c.2, e.2, d⟩
theorem c2_com : c2 ([99, 111, 109], [99, 111, 109]) = true := by decide +kernel
theorem c2_loc : c2 ([108, 111, 99, 97, 108], [108, 111, 99, 97, 108]) = true := by decide +kernel
theorem c2_7 : c2 ([55], [55]) = true := by decide +kernel
theorem c2_6c : c2 ([61, 54, 67, 111, 99, 97, 108], [108, 111, 99, 97, 108]) = true := by decide +kernel
theorem c2_37 : c2 ([61, 51, 55], [55]) = true := by decide +kernel
theorem c2_LOC : c2 ([76, 79, 67, 65, 76], [76, 79, 67, 65, 76]) = true := by decide +kernel
theorem c2_all : ∀ p ∈ rE, c2 p = true := by
  intro p hp
  rcases List.mem_cons.mp hp with rfl | hp
  · exact c2_com
  rcases List.mem_cons.mp hp with rfl | hp
  · exact c2_loc
  rcases List.mem_cons.mp hp with rfl | hp
  · exact c2_7
  rcases List.mem_cons.mp hp with rfl | hp
  · exact c2_6c
  rcases List.mem_cons.mp hp with rfl | hp
  · exact c2_37
  rcases List.mem_cons.mp hp with rfl | hp
  · exact c2_LOC
  cases hp
theorem dot_in {d : Str} (h : d = "=2E" ∨ d = Txt.lower "=2E") : ∃ l ∈ rD, d = S l := by
  have e : Str.ofString "=2E" = S [61, 50, 69] := by decide +kernel
  rcases h with rfl | rfl
  · exact ⟨_, .head _, e⟩
  · refine ⟨_, .tail _ (.head _), ?_⟩
    rw [e, lower_S (by decide)]
    rfl
theorem plain (ab0 ab1 ab2 ab3 : Str × Str) (d : Str) (i0 : InTab 0 ab0) (i1 : InTab 1 ab1) (i2 : InTab 2 ab2) (i3 : InTab 3 ab3) (hd : d = "=2E" ∨ d = Txt.lower "=2E") : LawOk [ab0, ab1, ab2, ab3] d := by
  obtain ⟨a, ha, rfl⟩ := in_row i0 rfl
  obtain ⟨b, hb, rfl⟩ := in_row i1 rfl
  obtain ⟨c, hc, rfl⟩ := in_row i2 rfl
  obtain ⟨e, he, rfl⟩ := in_row i3 rfl
  obtain ⟨l, hl, rfl⟩ := dot_in hd
  have ga := good_p (.head _) ha
  have gb := good_p (.tail _ (.head _)) hb
  have gc := good_p (.tail _ (.tail _ (.head _))) hc
  have ge := good_p (.tail _ (.tail _ (.tail _ (.head _)))) he
  have gd := List.all_eq_true.mp good_d l hl
  simp only [Bool.and_eq_true] at gd
  have k1 := c1_all e he
  have k1a := List.all_eq_true.mp k1 (a.1.map lowC) (List.mem_map.mpr ⟨a, ha, rfl⟩)
  have k1b := List.all_eq_true.mp k1a (b.1.map lowC) (List.mem_map.mpr ⟨b, hb, rfl⟩)
  have k1c := List.all_eq_true.mp k1b (c.1.map lowC) (List.mem_map.mpr ⟨c, hc, rfl⟩)
  have k2 := c2_all e he
  have k2a := List.all_eq_true.mp k2 a ha
  have k2b := List.all_eq_true.mp k2a b hb
  have k2c := List.all_eq_true.mp k2b c hc
  have k2d := List.all_eq_true.mp k2c l hl
  refine lawOk (v := ⟨a.1, b.1, c.1, e.1, a.2, b.2, c.2, e.2, l⟩) ⟨ga.1, gb.1, gc.1, ge.1, ga.2, gb.2, gc.2, ge.2, good_of gd.1, Nat.le_of_ble_eq_true gd.2, by simp [LabL.wh]⟩ ?_ k2d
  rw [← low_d l hl] at k1c
  exact k1c
end Mine

end

section 
-- text C29
open PySem PySem.W PyProof.Rows PySem.Calls
set_option maxRecDepth 100000
set_option maxHeartbeats 1000000
namespace Mine
theorem walk (all : ∀ ab0 ab1 ab2 ab3 (d : Str), InTab 0 ab0 → InTab 1 ab1 → InTab 2 ab2 → InTab 3 ab3 → d = "=2E" ∨ d = Txt.lower "=2E" → LawOk [ab0, ab1, ab2, ab3] d) :
    WalkO q loose (fun _ _ => True) (fun _ h => Hooked h) PySem.Challenge.rw_qu0016_01.row.toRowW lawD [] fun f vs => PySem.call f vs := by
  intro w s₀ s₁ mg mb G Y fa o pm cd doc dV kV ho hd hcd hD hmg hg args vals as hpre hlay hrd hwl hlo
  have T := G.T
  wrow_args hpre hlay hrd hwl hlo
  refine law_call (mean := ExcName.means s₀.heap) (mb := mb) ⟨T, Y⟩ rfl (by decide) (by decide) hmg (by assumption) (by assumption) (by omega) all (fun h' t k => ?_)
  refine GoodW.toG ⟨.inl ⟨.bool true, .bool true, [], rfl, fun _ => rfl, .bool true, ?_, fun _ => ⟨.nil, fun _ ha => nomatch ha⟩⟩, k, rfl, hg⟩
  first
    | kernel_rfl
    | simp [OpenLaw.row, RowW.claim, WTm.holds, WTm.value, WShape.has]
theorem holds_of (all : ∀ ab0 ab1 ab2 ab3 (d : Str), InTab 0 ab0 → InTab 1 ab1 → InTab 2 ab2 → InTab 3 ab3 → d = "=2E" ∨ d = Txt.lower "=2E" → LawOk [ab0, ab1, ab2, ab3] d) : PySem.Challenge.rw_qu0016_01.Holds := head (walk all)
end Mine

end

theorem PySem.Challenge.cw_qu0016_01_holds : PySem.Challenge.rw_qu0016_01.Holds :=
  Mine.holds_of Mine.plain
