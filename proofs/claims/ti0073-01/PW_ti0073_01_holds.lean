import PyProof.Rows.All
import Wide.All
import OpenK.AllK
import Wide.FinOn
import Lean
import PySem.Challenge.RW_ti0073_01
set_option Elab.async false
set_option linter.all false


open PySem PySem.W PyProof.Rows
set_option Elab.async false
set_option maxRecDepth 1000000
set_option maxHeartbeats 0
noncomputable def Mine.saidOf (l : OpenLaw) : Bool := l.wellSaid
theorem Mine.saidOf_rfl : Mine.saidOf = Mine.saidOf := rfl
name_quick saidQ for Mine.saidOf by Mine.saidOf_rfl
theorem Mine.saidQ : PySem.W.Fast.saidQ PySem.Challenge.rw_ti0073_01 = true := by kernel_rfl
theorem Mine.said : PySem.Challenge.rw_ti0073_01.wellSaid = true := (congrFun PySem.W.Fast.saidQ_eq PySem.Challenge.rw_ti0073_01).trans Mine.saidQ
noncomputable def Mine.keptS (b : List Stmt) : List Stmt := b.take 1 ++ ((b.drop 2).take 4 ++ ((b.drop 7).take 1 ++ ((b.drop 9).take 51 ++ b.drop 61)))
noncomputable def Mine.vw : Program := { PySem.Challenge.pw_ti0073_01 with main := { PySem.Challenge.pw_ti0073_01.main with body := Mine.keptS PySem.Challenge.pw_ti0073_01.main.body } }
noncomputable def Mine.loose3 : List PySem.Str := [Str.ofString "_Accumulator", Str.ofString "Whitespace", Str.ofString "EXACT_TOKEN_TYPES"]
section
open PySem.Calls
namespace Mine
noncomputable def topT (tb : String → Option Builtin) (p : Program) (w : World) (n₀ : Nat) (ann : Option Value) : Nat → SharedT → Thread → Option SharedT
  | 0, _, _ => none
  | n + 1, s, t => match through t with
    | true => some s
    | false => match stepOk n₀ ann t with
      | false => none
      | true => match stepT (denote tb) p w s t with
        | some (s', t') => topT tb p w n₀ ann n s' t'
        | none => none
noncomputable def impT (tb : String → Option Builtin) (p : Program) (w : World) : Nat → SharedT → Thread → Option SharedT
  | 0, _, _ => none
  | n + 1, s, t => match t.atExitBegin with
    | some [] => some s
    | some (_ :: _) => none
    | none => match stepT (denote tb) p w s t with
      | some (s', t') => impT tb p w n s' t'
      | none => none
noncomputable def treeOf : List Obj → Nat → BT → Option BT
  | [], _, t => some t
  | o :: r, n, t => match ((t.ins n o).get n).isSome with
    | true => treeOf r (n + 1) (t.ins n o)
    | false => none
noncomputable def toT (s : Shared) : Option SharedT := (treeOf s.heap.objs.toList 0 .nil).map fun t => ⟨t, s.heap.objs.size, s.heap.life, s.gens, s.drawn, s.toks, s.os⟩
noncomputable def openT (tb : String → Option Builtin) (p : Program) (w : World) (N : Nat) : Option Shared :=
  (toT (start (opening p)).1).bind fun a => (impT tb (opening p) w N a (start (opening p)).2).bind fun b => fenceModules? p b.abs
noncomputable def fromT (tb : String → Option Builtin) (p : Program) (w : World) (N : Nat) (s₀ : Shared) : Option Shared :=
  match s₀.heap.isNs mainGlobals && s₀.gens.size == 0 with
  | true => ((toT s₀).bind fun c => topT tb p w s₀.heap.objs.size (s₀.heap.nsMap mainGlobals "__annotations__") N c (topStub p)).bind fun d => match staticsOk (importedModules p.main.body) s₀.heap d.abs.heap && namesBound p d.abs.heap && gensDone d.abs && laidKept s₀.heap d.abs.heap with
      | true => some d.abs
      | false => none
  | false => none
end Mine
namespace Mine
theorem topT_of {tb : String → Option Builtin} {p : Program} {w : World} {n₀ : Nat} {ann : Option Value} {n : Nat} : ∀ {s s' : SharedT} {t : Thread}, topT tb p w n₀ ann n s t = some s' → topRun tb p w n₀ ann n s.abs t = some s'.abs := by
  induction n with
  | zero => exact fun h => nomatch h
  | succ n ih =>
    intro s s' t h
    dsimp only [topT] at h
    unfold topRun
    cases he : through t with
    | true => rw [he] at h; cases h; rfl
    | false =>
      rw [he] at h
      cases hk : stepOk n₀ ann t with
      | false => rw [hk] at h; cases h
      | true =>
        rw [hk] at h
        cases hs : stepT (denote tb) p w s t with
        | none => rw [hs] at h; cases h
        | some r => rw [hs] at h; dsimp only; rw [stepT_spec hs]; exact ih h
theorem impT_of {tb : String → Option Builtin} {p : Program} {w : World} {n : Nat} : ∀ {s s' : SharedT} {t : Thread}, impT tb p w n s t = some s' → importEnds tb p w n s.abs t = some s'.abs := by
  induction n with
  | zero => exact fun h => nomatch h
  | succ n ih =>
    intro s s' t h
    dsimp only [impT] at h
    unfold importEnds
    cases he : t.atExitBegin with
    | some l => rw [he] at h; cases l <;> cases h; rfl
    | none =>
      rw [he] at h
      cases hs : stepT (denote tb) p w s t with
      | none => rw [hs] at h; cases h
      | some r => rw [hs] at h; dsimp only; rw [stepT_spec hs]; exact ih h
theorem treeOf_abs {life : Life} (l : List Obj) : ∀ (n : Nat) (t t' : BT) (pre : List Obj), treeOf l n t = some t' → absHeap t n life = ⟨pre.toArray, life⟩ → absHeap t' (n + l.length) life = ⟨(pre ++ l).toArray, life⟩ := by
  induction l with
  | nil => intro n t t' pre h e; cases h; rw [List.append_nil]; exact e
  | cons o r ih =>
    intro n t t' pre h e
    dsimp only [treeOf] at h
    cases hi : ((t.ins n o).get n).isSome with
    | false => rw [hi] at h; cases h
    | true =>
      rw [hi] at h
      have := ih (n + 1) _ t' (pre ++ [o]) h (by rw [absHeap_ins hi, e]; simp [Heap.push])
      rw [List.length_cons, ← Nat.add_assoc, Nat.add_right_comm, this, List.append_assoc]
      rfl
theorem toT_abs {s : Shared} {st : SharedT} (h : toT s = some st) : st.abs = s := by
  obtain ⟨t, ht, rfl⟩ := Option.map_eq_some_iff.mp h
  have := treeOf_abs (life := s.heap.life) _ 0 .nil t [] ht rfl
  obtain ⟨⟨⟨ol⟩, life⟩, g, d, k, os⟩ := s
  show Shared.mk _ _ _ _ _ = _
  congr 1
  simpa using this
theorem openT_of {p : Program} {w : World} {N : Nat} {s : Shared} {tb : String → Option Builtin} (h : openT tb p w N = some s) : fencedOpening tb p w N = some s := by
  obtain ⟨a, ha, h⟩ := Option.bind_eq_some_iff.mp h
  obtain ⟨b, hb, h⟩ := Option.bind_eq_some_iff.mp h
  have := impT_of hb
  rw [toT_abs ha] at this
  unfold fencedOpening
  rw [this]; exact h
theorem fromT_of {p : Program} {w : World} {N : Nat} {s s' : Shared} {tb : String → Option Builtin} (h : fromT tb p w N s = some s') : topFrom tb p w N s = some s' := by
  unfold fromT at h
  unfold topFrom
  cases e : s.heap.isNs mainGlobals && s.gens.size == 0 with
  | false => rw [e] at h; cases h
  | true =>
    rw [e] at h
    obtain ⟨d, hd, h⟩ := Option.bind_eq_some_iff.mp h
    obtain ⟨c, hc, hd⟩ := Option.bind_eq_some_iff.mp hd
    have := topT_of hd
    rw [toT_abs hc] at this
    dsimp only
    rw [this]; exact h
end Mine
namespace Mine
noncomputable def runT (p : Program) (w : World) (N : Nat) : Option Shared := (openT treeTable p w N).bind (fromT treeTable p w N)
noncomputable def seenA (p q : Program) (loose : List Str) (R : WRecords) (s : Shared) :=
  (seen ((recsOf q).map (·.name)) (ownsOf q) [] { s with gens := #[] }, s.heap.bltView,
   s.heap.keysOk (looseW q loose) ((recsOf q).map (·.name)) ((litsOf q).map (·.1)) ((clssOf q (looseW q loose)).map (·.name)) && s.heap.accountedOkI (importedModules p.main.body) && s.heap.isNs mainGlobals && s.heap.isNs builtinsNs && tablesOk q s.heap && (xlAt q [] s && recOk R s) && (s.gens.size == 0))
noncomputable def seenB (q : Program) (loose : List Str) (s : Shared) :=
  (tabsOk q s, pinSeenD q (drecsOf q) s, plainSeenE q (looseW q loose) s, plainSeenD q loose s, wideSeen q s, clsSeenW q loose s)
noncomputable def lookA (p q : Program) (loose : List Str) (R : WRecords) (w : World) (N : Nat) := (runT p w N).map (seenA p q loose R)
noncomputable def seenC (g g' : List Addr) (s : Shared) := (g.map s.heap.get?, g'.map s.heap.get?)
noncomputable def lookB (p q : Program) (loose : List Str) (w : World) (N : Nat) (g g' : List Addr) := (runT p w N).map fun s => (seenB q loose s, seenC g g' s)
theorem runT_rfl : runT = runT := rfl
theorem lookA_rfl : lookA = lookA := rfl
theorem lookB_rfl : lookB = lookB := rfl
name_quick runQ for Mine.runT by Mine.runT_rfl
name_quick lookAQ for Mine.lookA by Mine.lookA_rfl
name_quick lookBQ for Mine.lookB by Mine.lookB_rfl
theorem of_lookB {p q : Program} {loose : List Str} {w : World} {N : Nat} {g g' : List Addr} {b c} (h : PySem.W.Fast.lookBQ p q loose w N g g' = some (b, c)) : (runT p w N).map (seenB q loose) = some b ∧ (PySem.W.Fast.runQ p w N).map (seenC g g') = some c := by
  rw [← PySem.W.Fast.lookBQ_eq] at h
  unfold lookB at h
  rw [← PySem.W.Fast.runQ_eq]
  obtain ⟨s, hs, e⟩ := Option.map_eq_some_iff.mp h
  rw [hs]
  exact ⟨congrArg some (congrArg Prod.fst e), congrArg some (congrArg Prod.snd e)⟩
noncomputable def goodB (q : Program) (loose : List Str) := (true, pinGoodD (drecsOf q), plainGoodE q (looseW q loose), plainGoodD q loose, wideGood q, clsGoodW q loose)
theorem left_Q {p q : Program} {loose : List Str} {R : WRecords} {α : Type} {Yf : Shared → α} {Ya : World → α} {N : Nat} (row : String)
    (a0 : ∀ w : World, PySem.W.Fast.lookAQ p q loose R (w.withFollow row false) N = some (expectedOf q, bltViewBooted, true))
    (b0 : ∀ w : World, (runT p (w.withFollow row false) N).map (seenB q loose) = some (goodB q loose))
    (c0 : ∀ w : World, (PySem.W.Fast.runQ p (w.withFollow row false) N).map Yf = some (Ya (w.withFollow row false)))
    (a1 : ∀ w : World, PySem.W.Fast.lookAQ p q loose R (w.withFollow row true) N = some (expectedOf q, bltViewBooted, true))
    (b1 : ∀ w : World, (runT p (w.withFollow row true) N).map (seenB q loose) = some (goodB q loose))
    (c1 : ∀ w : World, (PySem.W.Fast.runQ p (w.withFollow row true) N).map Yf = some (Ya (w.withFollow row true))) :
    LeftO p q loose (fun s => xlAt q [] s && recOk R s) Yf Ya N := fun w => by
  have key : ∀ w : World, PySem.W.Fast.lookAQ p q loose R w N = some (expectedOf q, bltViewBooted, true) → (runT p w N).map (seenB q loose) = some (goodB q loose) → (PySem.W.Fast.runQ p w N).map Yf = some (Ya w) →
      (openEnds treeTable p w N).map (fun s => (openSeen q loose (importedModules p.main.body) (fun s => xlAt q [] s && recOk R s) true s, Yf s)) = some (openGood q loose, Ya w) := fun w ha hb hc => by
    rw [← PySem.W.Fast.lookAQ_eq] at ha
    rw [← PySem.W.Fast.runQ_eq] at hc
    obtain ⟨s, hs, ea⟩ := Option.map_eq_some_iff.mp hc
    unfold lookA at ha
    rw [hs] at ha hb
    have ea' := Option.some.inj ha
    have eb' := Option.some.inj hb
    obtain ⟨s₀, h2, h3⟩ := Option.bind_eq_some_iff.mp hs
    have e : openSeen q loose (importedModules p.main.body) (fun s => xlAt q [] s && recOk R s) true s = openGood q loose :=
      Prod.ext (congrArg (fun x => x.1) ea') (Prod.ext (congrArg (fun x => x.2.1) ea') (Prod.ext (congrArg (fun x => x.2.2) ea') eb'))
    unfold openEnds
    rw [openT_of h2]
    show (topFrom treeTable p w N s₀).map _ = _
    rw [fromT_of h3]
    exact congrArg some (Prod.ext e ea)
  have e := World.withFollow_self w row
  cases hb : w.params.followText row <;> rw [hb] at e
  · exact e ▸ key _ (a0 w) (b0 w) (c0 w)
  · exact e ▸ key _ (a1 w) (b1 w) (c1 w)
end Mine
end
section
local macro_rules | `(tactic| o_head $_) => `(tactic| assumption)
theorem Mine.kept : OpenRow.Holds PySem.Challenge.rw_ti0073_01.row → OpenRow.Holds PySem.Challenge.rw_ti0073_01.row := by
  intro h
  k_head
end
theorem Mine.lookA0 (w : World) : PySem.W.Fast.lookAQ PySem.Challenge.pw_ti0073_01 Mine.vw [Str.ofString "_Accumulator", Str.ofString "Whitespace", Str.ofString "EXACT_TOKEN_TYPES"] (RowW.records PySem.Challenge.rw_ti0073_01.row.toRowW) (w.withFollow "special-get-raises" false) 6794 = some (expectedOf Mine.vw, bltViewBooted, true) := by kernel_rfl
theorem Mine.lookB0 (w : World) : PySem.W.Fast.lookBQ PySem.Challenge.pw_ti0073_01 Mine.vw [Str.ofString "_Accumulator", Str.ofString "Whitespace", Str.ofString "EXACT_TOKEN_TYPES"] (w.withFollow "special-get-raises" false) 6794 ((Mine.kept.heap_1 (w.withFollow "special-get-raises" false).params).map (·.1)) [140, 147] = some (Mine.goodB Mine.vw [Str.ofString "_Accumulator", Str.ofString "Whitespace", Str.ofString "EXACT_TOKEN_TYPES"], ((Mine.kept.heap_1 (w.withFollow "special-get-raises" false).params).map fun p => some p.2, [140, 147].map fun _ => some (tabObj #[]))) := by kernel_rfl
theorem Mine.lookA1 (w : World) : PySem.W.Fast.lookAQ PySem.Challenge.pw_ti0073_01 Mine.vw [Str.ofString "_Accumulator", Str.ofString "Whitespace", Str.ofString "EXACT_TOKEN_TYPES"] (RowW.records PySem.Challenge.rw_ti0073_01.row.toRowW) (w.withFollow "special-get-raises" true) 6794 = some (expectedOf Mine.vw, bltViewBooted, true) := by kernel_rfl
theorem Mine.lookB1 (w : World) : PySem.W.Fast.lookBQ PySem.Challenge.pw_ti0073_01 Mine.vw [Str.ofString "_Accumulator", Str.ofString "Whitespace", Str.ofString "EXACT_TOKEN_TYPES"] (w.withFollow "special-get-raises" true) 6794 ((Mine.kept.heap_1 (w.withFollow "special-get-raises" true).params).map (·.1)) [140, 147] = some (Mine.goodB Mine.vw [Str.ofString "_Accumulator", Str.ofString "Whitespace", Str.ofString "EXACT_TOKEN_TYPES"], ((Mine.kept.heap_1 (w.withFollow "special-get-raises" true).params).map fun p => some p.2, [140, 147].map fun _ => some (tabObj #[]))) := by kernel_rfl
theorem Mine.a0 (w : World) : PySem.W.Fast.lookAQ PySem.Challenge.rw_ti0073_01.row.prog Mine.vw [Str.ofString "_Accumulator", Str.ofString "Whitespace", Str.ofString "EXACT_TOKEN_TYPES"] (RowW.records PySem.Challenge.rw_ti0073_01.row.toRowW) (w.withFollow "special-get-raises" false) 6794 = some (expectedOf Mine.vw, bltViewBooted, true) := Eq.trans (by kernel_rfl) (Eq.trans (Mine.lookA0 w) (by kernel_rfl))
theorem Mine.b0 (w : World) : (Mine.runT PySem.Challenge.rw_ti0073_01.row.prog (w.withFollow "special-get-raises" false) 6794).map (Mine.seenB Mine.vw [Str.ofString "_Accumulator", Str.ofString "Whitespace", Str.ofString "EXACT_TOKEN_TYPES"]) = some (Mine.goodB Mine.vw [Str.ofString "_Accumulator", Str.ofString "Whitespace", Str.ofString "EXACT_TOKEN_TYPES"]) := Eq.trans (by kernel_rfl) (Eq.trans (Mine.of_lookB (Mine.lookB0 w)).1 (by kernel_rfl))
theorem Mine.a1 (w : World) : PySem.W.Fast.lookAQ PySem.Challenge.rw_ti0073_01.row.prog Mine.vw [Str.ofString "_Accumulator", Str.ofString "Whitespace", Str.ofString "EXACT_TOKEN_TYPES"] (RowW.records PySem.Challenge.rw_ti0073_01.row.toRowW) (w.withFollow "special-get-raises" true) 6794 = some (expectedOf Mine.vw, bltViewBooted, true) := Eq.trans (by kernel_rfl) (Eq.trans (Mine.lookA1 w) (by kernel_rfl))
theorem Mine.b1 (w : World) : (Mine.runT PySem.Challenge.rw_ti0073_01.row.prog (w.withFollow "special-get-raises" true) 6794).map (Mine.seenB Mine.vw [Str.ofString "_Accumulator", Str.ofString "Whitespace", Str.ofString "EXACT_TOKEN_TYPES"]) = some (Mine.goodB Mine.vw [Str.ofString "_Accumulator", Str.ofString "Whitespace", Str.ofString "EXACT_TOKEN_TYPES"]) := Eq.trans (by kernel_rfl) (Eq.trans (Mine.of_lookB (Mine.lookB1 w)).1 (by kernel_rfl))

theorem Mine.openG {d : DefRec} {kwd : List (Str × Expr)} (H : Hook)
    (c0 : ∀ w : World, (PySem.W.Fast.runQ PySem.Challenge.rw_ti0073_01.row.prog (w.withFollow "special-get-raises" false) 6794).map (Hook.obs H) = some (Hook.val H (w.withFollow "special-get-raises" false)))
    (c1 : ∀ w : World, (PySem.W.Fast.runQ PySem.Challenge.rw_ti0073_01.row.prog (w.withFollow "special-get-raises" true) 6794).map (Hook.obs H) = some (Hook.val H (w.withFollow "special-get-raises" true)))
    (hdef : defOf Mine.vw PySem.Challenge.rw_ti0073_01.row.name = some (d, kwd)) (hp : PySem.Challenge.rw_ti0073_01.row.prog.theDef PySem.Challenge.rw_ti0073_01.row.name = some (d.params, d.body, d.scope)) (hk : kwWritten? d.params.kwonlyargs d.params.kw_defaults = some kwd)
    (k1 : PySem.Challenge.rw_ti0073_01.row.wellSaid = true) (hw : PySem.Challenge.rw_ti0073_01.row.toRowW.promised)
    (call : WalkO Mine.vw [Str.ofString "_Accumulator", Str.ofString "Whitespace", Str.ofString "EXACT_TOKEN_TYPES"] (XL Mine.vw []) (Hook.says H) PySem.Challenge.rw_ti0073_01.row.toRowW d kwd fun f vs => PySem.call f vs) : PySem.Challenge.rw_ti0073_01.row.Holds :=
  holds_open (q := Mine.vw) (Xt := fun s => xlAt Mine.vw [] s && recOk (RowW.records PySem.Challenge.rw_ti0073_01.row.toRowW) s) (N := 6794) (Mine.left_Q (R := RowW.records PySem.Challenge.rw_ti0073_01.row.toRowW) "special-get-raises" Mine.a0 Mine.b0 c0 Mine.a1 Mine.b1 c1) (Hook.of H) (Hook.keeps H)
    (fun s e => xl_of s (Bool.and_eq_true_iff.mp e).1) XL.keeps hdef hp hk (fun s e => recFacts_of (Bool.and_eq_true_iff.mp e).2) (by rfl) k1 (by decide +kernel) ⟨rfl, rfl, rfl, rfl, rfl, by decide +kernel⟩ hw call
local macro_rules | `(tactic| o_law) => `(tactic| refine holds_law Mine.said fun said => ?_)
open Lean in
local macro_rules
  | `(tactic| o_head (kHook $k $a $p)) => do
    let hw := mkIdent `hw
    let hc := mkIdent `hc
    `(tactic| (refine Mine.openG (kmHook $k $a $p [140, 147]) (fun w => Eq.trans (by kernel_rfl) (Eq.trans (Mine.of_lookB (Mine.lookB0 w)).2 (by kernel_rfl))) (fun w => Eq.trans (by kernel_rfl) (Eq.trans (Mine.of_lookB (Mine.lookB1 w)).2 (by kernel_rfl))) (by rfl) (by rfl) (by rfl) (by assumption) ?$hw:ident ?$hc:ident))
open_top hd for PySem.Challenge.rw_ti0073_01

section TLib
open PySem PySem.W PyProof.Rows PySem.Spec PySem.Calls
set_option Elab.async false
set_option maxRecDepth 100000
set_option maxHeartbeats 4000000
namespace Mine
noncomputable abbrev looseL : List Str := looseW Mine.vw [Str.ofString "_Accumulator", Str.ofString "Whitespace", Str.ofString "EXACT_TOKEN_TYPES"]
noncomputable abbrev tupO (its : List Value) : Obj := { cls := .type "tuple", data := .seq its.toArray }

theorem kst_agree {m : Str → Option Value} {ps : List (Str × Value)} (h : ∀ p ∈ ps, m p.1 = some p.2) : kstB m ps = m := funext fun _ => kstB_eq h fun _ => rfl
theorem lookup_kst (l : List (Str × Value)) : (fun y => List.lookup y l) = kstB (fun _ => none) l := by
  induction l with
  | nil => rfl
  | cons p r ih9 =>
    funext y
    have ih := congrFun ih9 y
    show List.lookup y (p :: r) = if y = p.1 then some p.2 else kstB (fun _ => none) r y
    rw [List.lookup_cons, ← ih]
    by_cases h : y = p.1
    · subst h; simp
    · have : (y == p.1) = false := beq_false_of_ne h
      rw [this, if_neg h]

theorem nsub {h₀ h : Heap} {L : Addr} {l l' : List (Addr × Obj)} (N : News h₀ L h l) (hs : ∀ p ∈ l', p ∈ l) : News h₀ L h l' := fun p hp => N p (hs p hp)
theorem pick_nat (l : List Value) (a b : Nat) (hb : b ≤ l.length) : kms_pick l (some a) (some b) = (l.drop a).take (b - a) := by
  have e1 : kms_lo (some (a : Int)) l.length = min a l.length := by
    simp only [kms_lo]
    rw [if_neg (by omega)]
    simp
  have e2 : kms_hi (some (b : Int)) l.length = b := by
    simp only [kms_hi]
    rw [if_neg (by omega)]
    simp; omega
  unfold kms_pick
  rw [e1, e2]
  by_cases h : a ≤ l.length
  · rw [Nat.min_eq_left h]
  · have h1 : min a l.length = l.length := by omega
    rw [h1, List.drop_length, List.drop_of_length_le (by omega)]
    simp
section
variable {prog : Program} {w : World} {A : Around} {E : Value → Shared → Prop} {s : Shared} {h₀ : Heap} {L : Addr} {m : Str → Option Value} {news : List (Addr × Obj)} {l : Addr} {vs : List Value} {n : Nat} {Q : Value → Shared → Prop}
theorem my_len (N : News h₀ L s.heap news) (hm : (l, listOf vs.toArray n) ∈ news) (hz : vs.length < 2 ^ 62) (h : Q (.int vs.length (s.toks + 1)) { s with toks := s.toks + 1 + 1 }) : wpAny (model prog w) A (call (.builtin "len") [.ref l]) Q E s := by
  refine len_list (N.isList hm) ?_ ?_
  · simp only [List.size_toArray]; omega
  · simpa only [List.size_toArray] using h
theorem my_item {value slice : PySem.Expr} {k : Int} {u : Tok} {x : Value} (N : News h₀ L s.heap news) (hm : (l, listOf vs.toArray n) ∈ news) (h0 : 0 ≤ k) (hx : vs[k.toNat]? = some x) (hfit : k < 2 ^ 63) (h : Q x s)
    (hs : subscripted slice false (.ref l) (.int k u) = operate [.ref l, .int k u] (getItem (.ref l) (.int k u))) (hg : ∀ r, letTemporaryGo value (.ref l) r = pure ()) : wpAny (model prog w) A (subscriptTail value slice (.ref l) (.int k u)) Q E s :=
  item_listL (N.isList hm) h0 hfit hx h hs hg
end
section
variable {prog : Program} {w : World} {A : Around} {E : Value → Shared → Prop} {Q : Flow → Shared → Prop} {s : Shared} {env : Env} {h₀ : Heap} {L : Addr}

inductive WEnd {σ : Type} (h₀ : Heap) (L : Addr) (s : Shared) (Led : σ → List (Addr × Obj)) (ps : σ → List (Str × Value)) (P : σ → Prop) (μ : σ → Nat) (c : σ) (s₂ : Shared) : Prop
  | mk (c' : σ) (h' : Heap) (tk : Nat) (m' : Str → Option Value) (news' : List (Addr × Obj)) : s₂ = { s with heap := h', toks := tk } → Fr h₀ L h' m' → News h₀ L h' news' → (∀ p ∈ Led c', p ∈ news') → (∀ p ∈ ps c', m' p.1 = some p.2) → P c' → μ c' < μ c → WEnd h₀ L s Led ps P μ c s₂
noncomputable def WPost {σ : Type} (h₀ : Heap) (L : Addr) (s : Shared) (Led : σ → List (Addr × Obj)) (ps : σ → List (Str × Value)) (P : σ → Prop) (μ : σ → Nat) (Q : Flow → Shared → Prop) (c : σ) (f : Flow) (s₂ : Shared) : Prop :=
  match f with
  | .ret v => Q (.ret v) s₂
  | .brk => Q .next s₂
  | _ => WEnd h₀ L s Led ps P μ c s₂
theorem wend {σ : Type} {Led : σ → List (Addr × Obj)} {ps : σ → List (Str × Value)} {P : σ → Prop} {μ : σ → Nat} {c : σ} {h' : Heap} {tk : Nat} {m' : Str → Option Value} {news' : List (Addr × Obj)} (c' : σ)
    (F : Fr h₀ L h' m') (N : News h₀ L h' news') (hn : ∀ p ∈ Led c', p ∈ news') (hk : ∀ p ∈ ps c', m' p.1 = some p.2) (hp : P c') (hm : μ c' < μ c) : WEnd h₀ L s Led ps P μ c { s with heap := h', toks := tk } :=
  ⟨c', h', tk, m', news', rfl, F, N, hn, hk, hp, hm⟩
theorem whl {σ : Type} {test : Expr} {body : List Stmt} {pos : Pos} {m₀ : Str → Option Value} (Led : σ → List (Addr × Obj)) (ps : σ → List (Str × Value)) (P : σ → Prop) (μ : σ → Nat) (c₀ : σ)
    (F : Fr h₀ L s.heap m₀) (N : News h₀ L s.heap (Led c₀)) (hk : ∀ p ∈ ps c₀, m₀ p.1 = some p.2) (hp : P c₀)
    (turn : ∀ (c : σ) (u : Str → Option Value) h tk, P c → Fr h₀ L h (kstB u (ps c)) → News h₀ L h (Led c) →
      wpAny (model prog w) A (isTrue test env (eval test env)) (fun b s₂ =>
        if b = true then wpAny (model prog w) A (execs body env) (WPost h₀ L s Led ps P μ Q c) (fun _ _ => False) s₂ else Q .next s₂) (fun _ _ => False) { s with heap := h, toks := tk }) :
    wpAny (model prog w) A (exec (.While test body [] pos) env) Q E s := by
  refine wpAny_mono (Q := Q) (E := fun _ _ => False) ?_ (fun _ _ x => x) fun _ _ x => x.elim
  refine While_inv2 (fun n m nx => ∃ c : σ, nx = Led c ∧ μ c = n ∧ (∀ p ∈ ps c, m p.1 = some p.2) ∧ P c) F N ⟨c₀, rfl, rfl, hk, hp⟩ ?_ PassesOwn.never
  rintro n m₁ nx h tk F₁ N₁ ⟨c, hnx, hsz, h1, hp'⟩
  subst hnx
  subst hsz
  have F₂ : Fr h₀ L h (kstB m₁ (ps c)) := by rw [kst_agree h1]; exact F₁
  refine wpAny_mono (turn c m₁ h tk hp' F₂ N₁) (fun b s₂ p => ?_) fun _ _ x => x
  cases b with
  | false => simpa using p
  | true =>
    simp only [if_true] at p ⊢
    refine wpAny_mono p (fun f s₃ q => ?_) fun _ _ x => x
    cases f with
    | ret v => exact q
    | brk => exact q
    | next =>
      obtain ⟨c', h', tk', m', news', rfl, F', N', hn, hk9, hp9, hm9⟩ := q
      exact ⟨h', tk', m', Led c', μ c', rfl, F', fun p hp => N' p (hn p hp), hm9, c', rfl, rfl, hk9, hp9⟩
    | cont =>
      obtain ⟨c', h', tk', m', news', rfl, F', N', hn, hk9, hp9, hm9⟩ := q
      exact ⟨h', tk', m', Led c', μ c', rfl, F', fun p hp => N' p (hn p hp), hm9, c', rfl, rfl, hk9, hp9⟩

inductive FEndI {σ : Type} (h₀ : Heap) (L : Addr) (d9 : Drawn) (o9 : OsState) (G : σ → Array GenState) (own : List (Addr × Obj)) (wr : List Addr) (Led : σ → List (Addr × Obj)) (ps : σ → List (Str × Value)) (P : σ → Prop) (s₂ : Shared) : Prop
  | mk (c' : σ) (h' : Heap) (tk : Nat) (m' : Str → Option Value) (news' : List (Addr × Obj)) : s₂ = ⟨h', G c', d9, tk, o9⟩ → Fr h₀ L h' m' → News h₀ L h' news' → (∀ p ∈ own, p ∈ news') → (∀ p ∈ Led c', p ∈ news') → (∀ p ∈ Led c', p.1 ∉ wr) → (∀ p ∈ ps c', m' p.1 = some p.2) → P c' → FEndI h₀ L d9 o9 G own wr Led ps P s₂
noncomputable abbrev FEnd {σ : Type} (h₀ : Heap) (L : Addr) (s : Shared) (G : σ → Array GenState) (own : List (Addr × Obj)) (wr : List Addr) (Led : σ → List (Addr × Obj)) (ps : σ → List (Str × Value)) (P : σ → Prop) (s₂ : Shared) : Prop := FEndI h₀ L s.drawn s.os G own wr Led ps P s₂
inductive FI {σ : Type} (n : Nat) (s : Shared) (h₀ : Heap) (L : Addr) (G : σ → Array GenState) (Led : σ → List (Addr × Obj)) (ps : σ → List (Str × Value)) (St : Nat → Heap → Prop) (wr : List Addr) (P : Nat → σ → Prop) (k : Nat) (s' : Shared) : Prop
  | mk (h' : Heap) (tk : Nat) (m' : Str → Option Value) (i : Nat) (c : σ) : s' = { s with heap := h', gens := G c, toks := tk } → St i h' → Fr h₀ L h' m' → News h₀ L h' (Led c) → (∀ p ∈ Led c, p.1 ∉ wr) → (∀ p ∈ ps c, m' p.1 = some p.2) → P i c → i ≤ n → k = n - i → FI n s h₀ L G Led ps St wr P k s'
noncomputable def FPost {σ : Type} (h₀ : Heap) (L : Addr) (s : Shared) (G : σ → Array GenState) (own : List (Addr × Obj)) (wr : List Addr) (Led : σ → List (Addr × Obj)) (ps : σ → List (Str × Value)) (P : σ → Prop) (Q : Flow → Shared → Prop) (f : Flow) (s₂ : Shared) : Prop :=
  match f with
  | .ret v => Q (.ret v) s₂
  | .brk => Q .next s₂
  | _ => FEnd h₀ L s G own wr Led ps P s₂
theorem fend {σ : Type} {G : σ → Array GenState} {own : List (Addr × Obj)} {wr : List Addr} {Led : σ → List (Addr × Obj)} {ps : σ → List (Str × Value)} {P : σ → Prop} {h' : Heap} {g : Array GenState} {tk : Nat} {m' : Str → Option Value} {news' : List (Addr × Obj)} (c' : σ)
    (F : Fr h₀ L h' m') (N : News h₀ L h' news') (ho : ∀ p ∈ own, p ∈ news') (hn : ∀ p ∈ Led c', p ∈ news') (hw : ∀ p ∈ Led c', p.1 ∉ wr) (hk : ∀ p ∈ ps c', m' p.1 = some p.2) (hp : P c') (hg : g = G c' := by rfl) :
    FEnd h₀ L s G own wr Led ps P { s with heap := h', gens := g, toks := tk } := ⟨c', h', tk, m', news', by rw [hg], F, N, ho, hn, hw, hk, hp⟩

theorem forw {σ : Type} {R : Result → Shared → Prop} {target : Expr} {body orelse : List Stmt} {I : Addr} {fp wr : List Addr} {n : Nat} {PV : Nat → Value → Prop} {St : Nat → Heap → Prop} {m₀ : Str → Option Value}
    (G : σ → Array GenState) (Led : σ → List (Addr × Obj)) (ps : σ → List (Str × Value)) (P : Nat → σ → Prop) (c₀ : σ)
    (W : Walks prog w A I fp wr n PV St) (hlet : ∀ (i : Nat) (v : Value) (s₁ : Shared) (Q' : Unit → Shared → Prop) (E' : Value → Shared → Prop), St i s₁.heap → Q' () s₁ → wpAny (model prog w) A (letOwnedTupleGo target (.ref I) v) Q' E' s₁)
    (hsome : ∀ i h, St i h → ∀ b ∈ wr, ∃ o, h.get? b = some o)
    (hLf : env.locals ∉ fp) (hwr : ∀ b ∈ wr, h₀.get? b = none) (hst : St 0 s.heap) (hg : s.gens = G c₀)
    (F : Fr h₀ env.locals s.heap m₀) (N : News h₀ env.locals s.heap (Led c₀)) (hw : ∀ p ∈ Led c₀, p.1 ∉ wr) (hk : ∀ p ∈ ps c₀, m₀ p.1 = some p.2) (hp : P 0 c₀)
    (turn : ∀ (i : Nat) (c : σ) (v : Value) (u : Str → Option Value) h tk own, i < n → PV i v → P i c → (∀ p ∈ own, p.1 ∈ fp) → (∀ b ∈ wr, ∃ o, (b, o) ∈ own) → (∀ p ∈ Led c, p.1 ∉ wr) →
      Fr h₀ env.locals h (kstB u (ps c)) → News h₀ env.locals h (own ++ Led c) →
      wpAny (model prog w) A (assign target env v) (fun _ s₂ => wpAny (model prog w) A (execs body env) (FPost h₀ env.locals s G own wr Led ps (P (i + 1)) (fun f s' => match f with | .next => R (.ok .next) s' | f => R (.ok f) s')) (fun _ _ => False) s₂) (fun _ _ => False) { s with heap := h, gens := G c, toks := tk })
    (done : ∀ (c : σ) (u : Str → Option Value) h tk, P n c → Fr h₀ env.locals h (kstB u (ps c)) → News h₀ env.locals h (Led c) →
      wpAny (model prog w) A (execs orelse env) (fun f s₃ => R (.ok f) s₃) (fun _ _ => False) { s with heap := h, gens := G c, toks := tk }) :
    codeAny (model prog w) A (.forLoop target (.ref I) body orelse env) R s := by
  have hLw : env.locals ∉ wr := fun h => hLf (W.sub _ h)
  have old : ∀ b o, h₀.get? b = some o → b ∉ wr := fun b o e hb => by rw [hwr b hb] at e; cases e
  refine codeAny_forLoop_any
    (FI n s h₀ env.locals G Led ps St wr P) ?_ n
    ⟨s.heap, s.toks, m₀, 0, c₀, by rw [← hg], hst, F, N, hw, hk, hp, Nat.zero_le _, rfl⟩
  rintro k s' ⟨h', tk, m', i, c, rfl, hst', F', N', hw', hk', hP', hi, rfl⟩
  have next : ∀ h₁ : Heap, (∀ b o, b ∉ wr → h'.get? b = some o → h₁.get? b = some o) → Fr h₀ env.locals h₁ (kstB m' (ps c)) ∧ News h₀ env.locals h₁ (Led c) := fun h₁ hk₁ => by
    rw [kst_agree hk']
    exact ⟨⟨F'.ns.at' fun o e => hk₁ _ o hLw e, fun b o e => hk₁ b o (old b o e) (F'.keep b o e), F'.above⟩, fun p hp => ⟨hk₁ _ _ (hw' p hp) (N' p hp).1, (N' p hp).2⟩⟩
  by_cases hlt : i < n
  · refine W.item i _ _ _ hlt hst' fun v h₁ tk₁ hPV hst₁ hk₁ => ?_
    obtain ⟨F₁, N₁⟩ := next h₁ hk₁
    dsimp only
    refine hlet (i + 1) v _ _ _ hst₁ ?_
    have Nown : News h₀ env.locals h₁ (ownOf h₀ fp h₁) := news_ownOf hLf
    have hown : ∀ b ∈ wr, ∃ o, (b, o) ∈ ownOf h₀ fp h₁ := fun b hb => by
      obtain ⟨o, ho⟩ := hsome _ _ hst₁ b hb
      exact ⟨o, mem_ownOf (W.sub b hb) (hwr b hb) ho⟩
    have Nall : News h₀ env.locals h₁ (ownOf h₀ fp h₁ ++ Led c) := fun p hp => (List.mem_append.mp hp).elim (Nown p) (N₁ p)
    refine wpAny_mono (turn i c v m' h₁ tk₁ _ hlt hPV hP' ownOf_sub hown hw' F₁ Nall) (fun _ s₂ h₂ => wpAny_mono h₂ (fun f s₃ h₃ => ?_) fun _ _ x => x.elim) fun _ _ x => x.elim
    have up : FEnd h₀ env.locals s G (ownOf h₀ fp h₁) wr Led ps (P (i + 1)) s₃ → ∃ m, m < n - i ∧ FI n s h₀ env.locals G Led ps St wr P m s₃ := by
      rintro ⟨c', h₃', tk₃, m₃, news₃, rfl, F₃, N₃, ho₃, hn₃, hw₃, hk₃, hP₃⟩
      refine ⟨n - (i + 1), by omega, h₃', tk₃, m₃, i + 1, c', rfl, ?_, F₃, fun p hp => N₃ p (hn₃ p hp), hw₃, hk₃, hP₃, hlt, rfl⟩
      refine W.frame _ _ _ hst₁ fun b hb o e => ?_
      cases hn : h₀.get? b with
      | some o₀ =>
        have : o₀ = o := by have := F₁.keep b o₀ hn; rw [e] at this; exact (Option.some.inj this).symm
        exact this ▸ F₃.keep b o₀ hn
      | none => exact (N₃ _ (ho₃ _ (mem_ownOf hb hn e))).1
    cases f with
    | ret v => exact h₃
    | brk => exact h₃
    | next => exact up h₃
    | cont => exact up h₃
  · have hin : i = n := by omega
    refine W.done _ _ _ (hin ▸ hst') fun h₁ tk₁ hk₁ => ?_
    obtain ⟨F₁, N₁⟩ := next h₁ hk₁
    exact wpAny_mono (done c m' h₁ tk₁ (hin ▸ hP') F₁ N₁) (fun _ _ x => x) fun _ _ x => x.elim

theorem let_list {target : Expr} {I ax : Addr} {i : Nat} {v : Value} {Q' : Unit → Shared → Prop} {E' : Value → Shared → Prop} {s₁ : Shared} (h : s₁.heap.IsListIter I ax i) (q : Q' () s₁) : wpAny (model prog w) A (letOwnedTupleGo target (.ref I) v) Q' E' s₁ := by
  obtain ⟨⟨oc, od, odt, osl⟩, ho, hc, hd⟩ := h
  dsimp only at hc hd
  subst hc hd
  have k : wpAny (model prog w) A (do
      let (.ref r, .ref a) := (Value.ref I, v) | return
      let o ← load r
      match o.cls, o.data with
      | .type n, .fields vs =>
        if ["enumerate", "zip", "dict_itemiterator", "dict_reverseitemiterator", "odict_iterator", "itertools.zip_longest", "itertools.pairwise"].contains n && vs[0]? == some (rawInt a) then
          rule "for.unpacks-the-owned-tuple"
          updateField r 0 .none
      | _, _ => pure ()) Q' E' s₁ := by
    cases v with
    | ref a => exact wpAny_bind (wpAny_load ho (wpAny_pure q))
    | _ => exact wpAny_pure q
  cases target with
  | Tuple _ _ _ => exact k
  | List _ _ => exact k
  | _ => exact wpAny_pure q

theorem forl {σ : Type} {Q : Flow → Shared → Prop} {E : Value → Shared → Prop} {target : Expr} {body orelse : List Stmt} {l : Addr} {vs : List Value} {ln : Nat} {m₀ : Str → Option Value}
    (G : σ → Array GenState) (Led : σ → List (Addr × Obj)) (ps : σ → List (Str × Value)) (P : Nat → σ → Prop) (c₀ : σ)
    (hL : env.locals = L) (hh : A.handled = none) (hl : ∀ c, (l, listOf vs.toArray ln) ∈ Led c) (hg : s.gens = G c₀)
    (F : Fr h₀ L s.heap m₀) (N : News h₀ L s.heap (Led c₀)) (hk : ∀ p ∈ ps c₀, m₀ p.1 = some p.2) (hp : P 0 c₀)
    (turn : ∀ (i : Nat) (c : σ) (v : Value) (u : Str → Option Value) h tk it o, i < vs.length → vs[i]? = some v → P i c → (∀ p ∈ Led c, p.1 ≠ it) →
      Fr h₀ L h (kstB u (ps c)) → News h₀ L h ((it, o) :: Led c) →
      wpAny (model prog w) A (assign target env v) (fun _ s₂ => wpAny (model prog w) A (execs body env) (FPost h₀ L s G [(it, o)] [it] Led ps (P (i + 1)) Q) (fun _ _ => False) s₂) (fun _ _ => False) { s with heap := h, gens := G c, toks := tk })
    (done : ∀ (c : σ) (u : Str → Option Value) h tk, P vs.length c → Fr h₀ L h (kstB u (ps c)) → News h₀ L h (Led c) →
      wpAny (model prog w) A (execs orelse env) Q (fun _ _ => False) { s with heap := h, gens := G c, toks := tk }) :
    wpAny (model prog w) A (pyIter (.ref l)) (fun it s₂ => codeAny (model prog w) A (.forLoop target it body orelse env) (fun r s' => match r with | .ok f => Q f s' | .error e => cameBackBy (model prog w) A env E e s') s₂) E s := by
  subst hL
  have hL0 := N _ (hl c₀)
  have hls : s.heap.IsList l vs.toArray := ⟨_, hL0.1, rfl, _, rfl⟩
  have hll : l ≠ env.locals := hL0.2.1
  have hne : l ≠ s.heap.objs.size := Nat.ne_of_lt (Heap.lt_size hL0.1)
  refine wpAny_pyIter_list hls ?_
  have W := Walks.list (prog := prog) (w := w) hh s.heap.objs.size l hne vs.toArray
  have hlen : vs.toArray.size = vs.length := by simp
  rw [hlen] at W
  refine forw G Led ps P c₀ W (fun i v s₁ Q' E' st q => let_list st.1 q) ?_ ?_ ?_ ⟨⟨_, Heap.get?_push_size _ rfl, rfl, rfl⟩, hls.at fun o e => Heap.get?_push_of_some _ e⟩ hg (F.push _) (fun p hp => ⟨Heap.get?_push_of_some _ (N p hp).1, (N p hp).2⟩) ?_ hk hp ?_ ?_
  · rintro i h st b hb
    rw [List.mem_singleton.mp hb]
    obtain ⟨o, ho, _⟩ := st.1
    exact ⟨o, ho⟩
  · intro hm
    rcases List.mem_cons.mp hm with e | hm
    · exact absurd F.ns.lt (e ▸ Nat.lt_irrefl _)
    · exact hll (List.mem_singleton.mp hm).symm
  · intro b hb
    rw [List.mem_singleton.mp hb]
    exact next_is_new F
  · intro p hp hI
    exact absurd (Heap.lt_size (N p hp).1) ((List.mem_singleton.mp hI) ▸ Nat.lt_irrefl _)
  · intro i c v u h tk own hi hPV hP hown hwo hw F₁ N₁
    obtain ⟨o, ho⟩ := hwo _ (List.mem_singleton.mpr rfl)
    have N₂ : News h₀ env.locals h ((s.heap.objs.size, o) :: Led c) := fun p hp => by
      rcases List.mem_cons.mp hp with rfl | hp
      · exact N₁ _ (List.mem_append.mpr (.inl ho))
      · exact N₁ _ (List.mem_append.mpr (.inr hp))
    refine wpAny_mono (turn i c v u h tk s.heap.objs.size o hi (by simpa using hPV) hP (fun p hp e => hw p hp (List.mem_singleton.mpr e)) F₁ N₂) (fun _ s₂ h₂ => wpAny_mono h₂ (fun f s₃ h₃ => ?_) fun _ _ x => x) fun _ _ x => x
    have up : FEnd h₀ env.locals s G [(s.heap.objs.size, o)] [s.heap.objs.size] Led ps (P (i + 1)) s₃ → FEnd h₀ env.locals s G own [s.heap.objs.size] Led ps (P (i + 1)) s₃ := by
      rintro ⟨c', h', tk', m', news', e, F', N', ho', hn', r1, r2, r3⟩
      refine ⟨c', h', tk', m', news', e, F', N', fun p hp => ?_, hn', r1, r2, r3⟩
      have e1 := (N₁ p (List.mem_append.mpr (.inl hp))).1
      have := hown p hp
      simp only [List.mem_cons, List.not_mem_nil, or_false] at this
      rcases this with e2 | e2
      · have e3 := (N₂ _ (List.Mem.head _)).1
        rw [← e2, e1] at e3
        have : p = (s.heap.objs.size, o) := Prod.ext e2 (Option.some.inj e3)
        rw [this]
        exact ho' _ (.head _)
      · have e3 := (N₂ _ (List.Mem.tail _ (hl c))).1
        rw [← e2, e1] at e3
        have : p = (l, listOf vs.toArray ln) := Prod.ext e2 (Option.some.inj e3)
        rw [this]
        exact hn' _ (hl c')
    cases f with
    | ret v => exact h₃
    | brk => exact h₃
    | next => exact up h₃
    | cont => exact up h₃
  · intro c u h tk hP F₁ N₁
    exact wpAny_mono (done c u h tk hP F₁ N₁) (fun f _ x => x) fun _ _ x => x

theorem for1 {σ : Type} {Q : Flow → Shared → Prop} {E : Value → Shared → Prop} {x : Str} {px : Pos} {body orelse : List Stmt} {I : Addr} {n : Nat} {PV : Nat → Value → Prop} {St : Nat → Heap → Prop} {m₀ : Str → Option Value}
    (G : σ → Array GenState) (Led : σ → List (Addr × Obj)) (ps : σ → List (Str × Value)) (P : Nat → σ → Prop) (c₀ : σ)
    (W : Walks prog w A I [I] [I] n PV St) (hsome : ∀ i h, St i h → ∃ o, h.get? I = some o) (hL : env.locals = L) (hIL : I ≠ L) (hI : h₀.get? I = none) (hst : St 0 s.heap) (hg : s.gens = G c₀)
    (F : Fr h₀ L s.heap m₀) (N : News h₀ L s.heap (Led c₀)) (hw : ∀ p ∈ Led c₀, p.1 ≠ I) (hk : ∀ p ∈ ps c₀, m₀ p.1 = some p.2) (hp : P 0 c₀)
    (turn : ∀ (i : Nat) (c : σ) (v : Value) (u : Str → Option Value) h tk o, i < n → PV i v → P i c → (∀ p ∈ Led c, p.1 ≠ I) →
      Fr h₀ L h (kstB u (ps c)) → News h₀ L h ((I, o) :: Led c) →
      wpAny (model prog w) A (assign (.Name x px) env v) (fun _ s₂ => wpAny (model prog w) A (execs body env) (FPost h₀ L s G [(I, o)] [I] Led ps (P (i + 1)) Q) (fun _ _ => False) s₂) (fun _ _ => False) { s with heap := h, gens := G c, toks := tk })
    (done : ∀ (c : σ) (u : Str → Option Value) h tk, P n c → Fr h₀ L h (kstB u (ps c)) → News h₀ L h (Led c) →
      wpAny (model prog w) A (execs orelse env) Q (fun _ _ => False) { s with heap := h, gens := G c, toks := tk }) :
    codeAny (model prog w) A (.forLoop (.Name x px) (.ref I) body orelse env) (fun r s' => match r with | .ok f => Q f s' | .error e => cameBackBy (model prog w) A env E e s') s := by
  subst hL
  refine forw G Led ps P c₀ W (fun i v s₁ Q' E' st q => wpAny_pure q) ?_ ?_ ?_ hst hg F N ?_ hk hp ?_ ?_
  · rintro i h st b hb
    rw [List.mem_singleton.mp hb]
    exact hsome i h st
  · intro hm
    exact hIL (List.mem_singleton.mp hm).symm
  · intro b hb
    rw [List.mem_singleton.mp hb]
    exact hI
  · intro p hp hI
    exact hw p hp (List.mem_singleton.mp hI)
  · intro i c v u h tk own hi hPV hP hown hwo hw F₁ N₁
    obtain ⟨o, ho⟩ := hwo _ (List.mem_singleton.mpr rfl)
    have N₂ : News h₀ env.locals h ((I, o) :: Led c) := fun p hp => by
      rcases List.mem_cons.mp hp with rfl | hp
      · exact N₁ _ (List.mem_append.mpr (.inl ho))
      · exact N₁ _ (List.mem_append.mpr (.inr hp))
    refine wpAny_mono (turn i c v u h tk o hi hPV hP (fun p hp e => hw p hp (List.mem_singleton.mpr e)) F₁ N₂) (fun _ s₂ h₂ => wpAny_mono h₂ (fun f s₃ h₃ => ?_) fun _ _ x => x) fun _ _ x => x
    have up : FEnd h₀ env.locals s G [(I, o)] [I] Led ps (P (i + 1)) s₃ → FEnd h₀ env.locals s G own [I] Led ps (P (i + 1)) s₃ := by
      rintro ⟨c', h', tk', m', news', e, F', N', ho', hn', r1, r2, r3⟩
      refine ⟨c', h', tk', m', news', e, F', N', fun p hp => ?_, hn', r1, r2, r3⟩
      have e1 := (N₁ p (List.mem_append.mpr (.inl hp))).1
      have e2 := List.mem_singleton.mp (hown p hp)
      have e3 := (N₂ _ (List.Mem.head _)).1
      rw [← e2, e1] at e3
      have : p = (I, o) := Prod.ext e2 (Option.some.inj e3)
      rw [this]
      exact ho' _ (.head _)
    cases f with
    | ret v => exact h₃
    | brk => exact h₃
    | next => exact up h₃
    | cont => exact up h₃
  · intro c u h tk hP F₁ N₁
    exact wpAny_mono (done c u h tk hP F₁ N₁) (fun f _ x => x) fun _ _ x => x

theorem forr {σ : Type} {Q : Flow → Shared → Prop} {E : Value → Shared → Prop} {x : Str} {px : Pos} {body orelse : List Stmt} {r : Addr} {a₀ b₀ : Int} {t₀ u₀ v₀ : Tok} {n : Nat} {m₀ : Str → Option Value}
    (G : σ → Array GenState) (Led : σ → List (Addr × Obj)) (ps : σ → List (Str × Value)) (P : Nat → σ → Prop) (c₀ : σ)
    (hL : env.locals = L) (hh : A.handled = none) (hr : IsRange s.heap r a₀ b₀ 1 t₀ u₀ v₀) (hsmall : Builtin.Range.small a₀ b₀ 1 = true) (hn : Builtin.Range.rangeSize a₀ b₀ 1 = (n : Int)) (hg : s.gens = G c₀)
    (F : Fr h₀ L s.heap m₀) (N : News h₀ L s.heap (Led c₀)) (hk : ∀ p ∈ ps c₀, m₀ p.1 = some p.2) (hp : P 0 c₀)
    (turn : ∀ (i : Nat) (c : σ) (t : Tok) (u : Str → Option Value) h tk it o, i < n → P i c → (∀ p ∈ Led c, p.1 ≠ it) →
      Fr h₀ L h (kstB u (ps c)) → News h₀ L h ((it, o) :: Led c) →
      wpAny (model prog w) A (assign (.Name x px) env (.int (a₀ + i) t)) (fun _ s₂ => wpAny (model prog w) A (execs body env) (FPost h₀ L s G [(it, o)] [it] Led ps (P (i + 1)) Q) (fun _ _ => False) s₂) (fun _ _ => False) { s with heap := h, gens := G c, toks := tk })
    (done : ∀ (c : σ) (u : Str → Option Value) h tk, P n c → Fr h₀ L h (kstB u (ps c)) → News h₀ L h (Led c) →
      wpAny (model prog w) A (execs orelse env) Q (fun _ _ => False) { s with heap := h, gens := G c, toks := tk }) :
    wpAny (model prog w) A (pyIter (.ref r)) (fun it s₂ => codeAny (model prog w) A (.forLoop (.Name x px) it body orelse env) (fun r s' => match r with | .ok f => Q f s' | .error e => cameBackBy (model prog w) A env E e s') s₂) E s := by
  refine wpAny_pyIter_range hr hsmall ?_
  have W := Walks.range (prog := prog) (w := w) hh s.heap.objs.size a₀ 1 n
  refine for1 G Led ps P c₀ W (fun i h st => ⟨_, st⟩) hL ?_ ?_ (by show IsRangeIter _ _ _ _ _; rw [hn]; simpa using Heap.get?_push_size _ rfl) hg (F.push _) (fun p hp => ⟨Heap.get?_push_of_some _ (N p hp).1, (N p hp).2⟩) ?_ hk hp ?_ done
  · exact fun e => absurd F.ns.lt (e ▸ Nat.lt_irrefl _)
  · exact next_is_new F
  · intro p hp e
    exact absurd (Heap.lt_size (N p hp).1) (e ▸ Nat.lt_irrefl _)
  · rintro i c v u h tk o hi ⟨t, rfl⟩ hP hw F₁ N₁
    have := turn i c t u h tk s.heap.objs.size o hi hP hw F₁ N₁
    rw [Int.mul_one]
    exact this

theorem enter {Q : Value → Shared → Prop} {K : Frag} {p : Program} {loose : List Str} {mean : ExcName → Option Value} {mg mb : Str → Option Value} {dp un : Nat} {gd : Option (List Code)} {cn : Str} {cs : Scope} {a : Addr} {ccd : Value} {cl : List (Str × Addr)} {outer : List Env} {A₀ : Around} {base : Heap} {m : Str → Option Value} {news : List (Addr × Obj)}
    {name qual : Str} {params : Arguments} {body : List Stmt} {scope : Scope} {dV kV doc pm cdv ct oc : Value} {an od : Option Addr} {osl : Array (Option Value)} {f : Addr} {args : List Value} {binds : List (Str × Value)}
    (B : Below A₀ base outer h₀) (F : Fr h₀ L s.heap m) (X : K.In h₀) (N : News h₀ L s.heap news) (T : Top p loose mean mg mb h₀) (hk : cs.kind = .function)
    (ho : K.lookup f = some ⟨oc, od, .func (fnOf name qual params body scope dV kV doc pm an cdv ct), osl⟩) (hcd : codeIn K cdv qual = true) (hroom : dp < recursionLimit)
    (hbind : BindsTo s (fnOf name qual params body scope dV kV doc pm an cdv ct) ⟨args, []⟩ binds) (hloc : ∀ y ∈ binds, scope.names.lookup y.1 = some .local)
    (h : ∀ g L' h₁, Fr h₀ L g m → Fr g L' h₁ (kstB (fun _ => none) binds.reverse) → News g L' h₁ news → Below (ktrTop dp un gd cn cs L a ccd cl outer) base (envX cn cs L a ccd cl :: outer) g → K.In g → Top p loose mean mg mb g → (∀ q ∈ news, q.1 < L') →
      wpAny (model prog w) (ktrTop (dp + 1) (un + 3) gd qual scope L' f cdv [] (envX cn cs L a ccd cl :: outer)) (execs body (envOf qual scope L' f cdv))
        (fun fl s' => LeaveK h₀ L m g (fun r s' => match r with | .ok (.ret v) => Q v s' | .ok _ => False | .error _ => False) (match fl with | .ret v => v | _ => .none) s') (fun _ _ => False)
        { s with heap := h₁, toks := s.toks + binds.length })
    (hco : scope.isCoroutine = false) (hgen : scope.isGenerator = false) (hks : scope.kind = .function) (hcell : ∀ x ∈ scope.names, x.2 ≠ .cell) :
    wpAny (model prog w) (ktrTop dp un gd cn cs L a ccd cl outer) (call (.ref f) args) Q E s := by
  refine wpAny_mono (Q := Q) (E := fun _ _ => False) ?_ (fun _ _ x => x) fun _ _ x => x.elim
  refine wpAny_call ?_
  refine callX_plain (cl := []) B F N T.nolimit rfl rfl hk ((X.keeps F.keep) _ _ ho) rfl (codeRec_of (X.keeps F.keep) hcd) hroom hbind hloc (fun g L' h₁ FG F' N' B' st l => ?_) hcell hco hgen hks
  rw [lookup_kst] at F'
  refine wpAny_mono (h g L' h₁ FG F' N' B' (X.keeps st) (T.keeps st) l) (fun fl s' z => ?_) fun _ _ x => x.elim
  obtain ⟨L2, m2, n2, F2, N2, k⟩ := z
  refine ⟨L2, m2, n2, F2, N2, fun a b => ?_⟩
  exact k a b
end
noncomputable abbrev TP : Program := PySem.Challenge.rw_ti0073_01.row.prog
structure Cx (w : World) (mean : ExcName → Option Value) (mg mb : Str → Option Value) (cs : Scope) (outer : List Env) (A₀ : Around) (base h₀ : Heap) (L : Addr) (m : Str → Option Value) (news : List (Addr × Obj)) (s : Shared) : Prop where
  B : Below A₀ base outer h₀
  F : Fr h₀ L s.heap m
  X : (hd.heap_1 w.params).In h₀
  N : News h₀ L s.heap news
  T : Top Mine.vw looseL mean mg mb h₀
  hk : cs.kind = .function
theorem gk {P : Prop} (h : ∀ G : Prop, (P → G) → G) : P := h P id
theorem up1 {a b n : Nat} (k : Nat) (h : a + k < n) (hk : Nat.ble b k = true) : a + b < n := Nat.lt_of_le_of_lt (Nat.add_le_add_left (Nat.le_of_ble_eq_true hk) a) h
theorem up2 {a b c n : Nat} (k : Nat) (h : a + k < n) (hk : Nat.ble (b + c) k = true) : a + b + c < n := Nat.add_assoc a b c ▸ up1 k h hk
theorem up0 {a n : Nat} (k : Nat) (h : a + k < n) : a < n := Nat.lt_of_le_of_lt (Nat.le_add_right a k) h
end Mine
section Short
namespace Mine
theorem mm0 {α : Type} {a0 : α} {l : List α} : a0 ∈ a0 :: l := .head _
theorem mm1 {α : Type} {a0 a1 : α} {l : List α} : a1 ∈ a0 :: a1 :: l := .tail _ (.head _)
theorem mm2 {α : Type} {a0 a1 a2 : α} {l : List α} : a2 ∈ a0 :: a1 :: a2 :: l := .tail _ (.tail _ (.head _))
theorem mm3 {α : Type} {a0 a1 a2 a3 : α} {l : List α} : a3 ∈ a0 :: a1 :: a2 :: a3 :: l := .tail _ (.tail _ (.tail _ (.head _)))
theorem mm4 {α : Type} {a0 a1 a2 a3 a4 : α} {l : List α} : a4 ∈ a0 :: a1 :: a2 :: a3 :: a4 :: l := .tail _ (.tail _ (.tail _ (.tail _ (.head _))))
theorem mm5 {α : Type} {a0 a1 a2 a3 a4 a5 : α} {l : List α} : a5 ∈ a0 :: a1 :: a2 :: a3 :: a4 :: a5 :: l := .tail _ (.tail _ (.tail _ (.tail _ (.tail _ (.head _)))))
theorem mm6 {α : Type} {a0 a1 a2 a3 a4 a5 a6 : α} {l : List α} : a6 ∈ a0 :: a1 :: a2 :: a3 :: a4 :: a5 :: a6 :: l := .tail _ (.tail _ (.tail _ (.tail _ (.tail _ (.tail _ (.head _))))))
theorem mm7 {α : Type} {a0 a1 a2 a3 a4 a5 a6 a7 : α} {l : List α} : a7 ∈ a0 :: a1 :: a2 :: a3 :: a4 :: a5 :: a6 :: a7 :: l := .tail _ (.tail _ (.tail _ (.tail _ (.tail _ (.tail _ (.tail _ (.head _)))))))
theorem mm8 {α : Type} {a0 a1 a2 a3 a4 a5 a6 a7 a8 : α} {l : List α} : a8 ∈ a0 :: a1 :: a2 :: a3 :: a4 :: a5 :: a6 :: a7 :: a8 :: l := .tail _ (.tail _ (.tail _ (.tail _ (.tail _ (.tail _ (.tail _ (.tail _ (.head _))))))))
theorem mm9 {α : Type} {a0 a1 a2 a3 a4 a5 a6 a7 a8 a9 : α} {l : List α} : a9 ∈ a0 :: a1 :: a2 :: a3 :: a4 :: a5 :: a6 :: a7 :: a8 :: a9 :: l := .tail _ (.tail _ (.tail _ (.tail _ (.tail _ (.tail _ (.tail _ (.tail _ (.tail _ (.head _)))))))))
theorem mm10 {α : Type} {a0 a1 a2 a3 a4 a5 a6 a7 a8 a9 a10 : α} {l : List α} : a10 ∈ a0 :: a1 :: a2 :: a3 :: a4 :: a5 :: a6 :: a7 :: a8 :: a9 :: a10 :: l := .tail _ (.tail _ (.tail _ (.tail _ (.tail _ (.tail _ (.tail _ (.tail _ (.tail _ (.tail _ (.head _))))))))))
theorem mm11 {α : Type} {a0 a1 a2 a3 a4 a5 a6 a7 a8 a9 a10 a11 : α} {l : List α} : a11 ∈ a0 :: a1 :: a2 :: a3 :: a4 :: a5 :: a6 :: a7 :: a8 :: a9 :: a10 :: a11 :: l := .tail _ (.tail _ (.tail _ (.tail _ (.tail _ (.tail _ (.tail _ (.tail _ (.tail _ (.tail _ (.tail _ (.head _)))))))))))
theorem mm12 {α : Type} {a0 a1 a2 a3 a4 a5 a6 a7 a8 a9 a10 a11 a12 : α} {l : List α} : a12 ∈ a0 :: a1 :: a2 :: a3 :: a4 :: a5 :: a6 :: a7 :: a8 :: a9 :: a10 :: a11 :: a12 :: l := .tail _ (.tail _ (.tail _ (.tail _ (.tail _ (.tail _ (.tail _ (.tail _ (.tail _ (.tail _ (.tail _ (.tail _ (.head _))))))))))))
theorem ain0 {α : Type} {L : List α} : ∀ p ∈ ([] : List α), p ∈ L := fun _ h => nomatch h
theorem ain1 {α : Type} {L l : List α} {a : α} (h : a ∈ L) (t : ∀ p ∈ l, p ∈ L) : ∀ p ∈ a :: l, p ∈ L := List.forall_mem_cons.mpr ⟨h, t⟩
theorem ainA {α : Type} {L l k : List α} (h : ∀ p ∈ l, p ∈ L) (t : ∀ p ∈ k, p ∈ L) : ∀ p ∈ l ++ k, p ∈ L := List.forall_mem_append.mpr ⟨h, t⟩
theorem tl0 {α : Type} {l : List α} : ∀ p ∈ l, p ∈ l := fun _ h => h
theorem tl1 {α : Type} {L l : List α} {a : α} (h : ∀ p ∈ l, p ∈ L) : ∀ p ∈ l, p ∈ a :: L := fun p k => .tail _ (h p k)
theorem tlR {α : Type} {L K l : List α} (h : ∀ p ∈ l, p ∈ L) : ∀ p ∈ l, p ∈ K ++ L := fun p k => List.mem_append_right _ (h p k)
theorem tlL {α : Type} {L K l : List α} (h : ∀ p ∈ l, p ∈ L) : ∀ p ∈ l, p ∈ L ++ K := fun p k => List.mem_append_left _ (h p k)
theorem fmc {α : Type} {p : α → Prop} {a : α} {l : List α} (h : p a) (t : ∀ x ∈ l, p x) : ∀ x ∈ a :: l, p x := List.forall_mem_cons.mpr ⟨h, t⟩
theorem ks0 {m : Str → Option Value} : ∀ p ∈ ([] : List (Str × Value)), m p.1 = some p.2 := fun _ h => nomatch h
theorem ks1 {m : Str → Option Value} {a : Str} {b : Value} {l : List (Str × Value)} (h : m a = some b) (t : ∀ p ∈ l, m p.1 = some p.2) : ∀ p ∈ (a, b) :: l, m p.1 = some p.2 := List.forall_mem_cons.mpr ⟨h, t⟩
end Mine
end Short
section Tup
namespace Mine
theorem pooxxcxc {A0 A1 A2 : Type} {p : ((A0 × A1) × A2) → Prop} (h : ∀ a0 a1 a2, p ((a0, a1), a2)) : ∀ x, p x := fun x => h x.1.1 x.1.2 x.2
theorem pooxxxcoxxcxxxxc {A0 A1 A2 A3 A4 A5 A6 A7 A8 : Type} {p : ((A0 × A1 × A2) × (A3 × A4) × A5 × A6 × A7 × A8) → Prop} (h : ∀ a0 a1 a2 a3 a4 a5 a6 a7 a8, p ((a0, a1, a2), (a3, a4), a5, a6, a7, a8)) : ∀ x, p x := fun x => h x.1.1 x.1.2.1 x.1.2.2 x.2.1.1 x.2.1.2 x.2.2.1 x.2.2.2.1 x.2.2.2.2.1 x.2.2.2.2.2
theorem poxxc {A0 A1 : Type} {p : (A0 × A1) → Prop} (h : ∀ a0 a1, p (a0, a1)) : ∀ x, p x := fun x => h x.1 x.2
theorem poxxxc {A0 A1 A2 : Type} {p : (A0 × A1 × A2) → Prop} (h : ∀ a0 a1 a2, p (a0, a1, a2)) : ∀ x, p x := fun x => h x.1 x.2.1 x.2.2
theorem poxxxxc {A0 A1 A2 A3 : Type} {p : (A0 × A1 × A2 × A3) → Prop} (h : ∀ a0 a1 a2 a3, p (a0, a1, a2, a3)) : ∀ x, p x := fun x => h x.1 x.2.1 x.2.2.1 x.2.2.2
theorem poxxxxxc {A0 A1 A2 A3 A4 : Type} {p : (A0 × A1 × A2 × A3 × A4) → Prop} (h : ∀ a0 a1 a2 a3 a4, p (a0, a1, a2, a3, a4)) : ∀ x, p x := fun x => h x.1 x.2.1 x.2.2.1 x.2.2.2.1 x.2.2.2.2
theorem poxxxxxxc {A0 A1 A2 A3 A4 A5 : Type} {p : (A0 × A1 × A2 × A3 × A4 × A5) → Prop} (h : ∀ a0 a1 a2 a3 a4 a5, p (a0, a1, a2, a3, a4, a5)) : ∀ x, p x := fun x => h x.1 x.2.1 x.2.2.1 x.2.2.2.1 x.2.2.2.2.1 x.2.2.2.2.2
theorem poxxxxxxxc {A0 A1 A2 A3 A4 A5 A6 : Type} {p : (A0 × A1 × A2 × A3 × A4 × A5 × A6) → Prop} (h : ∀ a0 a1 a2 a3 a4 a5 a6, p (a0, a1, a2, a3, a4, a5, a6)) : ∀ x, p x := fun x => h x.1 x.2.1 x.2.2.1 x.2.2.2.1 x.2.2.2.2.1 x.2.2.2.2.2.1 x.2.2.2.2.2.2
theorem poxxxxxxxxxxc {A0 A1 A2 A3 A4 A5 A6 A7 A8 A9 : Type} {p : (A0 × A1 × A2 × A3 × A4 × A5 × A6 × A7 × A8 × A9) → Prop} (h : ∀ a0 a1 a2 a3 a4 a5 a6 a7 a8 a9, p (a0, a1, a2, a3, a4, a5, a6, a7, a8, a9)) : ∀ x, p x := fun x => h x.1 x.2.1 x.2.2.1 x.2.2.2.1 x.2.2.2.2.1 x.2.2.2.2.2.1 x.2.2.2.2.2.2.1 x.2.2.2.2.2.2.2.1 x.2.2.2.2.2.2.2.2.1 x.2.2.2.2.2.2.2.2.2
theorem poxxxxxxxxxxxxxc {A0 A1 A2 A3 A4 A5 A6 A7 A8 A9 A10 A11 A12 : Type} {p : (A0 × A1 × A2 × A3 × A4 × A5 × A6 × A7 × A8 × A9 × A10 × A11 × A12) → Prop} (h : ∀ a0 a1 a2 a3 a4 a5 a6 a7 a8 a9 a10 a11 a12, p (a0, a1, a2, a3, a4, a5, a6, a7, a8, a9, a10, a11, a12)) : ∀ x, p x := fun x => h x.1 x.2.1 x.2.2.1 x.2.2.2.1 x.2.2.2.2.1 x.2.2.2.2.2.1 x.2.2.2.2.2.2.1 x.2.2.2.2.2.2.2.1 x.2.2.2.2.2.2.2.2.1 x.2.2.2.2.2.2.2.2.2.1 x.2.2.2.2.2.2.2.2.2.2.1 x.2.2.2.2.2.2.2.2.2.2.2.1 x.2.2.2.2.2.2.2.2.2.2.2.2
end Mine
end Tup
section Ar
namespace Mine
theorem lt4c {b : Nat} (h : b < 4) : b = 0 ∨ b = 1 ∨ b = 2 ∨ b = 3 := by omega
theorem ar1 {a b : Nat} (h : a ≤ b) : a + (b - a) = b := Nat.add_sub_of_le h
theorem ar2 {a n : Nat} (h : a < n) : n - (a + 1) < n - a := Nat.sub_lt_sub_left h (Nat.lt_succ_self a)
theorem ar3 {a b n : Nat} (h : a < n) (k : a + 1 ≤ b) : n - b < n - a := Nat.sub_lt_sub_left h k
theorem ar4 {a b k : Nat} (h : a ≤ k) (h2 : b < a) : k - 1 < k := Nat.sub_lt (Nat.lt_of_lt_of_le (Nat.zero_lt_of_lt h2) h) Nat.one_pos
theorem ar5 {a b : Nat} (h : a ≤ b) : b + 1 - a = b - a + 1 := Nat.sub_add_comm h
theorem ar6 {a n x : Nat} (h : a < n) : min x (n - (a + 1)) < n := Nat.lt_of_le_of_lt (Nat.min_le_right _ _) (Nat.sub_lt (Nat.zero_lt_of_lt h) (Nat.succ_pos a))
theorem ar7 {a n c : Nat} (h : ¬ a < n) : n - c ≤ a - c := Nat.sub_le_sub_right (Nat.not_lt.mp h) c
theorem ar8 {u n c m L : Nat} (h : u + 8 * n + c < L) (k : m < n) : u + 3 + 8 * m + c < L := Nat.lt_of_le_of_lt (Nat.add_le_add_right (Nat.add_assoc u 3 (8 * m) ▸ Nat.add_le_add_left (Nat.le_trans (Nat.add_comm 3 (8 * m) ▸ Nat.add_le_add_left (by decide : 3 ≤ 8) (8 * m)) (Nat.mul_le_mul_left 8 k)) u) c) h
theorem ar8b {u n c m L : Nat} (h : u + 8 * n + c < L) (k : m + 1 ≤ n) : u + 3 + 8 * m + c < L := ar8 h k
theorem ar9 {u n c m L : Nat} (h : u + n + c < L) (k : m < n) : u + 1 + m + c < L := Nat.lt_of_le_of_lt (Nat.add_le_add_right (Nat.add_assoc u 1 m ▸ Nat.add_le_add_left (Nat.add_comm 1 m ▸ k) u) c) h
theorem ar9b {u n c m L : Nat} (h : u + n + c < L) (k : m + 1 ≤ n) : u + 1 + m + c < L := ar9 h k
theorem ar10 {u x c a b L : Nat} (h : u + x + c < L) (k : Nat.ble (a + b) c = true) : u + a + b < L := Nat.lt_of_le_of_lt (Nat.add_assoc u a b ▸ Nat.le_trans (Nat.add_le_add_left (Nat.le_of_ble_eq_true k) u) (Nat.add_le_add_right (Nat.le_add_right u x) c)) h
theorem ar11 {n k m : Nat} (h : n ≤ k) (h2 : m < n) : m ≤ k - 1 := Nat.le_sub_one_of_lt (Nat.lt_of_lt_of_le h2 h)
theorem ar11b {n k m : Nat} (h : n ≤ k) (h2 : m + 1 ≤ n) : m ≤ k - 1 := ar11 h h2
theorem ar12 {u x c L : Nat} (h : u + x + c < L) : u < L := Nat.lt_of_le_of_lt (Nat.le_trans (Nat.le_add_right u x) (Nat.le_add_right _ c)) h
theorem ar13 {a b k : Nat} (h : a ≤ k) (h2 : b + 1 ≤ a) : k - 1 < k := Nat.sub_lt (Nat.lt_of_lt_of_le (Nat.succ_pos b) (Nat.le_trans h2 h)) Nat.one_pos
theorem ar14 {a n c : Nat} (h : a < n) (h2 : n ≤ c) (k : Nat.ble c 9223372036854775808 = true) : (a : Int) < 2 ^ 63 := (show ((9223372036854775808 : Nat) : Int) = 2 ^ 63 by decide) ▸ Int.ofNat_lt.mpr (Nat.lt_of_lt_of_le h (Nat.le_trans h2 (Nat.le_of_ble_eq_true k)))
theorem ar15 {n c m : Nat} (h : n ≤ c) (h2 : m < n) : m ≤ c := Nat.le_trans (Nat.le_of_lt h2) h
theorem ar16 {d n p f z : Nat} (h : d = n - p) (h2 : d ≤ f + 1) (h3 : 1 ≤ z) : n - (p + z) ≤ f := by subst h; rw [Nat.sub_add_eq]; exact Nat.le_trans (Nat.sub_le_sub_left h3 _) (Nat.sub_le_of_le_add h2)
theorem ar17 {d n p f : Nat} (h : d = n - p) (h2 : d ≤ f + 1) : n - (p + 1) ≤ f := ar16 h h2 (Nat.le_refl 1)
theorem ar18 {n p c d : Nat} (h : n ≤ c) (h2 : p < n) (k : Nat.ble c d = true) : d - (p + 1) < d - p := Nat.sub_lt_sub_left (Nat.lt_of_lt_of_le h2 (Nat.le_trans h (Nat.le_of_ble_eq_true k))) (Nat.lt_succ_self p)
theorem ar19 {n p c d z : Nat} (h : n ≤ c) (h2 : p < n) (h3 : 1 ≤ z) (k : Nat.ble c d = true) : d - (p + z) < d - p := Nat.sub_lt_sub_left (Nat.lt_of_lt_of_le h2 (Nat.le_trans h (Nat.le_of_ble_eq_true k))) (Nat.lt_add_of_pos_right h3)
theorem ar20 {d f p n : Nat} (h : d ≤ f) (h2 : p < n) (h3 : d = n - p) : f = f - 1 + 1 := (Nat.sub_add_cancel (Nat.le_trans (h3 ▸ Nat.sub_pos_of_lt h2) h)).symm
theorem ar21 {u x c a L : Nat} (h : u + x + c < L) (k : Nat.ble a c = true) : u + a < L := Nat.lt_of_le_of_lt (Nat.add_le_add (Nat.le_add_right u x) (Nat.le_of_ble_eq_true k)) h
end Mine
end Ar
section Elim
namespace Mine
theorem cj_2 {P0 P1 G : Prop} (h : P0 ∧ P1) (g : P0 → P1 → G) : G := g h.1 h.2
theorem cj_3 {P0 P1 P2 G : Prop} (h : P0 ∧ P1 ∧ P2) (g : P0 → P1 → P2 → G) : G := g h.1 h.2.1 h.2.2
theorem cj_4 {P0 P1 P2 P3 G : Prop} (h : P0 ∧ P1 ∧ P2 ∧ P3) (g : P0 → P1 → P2 → P3 → G) : G := g h.1 h.2.1 h.2.2.1 h.2.2.2
theorem cj_5 {P0 P1 P2 P3 P4 G : Prop} (h : P0 ∧ P1 ∧ P2 ∧ P3 ∧ P4) (g : P0 → P1 → P2 → P3 → P4 → G) : G := g h.1 h.2.1 h.2.2.1 h.2.2.2.1 h.2.2.2.2
theorem cj_6 {P0 P1 P2 P3 P4 P5 G : Prop} (h : P0 ∧ P1 ∧ P2 ∧ P3 ∧ P4 ∧ P5) (g : P0 → P1 → P2 → P3 → P4 → P5 → G) : G := g h.1 h.2.1 h.2.2.1 h.2.2.2.1 h.2.2.2.2.1 h.2.2.2.2.2
theorem cj_7 {P0 P1 P2 P3 P4 P5 P6 G : Prop} (h : P0 ∧ P1 ∧ P2 ∧ P3 ∧ P4 ∧ P5 ∧ P6) (g : P0 → P1 → P2 → P3 → P4 → P5 → P6 → G) : G := g h.1 h.2.1 h.2.2.1 h.2.2.2.1 h.2.2.2.2.1 h.2.2.2.2.2.1 h.2.2.2.2.2.2
theorem cj_9 {P0 P1 P2 P3 P4 P5 P6 P7 P8 G : Prop} (h : P0 ∧ P1 ∧ P2 ∧ P3 ∧ P4 ∧ P5 ∧ P6 ∧ P7 ∧ P8) (g : P0 → P1 → P2 → P3 → P4 → P5 → P6 → P7 → P8 → G) : G := g h.1 h.2.1 h.2.2.1 h.2.2.2.1 h.2.2.2.2.1 h.2.2.2.2.2.1 h.2.2.2.2.2.2.1 h.2.2.2.2.2.2.2.1 h.2.2.2.2.2.2.2.2
theorem ex_2 {a0 a1 : Type} {P : a0 → a1 → Prop} {G : Prop} (h : ∃ x0 x1, P x0 x1) (g : ∀ x0 x1, P x0 x1 → G) : G := by
  obtain ⟨x0, x1, p⟩ := h
  exact g x0 x1 p
theorem ex_3 {a0 a1 a2 : Type} {P : a0 → a1 → a2 → Prop} {G : Prop} (h : ∃ x0 x1 x2, P x0 x1 x2) (g : ∀ x0 x1 x2, P x0 x1 x2 → G) : G := by
  obtain ⟨x0, x1, x2, p⟩ := h
  exact g x0 x1 x2 p
theorem ex_4 {a0 a1 a2 a3 : Type} {P : a0 → a1 → a2 → a3 → Prop} {G : Prop} (h : ∃ x0 x1 x2 x3, P x0 x1 x2 x3) (g : ∀ x0 x1 x2 x3, P x0 x1 x2 x3 → G) : G := by
  obtain ⟨x0, x1, x2, x3, p⟩ := h
  exact g x0 x1 x2 x3 p
theorem ex_10 {a0 a1 a2 a3 a4 a5 a6 a7 a8 a9 : Type} {P : a0 → a1 → a2 → a3 → a4 → a5 → a6 → a7 → a8 → a9 → Prop} {G : Prop} (h : ∃ x0 x1 x2 x3 x4 x5 x6 x7 x8 x9, P x0 x1 x2 x3 x4 x5 x6 x7 x8 x9) (g : ∀ x0 x1 x2 x3 x4 x5 x6 x7 x8 x9, P x0 x1 x2 x3 x4 x5 x6 x7 x8 x9 → G) : G := by
  obtain ⟨x0, x1, x2, x3, x4, x5, x6, x7, x8, x9, p⟩ := h
  exact g x0 x1 x2 x3 x4 x5 x6 x7 x8 x9 p
end Mine
end Elim
end TLib

open PySem PySem.W PyProof.Rows PySem.Spec PySem.Calls
set_option Elab.async false
set_option maxRecDepth 100000
set_option maxHeartbeats 4000000
set_option linter.unusedVariables false
set_option linter.unusedSimpArgs false
local macro_rules | `(tactic| kst_p2) => `(tactic| first | (with_reducible first | assumption | exact Nat.ne_of_gt (by assumption) | exact Nat.ne_of_lt (by assumption) | exact Nat.not_lt.mp (by assumption) | exact Nat.not_le.mp (by assumption) | exact Nat.le_of_lt (by assumption) | exact Nat.le_of_lt_succ (by assumption) | exact Nat.lt_succ_of_le (by assumption) | exact Nat.lt_succ_self _ | exact Nat.le_succ _ | exact Nat.le_refl _ | exact Nat.zero_le _ | exact Nat.succ_pos _ | exact Int.natCast_nonneg _ | exact Ne.symm (by assumption) | exact Mine.up0 _ (by assumption) | exact Mine.up1 _ (by assumption) rfl | exact Mine.up2 _ (by assumption) rfl | exact Mine.ar1 (by assumption) | exact Mine.ar2 (by assumption) | exact Mine.ar3 (by assumption) (by assumption) | exact Mine.ar4 (by assumption) (by assumption) | exact Mine.ar5 (by assumption) | exact Mine.ar6 (by assumption) | exact Mine.ar7 (by assumption) | exact Mine.ar8 (by assumption) (by assumption) | exact Mine.ar8b (by assumption) (by assumption) | exact Mine.ar9 (by assumption) (by assumption) | exact Mine.ar9b (by assumption) (by assumption) | exact Mine.ar10 (by assumption) rfl | exact Mine.ar21 (by assumption) rfl | exact Mine.ar11 (by assumption) (by assumption) | exact Mine.ar11b (by assumption) (by assumption) | exact Mine.ar12 (by assumption) | exact Mine.ar13 (by assumption) (by assumption) | exact Mine.ar14 (by assumption) (by assumption) rfl | exact Mine.ar15 (by assumption) (by assumption) | exact Mine.ar16 (by assumption) (by assumption) (by assumption) | exact Mine.ar17 (by assumption) (by assumption) | exact Mine.ar18 (by assumption) (by assumption) rfl | exact Mine.ar19 (by assumption) (by assumption) (by assumption) rfl | exact Mine.ar20 (by assumption) (by assumption) (by assumption) | exact Nat.le_trans (by assumption) (by decide) | exact Nat.lt_of_lt_of_le (by assumption) (by decide) | exact Nat.lt_of_le_of_lt (by assumption) (by decide)) | decide | lia | omega)
local macro_rules | `(tactic| kla_enter) => `(tactic| (first | ((fail_if_success (fail_if_success k_unfold)); (try dsimp only); (with_reducible refine (?_ : PySem.wpAny _ _ _ _ _ _)); (try dsimp only)) | (k_unfold; (try dsimp only)) | (k_end; wrow_close) | ((with_reducible show wpAny _ _ (exec _ _) _ _ _); (fail_if_success (fail_if_success k_fold)); refine (let $(Lean.mkIdent `qk) : PySem.Flow → PySem.Shared → Prop := _; let $(Lean.mkIdent `ek) : PySem.Value → PySem.Shared → Prop := _; (?_ : PySem.wpAny _ _ _ $(Lean.mkIdent `qk) $(Lean.mkIdent `ek) _))) | ((with_reducible first | show wpAny _ _ (eval (Expr.Call _ _ _ _) _) _ _ _); (fail_if_success (fail_if_success k_fold)); refine (let $(Lean.mkIdent `qk) : PySem.Value → PySem.Shared → Prop := _; let $(Lean.mkIdent `ek) : PySem.Value → PySem.Shared → Prop := _; (?_ : PySem.wpAny _ _ _ $(Lean.mkIdent `qk) $(Lean.mkIdent `ek) _))) | walk1 | (dsimp only; walk1) | (leave1; walk_say "STEP leave1"; try dsimp only) | fail "no step"))
local macro_rules | `(tactic| walk_at "WPost") => `(tactic| (dsimp only [Mine.WPost]))
local macro_rules | `(tactic| walk_at "FPost") => `(tactic| (dsimp only [Mine.FPost]))
local macro_rules | `(tactic| k_memK) => `(tactic| (with_reducible refine List.mem_append_right _ ?_; k_memK))
local macro_rules | `(tactic| kst_all1) => `(tactic| first | exact Mine.ks0 | (refine Mine.ks1 (by with_unfolding_all rfl) ?_; kst_all1))
local macro_rules | `(tactic| k_ownIn) => `(tactic| first | (with_reducible exact Mine.tl0) | (with_reducible refine Mine.tl1 ?_; k_ownIn) | (with_reducible refine Mine.tlR ?_; k_ownIn) | (with_reducible refine Mine.tlL ?_; k_ownIn) | (intro p9 hp9; repeat (first | exact hp9 | refine List.mem_cons_of_mem _ ?_ | refine List.mem_append_right _ ?_); done))
local macro_rules | `(tactic| kst_allIn) => `(tactic| first | (with_reducible exact Mine.ain0) | ((with_reducible refine Mine.ain1 ?_ ?_); (focus first | (with_reducible first | exact Mine.mm0 | exact Mine.mm1 | exact Mine.mm2 | exact Mine.mm3 | exact Mine.mm4 | exact Mine.mm5 | exact Mine.mm6 | exact Mine.mm7 | exact Mine.mm8 | exact Mine.mm9 | exact Mine.mm10 | exact Mine.mm11 | exact Mine.mm12 | assumption) | (with_reducible k_mem) | (simp only [List.mem_append, List.mem_cons, eq_self, true_or, or_true]; done)); kst_allIn) | (with_reducible refine Mine.ainA ?_ ?_ <;> kst_allIn) | (dsimp only; kst_allIn) | (k_ownIn; done) | (intro p9 h9; simp only [List.mem_append, List.mem_cons, h9, true_or, or_true]; done))
local macro_rules | `(tactic| walk_at "call builtin:len") => `(tactic| (k_here; (with_reducible show wpAny _ _ (call (Value.builtin "len") [Value.ref _]) _ _ _); k_dflt (refine' Mine.my_len ?k1 ?k2 ?k3 ?_; (case k1 => k_asm); (case k2 => k_mem); (case k3 => (first | lia | omega)))))
local macro_rules | `(tactic| walk_at "subscriptTail") => `(tactic| (k_here; (with_reducible show wpAny _ _ (subscriptTail _ _ (Value.ref _) (Value.int _ _)) _ _ _); k_dflt (refine' Mine.my_item ?k1 ?k2 ?k3 ?k4 ?k5 ?_ ?k6 ?k7; (case k1 => k_asm); (case k2 => k_mem); (case k3 => (first | lia | omega)); (case k4 => assumption); (case k5 => (first | lia | omega)); (case k6 => with_unfolding_all rfl); (case k7 => (intro _; with_unfolding_all rfl)))))
local macro_rules | `(tactic| is_list) => `(tactic| exact News.isList (by k_asm) (by k_mem))
local macro_rules | `(tactic| k_all) => `(tactic| (refine' Mine.fmc ?a ?b; (case a => k_ne); (case b => k_all)))
local macro_rules | `(tactic| k_all) => `(tactic| (intro p9 hp9; refine neN ?_; (repeat ((first | (rename AllLt _ _ => hz9; (try have hh9 := ltN (kst_ltOf hz9 p9 hp9))) | (rename ∀ q : PySem.Addr × PySem.Obj, q ∈ _ → q.1 < _ => hz9; (try have hh9 := ltN (hz9 p9 hp9)))); clear hz9)); (first | lia | omega)))
local macro_rules | `(tactic| k_mem) => `(tactic| first | ktr_member | exact List.Mem.head _ | (with_reducible refine List.mem_cons_of_mem _ ?_; k_mem) | (with_reducible refine List.mem_append_right _ ?_; k_mem) | (with_reducible refine List.mem_append_left _ ?_; k_mem))

section TGhost
open PySem PySem.W PyProof.Rows PySem.Spec PySem.Calls
set_option Elab.async false
set_option maxRecDepth 100000
set_option maxHeartbeats 4000000
set_option linter.unusedVariables false
namespace Mine
theorem gh_own : ownsOf Mine.vw = [] := by kernel_rfl
theorem gh_tab (P : Params) : ((recsOf Mine.vw).all fun d => match tabIn (hd.heap_1 P) d.name with | some (_, Q) => Q != 140 && Q != 147 | none => false) = true := by kernel_rfl
theorem gh_no (P : Params) : noTabs (hd.heap_1 P) = true := by kernel_rfl
noncomputable abbrev tabs2 : List (Addr × Addr) := [(144, 140), (151, 147)]
section
variable {h₁ : Heap} {mg mb : Str → Option Value} {mean : ExcName → Option Value}
theorem gh_tabs {P : Params} (X : (hd.heap_1 P).In h₁) (hY : ∀ Q ∈ ([140, 147] : List Addr), h₁.get? Q = some (tabObj #[])) : TabsAt tabs2 h₁ :=
  Mine.fmc (⟨codeHd_of_K (c := 144) (P := 140) X (by kernel_rfl), hY 140 (.head _)⟩) (Mine.fmc (⟨codeHd_of_K (c := 151) (P := 147) X (by kernel_rfl), hY 147 (.tail _ (.head _))⟩) (fun _ h => nomatch h))
theorem gh_codeRec {tabs : List (Addr × Addr)} {cd : Value} {q : Str} (hT : TabsAt tabs h₁) (x : h₁.CodeRec cd q) : (ghostOf h₁ tabs).CodeRec cd q := by
  refine Mine.gk ?_
  intro Gz9 kz9
  obtain ⟨c, o, vs, t, e, g, hd, h1⟩ := x
  refine kz9 ?_
  (try clear kz9 Gz9)
  exact ⟨c, o, vs, t, e, ghost_get hT g (fun e => by subst e; cases hd; simp at h1), hd, h1⟩
theorem gh_top {P : Params} {loose : List Str} (hT : TabsAt tabs2 h₁) (X : (hd.heap_1 P).In h₁) (T : Top Mine.vw loose mean mg mb h₁) : Top Mine.vw loose mean mg mb (ghostOf h₁ tabs2) where
  g := ghost_ns hT T.g
  b := ghost_ns hT T.b
  nolimit := let ⟨mc, a, r⟩ := T.nolimit; ⟨mc, ghost_ns hT a, r⟩
  nodigits := let ⟨mc, a, r⟩ := T.nodigits; ⟨mc, ghost_ns hT a, r⟩
  fn := fun d hd => by
    refine Mine.gk ?_
    intro Gz9 kz9
    obtain ⟨a, o, pm, code, doc, h1, h2, h3, h4⟩ := T.fn d hd
    refine kz9 ?_
    (try clear kz9 Gz9)
    exact ⟨a, o, pm, code, doc, h1, ghost_get hT h2 (fun e => by subst e; cases h3), h3, gh_codeRec hT h4⟩
  own := fun o ho => by rw [gh_own] at ho; cases ho
  const := T.const
  free := T.free
  builtins := T.builtins
  tab := fun d hd9 => by
    have h9 := List.all_eq_true.mp (gh_tab P) d hd9
    refine Mine.gk ?_
    intro Gz9 kz9
    obtain ⟨a, o, fd, c, Q, h1, h2, h3, h4, h5, h6⟩ := T.tab d hd9
    refine kz9 ?_
    (try clear kz9 Gz9)
    have hQ : Q ∉ ([140, 147] : List Addr) := by
      cases ht : tabIn (_root_.hd.heap_1 P) d.name with
      | none => rw [ht] at h9; cases h9
      | some q =>
        obtain ⟨c2, Q2⟩ := q
        rw [ht] at h9
        have e9 : Q = Q2 := by
          have h6' := h6
          refine Mine.gk ?_
          intro Gz9 kz9
          obtain ⟨⟨oc, vs, g1, g2, g3, g4⟩, g5⟩ := h6'
          refine kz9 ?_
          (try clear kz9 Gz9)
          unfold tabIn at ht
          split at ht
          · rename_i f hf
            have e1 := mg_of X T.g hf
            rw [h1] at e1
            cases e1
            split at ht
            · rename_i hfo
              have e2 := X _ _ hfo
              rw [h2] at e2
              cases e2
              cases h3
              split at ht
              · rename_i c₂ hc
                rw [h4] at hc
                cases hc
                split at ht
                · rename_i hco
                  have e3 := X _ _ hco
                  rw [e3] at g1
                  cases g1
                  cases g3
                  split at ht
                  · rename_i P₂ hv
                    rw [g4] at hv
                    cases hv
                    cases ht
                    rfl
                  · cases ht
                · cases ht
              · cases ht
            · cases ht
          · cases ht
        subst e9
        simp only [Bool.and_eq_true, bne_iff_ne, ne_eq] at h9
        intro hm
        simp only [List.mem_cons, List.not_mem_nil, or_false] at hm
        rcases hm with e | e
        · exact h9.1 e
        · exact h9.2 e
    have hQ' : Q ∉ tabs2.map (·.2) := hQ
    refine Mine.gk ?_
    intro Gz9 kz9
    obtain ⟨⟨oc, vs, g1, g2, g3, g4⟩, g5⟩ := h6
    refine kz9 ?_
    (try clear kz9 Gz9)
    have hc : (ghostOf h₁ tabs2).get? c = some oc := ghost_get hT g1 (fun e => by subst e; cases g2)
    refine Mine.gk ?_
    intro Gz9 kz9
    obtain ⟨o', vs', file, tf, flags, tg, inF, text, tt, op, k1, k2, k3, k4, k5, k6, k7, k8, k9, k10, k11⟩ := h5
    refine kz9 ?_
    (try clear kz9 Gz9)
    refine ⟨a, o, fd, c, Q, h1, ghost_get hT h2 (fun e => by subst e; cases h3), h3, h4, ⟨o', vs', file, tf, flags, tg, inF, text, tt, op, ?_, k2, k3, k4, k5, k6, k7, ghost_ne k8 hQ', k9, k10, k11⟩, ⟨⟨oc, vs, hc, g2, g3, g4⟩, ghost_ne g5 hQ'⟩⟩
    rw [k1] at g1
    cases g1
    exact hc
  bmain := let ⟨bm, ob, a1, a2, a3, a4, r⟩ := T.bmain; ⟨bm, ob, a1, a2, ghost_get hT a3 (fun q => by rw [q] at a4; cases a4), a4, r⟩
  seer := fun hi =>
    let x := T.seer hi
    { statics := let ⟨mc, a, b⟩ := x.statics; ⟨mc, ghost_ns hT a, b⟩
      mods := let ⟨mc, a, b⟩ := x.mods; ⟨mc, ghost_ns hT a, b⟩
      imp := let ⟨mc, a, b⟩ := x.imp; ⟨mc, ghost_ns hT a, b⟩
      main := let ⟨mg, bm, ob, a, b, c, d, e⟩ := x.main; ⟨mg, bm, ob, ghost_ns hT a, b, ghost_get hT c (fun q => by rw [q] at d; cases d), d, e⟩ }
theorem gh_post {M : Model} {A : Around} {cd : Code} {s s₁ : Shared} {cw : ClaimW} {cl : Str → Option Addr} {mean : ExcName → Option Value} {args : List WData} {tabs : List (Addr × Addr)} (hT : TabsAt tabs s₁.heap) (hr : ∀ a x, cw.raises a x = false) (hp : cw.post args (.bool true) args = true)
    (h : codeAny M A cd (fun r s' => r = .ok (.ret (.bool true)) ∧ (∀ b o, (ghostOf s₁.heap tabs).get? b = some o → s'.heap.get? b = some o) ∧ s'.os = s₁.os ∧ AllBare s'.gens ∧ GrownAll tabs s'.heap) s) : codeAny M A cd (GoodWG cw cl mean args s₁) s :=
  codeAny_mono h fun r s' ⟨hc, hk, hos, hg, hgr⟩ => by
    have keep : ∀ b o, b ∉ tabs.map (·.2) → s₁.heap.get? b = some o → s'.heap.get? b = some o := fun b o hb e => hk b o (ghost_ne e hb)
    have grown : ∀ b o, b ∈ tabs.map (·.2) → s₁.heap.get? b = some o → isCodeTable s₁.heap b ∧ o = tabObj #[] ∧ ∃ ps, s'.heap.get? b = some (tabObj ps) := fun b o hb e => by
      obtain ⟨q, hq, rfl⟩ := List.mem_map.mp hb
      have e2 := (hT q hq).2
      rw [e] at e2
      exact ⟨((hT q hq).1.tab (hT q hq).2).isCodeTable, Option.some.inj e2, hgr.get q hq⟩
    refine ⟨.inl ⟨.bool true, .bool true, [], hc, fun _ => hr _ _, .bool true, hp, fun _ => ⟨List.nodup_nil, fun a ha => nomatch ha⟩⟩, ⟨fun b o e => ?_, fun b o e => ?_⟩, hos, hg⟩
    · by_cases hb : b ∈ tabs.map (·.2)
      · refine Mine.gk ?_
        intro Gz9 kz9
        obtain ⟨ht, rfl, ps, hP⟩ := grown b o hb e
        refine kz9 ?_
        (try clear kz9 Gz9)
        exact .inr (.inl ⟨ht, rfl, #[], ps, rfl, by rw [Array.empty_append]; exact hP⟩)
      · exact .inl (keep b o hb e)
    · by_cases hb : b ∈ tabs.map (·.2)
      · refine Mine.gk ?_
        intro Gz9 kz9
        obtain ⟨_, _, ps, hP⟩ := grown b o hb e
        refine kz9 ?_
        (try clear kz9 Gz9)
        exact ⟨_, hP⟩
      · exact ⟨o, keep b o hb e⟩
end
end Mine
end TGhost

section TComp
open PySem PySem.W PyProof.Rows PySem.Spec PySem.Calls
set_option Elab.async false
set_option maxRecDepth 100000
set_option maxHeartbeats 4000000
set_option linter.unusedVariables false
namespace Mine
open PyProof.Rows.LCg
structure Hold (P : Prop) : Prop where
  out : P
theorem hq_2 {F Sh : Type} {a0 a1 : Type} {c : F} {S : a0 → a1 → Sh} {P : a0 → a1 → Prop} {G : F → Sh → Prop} (g : ∀ x0 x1, P x0 x1 → G c (S x0 x1)) : ∀ f s, Hold (f = c ∧ ∃ x0 x1, s = S x0 x1 ∧ P x0 x1) → G f s := fun f s h => by
  refine Mine.gk ?_
  intro Gz9 kz9
  obtain ⟨rfl, x0, x1, rfl, p⟩ := h.out
  refine kz9 ?_
  (try clear kz9 Gz9)
  exact g x0 x1 p
theorem hq_3 {F Sh : Type} {a0 a1 a2 : Type} {c : F} {S : a0 → a1 → a2 → Sh} {P : a0 → a1 → a2 → Prop} {G : F → Sh → Prop} (g : ∀ x0 x1 x2, P x0 x1 x2 → G c (S x0 x1 x2)) : ∀ f s, Hold (f = c ∧ ∃ x0 x1 x2, s = S x0 x1 x2 ∧ P x0 x1 x2) → G f s := fun f s h => by
  refine Mine.gk ?_
  intro Gz9 kz9
  obtain ⟨rfl, x0, x1, x2, rfl, p⟩ := h.out
  refine kz9 ?_
  (try clear kz9 Gz9)
  exact g x0 x1 x2 p
theorem hq_5 {F Sh : Type} {a0 a1 a2 a3 a4 : Type} {c : F} {S : a0 → a1 → a2 → a3 → a4 → Sh} {P : a0 → a1 → a2 → a3 → a4 → Prop} {G : F → Sh → Prop} (g : ∀ x0 x1 x2 x3 x4, P x0 x1 x2 x3 x4 → G c (S x0 x1 x2 x3 x4)) : ∀ f s, Hold (f = c ∧ ∃ x0 x1 x2 x3 x4, s = S x0 x1 x2 x3 x4 ∧ P x0 x1 x2 x3 x4) → G f s := fun f s h => by
  refine Mine.gk ?_
  intro Gz9 kz9
  obtain ⟨rfl, x0, x1, x2, x3, x4, rfl, p⟩ := h.out
  refine kz9 ?_
  (try clear kz9 Gz9)
  exact g x0 x1 x2 x3 x4 p
theorem hq_6 {F Sh : Type} {a0 a1 a2 a3 a4 a5 : Type} {c : F} {S : a0 → a1 → a2 → a3 → a4 → a5 → Sh} {P : a0 → a1 → a2 → a3 → a4 → a5 → Prop} {G : F → Sh → Prop} (g : ∀ x0 x1 x2 x3 x4 x5, P x0 x1 x2 x3 x4 x5 → G c (S x0 x1 x2 x3 x4 x5)) : ∀ f s, Hold (f = c ∧ ∃ x0 x1 x2 x3 x4 x5, s = S x0 x1 x2 x3 x4 x5 ∧ P x0 x1 x2 x3 x4 x5) → G f s := fun f s h => by
  refine Mine.gk ?_
  intro Gz9 kz9
  obtain ⟨rfl, x0, x1, x2, x3, x4, x5, rfl, p⟩ := h.out
  refine kz9 ?_
  (try clear kz9 Gz9)
  exact g x0 x1 x2 x3 x4 x5 p
theorem hq_8 {F Sh : Type} {a0 a1 a2 a3 a4 a5 a6 a7 : Type} {c : F} {S : a0 → a1 → a2 → a3 → a4 → a5 → a6 → a7 → Sh} {P : a0 → a1 → a2 → a3 → a4 → a5 → a6 → a7 → Prop} {G : F → Sh → Prop} (g : ∀ x0 x1 x2 x3 x4 x5 x6 x7, P x0 x1 x2 x3 x4 x5 x6 x7 → G c (S x0 x1 x2 x3 x4 x5 x6 x7)) : ∀ f s, Hold (f = c ∧ ∃ x0 x1 x2 x3 x4 x5 x6 x7, s = S x0 x1 x2 x3 x4 x5 x6 x7 ∧ P x0 x1 x2 x3 x4 x5 x6 x7) → G f s := fun f s h => by
  refine Mine.gk ?_
  intro Gz9 kz9
  obtain ⟨rfl, x0, x1, x2, x3, x4, x5, x6, x7, rfl, p⟩ := h.out
  refine kz9 ?_
  (try clear kz9 Gz9)
  exact g x0 x1 x2 x3 x4 x5 x6 x7 p
theorem hq_9 {F Sh : Type} {a0 a1 a2 a3 a4 a5 a6 a7 a8 : Type} {c : F} {S : a0 → a1 → a2 → a3 → a4 → a5 → a6 → a7 → a8 → Sh} {P : a0 → a1 → a2 → a3 → a4 → a5 → a6 → a7 → a8 → Prop} {G : F → Sh → Prop} (g : ∀ x0 x1 x2 x3 x4 x5 x6 x7 x8, P x0 x1 x2 x3 x4 x5 x6 x7 x8 → G c (S x0 x1 x2 x3 x4 x5 x6 x7 x8)) : ∀ f s, Hold (f = c ∧ ∃ x0 x1 x2 x3 x4 x5 x6 x7 x8, s = S x0 x1 x2 x3 x4 x5 x6 x7 x8 ∧ P x0 x1 x2 x3 x4 x5 x6 x7 x8) → G f s := fun f s h => by
  refine Mine.gk ?_
  intro Gz9 kz9
  obtain ⟨rfl, x0, x1, x2, x3, x4, x5, x6, x7, x8, rfl, p⟩ := h.out
  refine kz9 ?_
  (try clear kz9 Gz9)
  exact g x0 x1 x2 x3 x4 x5 x6 x7 x8 p
section
variable {prog : Program} {w : World} {A : Around} {s : Shared} {env : Env} {h₀ : Heap} {L : Addr} {m : Str → Option Value}

theorem comp_loop {elt target iter : Expr} {ifs : List Expr} {scope : Scope} {pos : Pos} {it acc : Value} {env : Env} {R : Result → Shared → Prop} (I : Nat → Shared → Prop)
    (turn : ∀ n s, I n s → wpAny (model prog w) A (pyNext it) (fun r s₁ => match r with
      | none => R (.ok .next) s₁
      | some v => wpAny (model prog w) A (letOwnedTupleGo target it v) (fun _ s₀ => wpAny (model prog w) A (assign target env v) (fun _ s₂ =>
          wpAny (model prog w) A (forIn ifs true fun c r => if r = true then do let ok ← isTrue c env (eval c env); pure (ForInStep.yield ok) else pure (ForInStep.yield r)) (fun ok s₃ => if ok = true then wpAny (model prog w) A (eval elt env) (fun x s₄ =>
            wpAny (model prog w) A (call (.builtin "list.append") [acc, x]) (fun _ s₅ => ∃ m, m < n ∧ I m s₅) (fun _ _ => False) s₄) (fun _ _ => False) s₃
            else ∃ m, m < n ∧ I m s₃) (fun _ _ => False) s₂)
          (fun _ _ => False) s₀) (fun _ _ => False) s₁) (fun _ _ => False) s)
    (n : Nat) (h : I n s) : codeAny (model prog w) A (.compLoop (.ListComp elt [⟨target, iter, ifs, 0⟩] scope pos) 0 it acc env) R s := by
  have no : ∀ (a : Value) (b : Shared), False → notedBy (model prog w) A env (fun e s' => R (.error e) s') a b := fun _ _ x => x.elim
  refine codeAny_loop rfl I (fun n s hI => ?_) n h
  show wpAny _ A ((compTurn (.ListComp elt [⟨target, iter, ifs, 0⟩] scope pos) 0 it acc env).onRaise (fun x => do noteFrame x env; theTreesLotGoes x)) _ _ s
  refine wpAny_noted ?_
  rw [compTurn_list]
  refine wpAny_bind (wpAny_standAt (wpAny_bind (wpAny_mono (turn n s hI) (fun r s₁ h₁ => ?_) no)))
  cases r with
  | none => exact wpAny_pure h₁
  | some v =>
    refine wpAny_bind (wpAny_mono h₁ (fun _ s₀ h₀' => ?_) no)
    refine wpAny_bind (wpAny_mono h₀' (fun _ s₂ h₂ => ?_) no)
    refine wpAny_bind (wpAny_mono h₂ (fun okb s₃ h₃ => ?_) no)
    cases okb with
    | false => exact wpAny_pure ⟨rfl, h₃⟩
    | true => exact wpAny_bind (wpAny_bind (wpAny_mono h₃ (fun x s₄ h₄ => wpAny_bind (wpAny_mono h₄ (fun _ s₅ h₅ => wpAny_pure (wpAny_pure ⟨rfl, h₅⟩)) no)) no))

inductive CEndI {σ : Type} (h₀ : Heap) (L : Addr) (m : Str → Option Value) (d9 : Drawn) (o9 : OsState) (G : σ → Array GenState) (own : List (Addr × Obj)) (wr : List Addr) (C : Addr) (oC : Obj) (D : Addr) (oD : Obj) (Led : σ → List (Addr × Obj)) (P : List Value → σ → Prop) (ys : List Value) (s₂ : Shared) : Prop
  | mk (c' : σ) (h' : Heap) (tk : Nat) (news' : List (Addr × Obj)) : s₂ = ⟨h', G c', d9, tk, o9⟩ → Fr h₀ L h' m → News h₀ L h' news' → (∀ p ∈ own, p ∈ news') → (C, oC) ∈ news' → (D, oD) ∈ news' → (∀ p ∈ Led c', p ∈ news') → (∀ p ∈ Led c', p.1 ∉ wr ∧ p.1 ≠ C ∧ p.1 ≠ D) → P ys c' → CEndI h₀ L m d9 o9 G own wr C oC D oD Led P ys s₂
noncomputable abbrev CEnd {σ : Type} (h₀ : Heap) (L : Addr) (m : Str → Option Value) (s : Shared) (G : σ → Array GenState) (own : List (Addr × Obj)) (wr : List Addr) (C : Addr) (oC : Obj) (D : Addr) (oD : Obj) (Led : σ → List (Addr × Obj)) (P : List Value → σ → Prop) (ys : List Value) (s₂ : Shared) : Prop := CEndI h₀ L m s.drawn s.os G own wr C oC D oD Led P ys s₂
inductive CI {σ : Type} (n : Nat) (s : Shared) (h₀ : Heap) (L : Addr) (m : Str → Option Value) (G : σ → Array GenState) (Led : σ → List (Addr × Obj)) (St : Nat → Heap → Prop) (wr : List Addr) (C D : Addr) (P : Nat → List Value → σ → Prop) (k : Nat) (s' : Shared) : Prop
  | mk (h' : Heap) (tk i : Nat) (ys : List Value) (m' : Str → Option Value) (c : σ) : s' = { s with heap := h', gens := G c, toks := tk } → i ≤ n → k = n + 1 - i → ys.length ≤ i → St i h' → Fr h₀ L h' m → h'.Ns C m' → News h₀ L h' ((D, lst ys) :: Led c) → (∀ p ∈ Led c, p.1 ∉ wr ∧ p.1 ≠ C ∧ p.1 ≠ D) → P i ys c → CI n s h₀ L m G Led St wr C D P k s'
theorem cend {σ : Type} {G : σ → Array GenState} {own : List (Addr × Obj)} {wr : List Addr} {C : Addr} {oC : Obj} {D : Addr} {oD : Obj} {Led : σ → List (Addr × Obj)} {P : List Value → σ → Prop} {ys : List Value} {h' : Heap} {g : Array GenState} {tk : Nat} {news' : List (Addr × Obj)} (c' : σ)
    (F : Fr h₀ L h' m) (N : News h₀ L h' news') (ho : ∀ p ∈ own, p ∈ news') (hC : (C, oC) ∈ news') (hD : (D, oD) ∈ news') (hn : ∀ p ∈ Led c', p ∈ news') (hw : ∀ p ∈ Led c', p.1 ∉ wr ∧ p.1 ≠ C ∧ p.1 ≠ D) (hp : P ys c') (hg : g = G c' := by rfl) :
    CEnd h₀ L m s G own wr C oC D oD Led P ys { s with heap := h', gens := g, toks := tk } := ⟨c', h', tk, news', by rw [hg], F, N, ho, hC, hD, hn, hw, hp⟩

theorem cend_own {σ : Type} {G : σ → Array GenState} {own own' : List (Addr × Obj)} {wr : List Addr} {C : Addr} {oC : Obj} {D : Addr} {oD : Obj} {Led : σ → List (Addr × Obj)} {P : List Value → σ → Prop} {ys : List Value} {s₂ : Shared}
    (hk : ∀ p ∈ own, p ∈ own' ∨ ∀ c, p ∈ Led c) (x : CEnd h₀ L m s G own' wr C oC D oD Led P ys s₂) : CEnd h₀ L m s G own wr C oC D oD Led P ys s₂ := by
  refine Mine.gk ?_
  intro Gz9 kz9
  obtain ⟨c', h', tk, news', e, F, N, ho, hC, hD, hn, hw, hpp⟩ := x
  refine kz9 ?_
  (try clear kz9 Gz9)
  refine ⟨c', h', tk, news', e, F, N, fun p hp => ?_, hC, hD, hn, hw, hpp⟩
  rcases hk p hp with q | q
  · exact ho p q
  · exact hn p (q c')

theorem comp_block {σ : Type} {elt target iter : Expr} {ifs : List Expr} {scope : Scope} {cl : List (Str × Addr)} {pos : Pos} {I : Addr} {fp wr : List Addr} {n : Nat} {PV Md : Nat → Value → Heap → Prop} {St : Nat → Heap → Prop} {E : Value → Shared → Prop} {RR : Value → Addr → Result → Shared → Prop}
    (G : σ → Array GenState) (Led : σ → List (Addr × Obj)) (P : Nat → List Value → σ → Prop) (NM : Nat → Value → (Str → Option Value) → Prop) (c₀ : σ)
    (W : KTurns prog w A target I fp wr n PV Md St) (hself : ∀ (s : Shared) (Q : Value → Shared → Prop) (E : Value → Shared → Prop), St 0 s.heap → Q (.ref I) s → wpAny (model prog w) A (pyIter (.ref I)) Q E s) (hsz : n ≤ sizeLine)
    (hcell : ∀ y ∈ scope.names, y.2 ≠ .cell) (hkind : scope.kind = .function)
    (hst : St 0 s.heap) (hfp : ∀ b ∈ fp, b < s.heap.objs.size) (hLf : L ∉ fp) (hwr : ∀ b ∈ wr, h₀.get? b = none) (hg : s.gens = G c₀)
    (F : Fr h₀ L s.heap m) (N : News h₀ L s.heap (Led c₀)) (hw : ∀ p ∈ Led c₀, p.1 ∉ wr) (hp : P 0 [] c₀)
    (asg : ∀ i c v C (mc : Str → Option Value) (s' : Shared) (Q : Unit → Shared → Prop), i < n → PV i v s'.heap → News h₀ L s'.heap (Led c) → s'.heap.Ns C mc → (∀ p ∈ Led c, p.1 ≠ C) →
      (∀ h' tk m₂, h'.Ns C m₂ → NM i v m₂ → (∀ b o, b ≠ C → s'.heap.get? b = some o → h'.get? b = some o) → Q () { s' with heap := h', toks := tk }) → wpAny (model prog w) A (assign target (compEnvC scope cl C env) v) Q (fun _ _ => False) s')
    (turn : ∀ i ys c v C oC D m₂ h tk own, i < n → P i ys c → NsObj oC m₂ → NM i v m₂ → (∀ p ∈ own, p.1 ∈ fp) → (∀ b ∈ fp, h₀.get? b = none → ∀ o, h.get? b = some o → (b, o) ∈ own) → St (i + 1) h → (∀ p ∈ Led c, p.1 ∉ wr ∧ p.1 ≠ C ∧ p.1 ≠ D) → (∀ b ∈ fp, b < D) → D < C →
      Fr h₀ L h m → News h₀ L h ((C, oC) :: (D, lst ys) :: (own ++ Led c)) →
      wpAny (model prog w) A (forIn ifs true fun c r => if r = true then do let ok ← isTrue c (compEnvC scope cl C env) (eval c (compEnvC scope cl C env)); pure (ForInStep.yield ok) else pure (ForInStep.yield r)) (fun ok s₃ =>
        if ok = true then wpAny (model prog w) A (eval elt (compEnvC scope cl C env)) (fun y s₄ => CEnd h₀ L m s G own wr C oC D (lst ys) Led (fun ys c => P (i + 1) (ys ++ [y]) c) ys s₄) (fun _ _ => False) s₃
        else CEnd h₀ L m s G own wr C oC D (lst ys) Led (P (i + 1)) ys s₃) (fun _ _ => False) { s with heap := h, gens := G c, toks := tk })
    (hRR : ∀ D C h tk m' ys c, Fr h₀ L h m → News h₀ L h ((D, lst ys) :: Led c) → (∀ p ∈ Led c, p.1 ≠ D ∧ p.1 ≠ C) → h.Ns C m' → h₀.get? C = none → C ≠ L → D ≠ L → C ≠ D → s.heap.objs.size ≤ D → P n ys c → RR (.ref D) C (.ok .next) { s with heap := h, gens := G c, toks := tk }) :
    wpAny (model prog w) A (newList []) (fun acc s₃ => wpAny (model prog w) A (newFunctionEnv scope env.globals cl [] env.qual none .none (some env)) (fun cenv s₄ =>
      codeAny (model prog w) A (.compStart (.ListComp elt [⟨target, iter, ifs, 0⟩] scope pos) 0 (.ref I) acc { cenv with scope := relabel scope env }) (RR acc cenv.locals) s₄) E s₃) E s := by
  have hLw : L ∉ wr := fun h => hLf (W.sub _ h)
  have oldw : ∀ b o, h₀.get? b = some o → b ∉ wr := fun b o e hb => by rw [hwr b hb] at e; cases e
  refine wpAny_newObj_type (wpAny_newFunctionEnv hcell (by intro y hy; simp at hy) (fun h₁ hns₁ hsb₁ => ?_) hkind)
  dsimp only at hns₁ hsb₁ ⊢
  generalize hH2 : s.heap.push { cls := .type "list", dict := none, data := .seq ([] : List Value).toArray } = H2 at hns₁ hsb₁ ⊢
  have hC : H2.objs.size = s.heap.objs.size + 1 := by rw [← hH2, Heap.size_push]
  have hDC : s.heap.objs.size ≠ H2.objs.size := by rw [hC]; exact Nat.ne_of_lt (Nat.lt_succ_self _)
  have below : ∀ b, b < s.heap.objs.size → b ≠ H2.objs.size ∧ b ≠ s.heap.objs.size := fun b hb => ⟨by rw [hC]; exact Nat.ne_of_lt (Nat.lt_succ_of_lt hb), Nat.ne_of_lt hb⟩
  have hDf : s.heap.objs.size ∉ fp := fun hm => Nat.lt_irrefl _ (hfp _ hm)
  have hCf : H2.objs.size ∉ fp := fun hm => by have := hfp _ hm; rw [hC] at this; exact Nat.lt_irrefl _ (Nat.lt_of_succ_lt this)
  have hDw : s.heap.objs.size ∉ wr := fun h => hDf (W.sub _ h)
  have hCw : H2.objs.size ∉ wr := fun h => hCf (W.sub _ h)
  have old : ∀ b o, s.heap.get? b = some o → h₁.get? b = some o := fun b o e => hsb₁.extBut b o (below b (Heap.lt_size e)).1 (Heap.get?_push_of_some _ (hH2 ▸ Heap.get?_push_of_some _ e))
  have hacc : h₁.get? s.heap.objs.size = some (lst []) := hsb₁.extBut _ _ hDC (Heap.get?_push_of_some _ (hH2 ▸ Heap.get?_push_size _ rfl))
  have hst₁ : St 0 h₁ := W.frame _ _ _ hst fun b _ o e => old b o e
  have fresh : ∀ a, s.heap.objs.size ≤ a → s.heap.get? a = none := fun a ha => by
    cases e : s.heap.get? a with
    | none => rfl
    | some o' => exact absurd (Heap.lt_size e) (Nat.not_lt.mpr ha)
  have fresh₀ : ∀ a, s.heap.objs.size ≤ a → h₀.get? a = none := fun a ha => by
    cases e : h₀.get? a with
    | none => rfl
    | some o' => have := F.keep a o' e; rw [fresh a ha] at this; cases this
  have hD₀ : h₀.get? s.heap.objs.size = none := fresh₀ _ (Nat.le_refl _)
  have hC₀ : h₀.get? H2.objs.size = none := fresh₀ _ (by rw [hC]; exact Nat.le_succ _)
  have hLlt : L < s.heap.objs.size := F.ns.lt
  have hDL : s.heap.objs.size ≠ L := Ne.symm (below L hLlt).2
  have hCL : H2.objs.size ≠ L := Ne.symm (below L hLlt).1
  have loop : ∀ s₃ : Shared, s₃ = { s with heap := h₁, toks := s.toks + ([] : List (Str × Value)).length } →
      codeAny (model prog w) A (.compLoop (.ListComp elt [⟨target, iter, ifs, 0⟩] scope pos) 0 (.ref I) (.ref s.heap.objs.size) (compEnvC scope cl H2.objs.size env))
        (RR (.ref s.heap.objs.size) H2.objs.size) s₃ := by
    rintro s₃ rfl
    refine comp_loop
      (CI n s h₀ L m G Led St wr H2.objs.size s.heap.objs.size P) ?_ (n + 1)
      ⟨h₁, _, 0, [], _, c₀, by rw [← hg], Nat.zero_le _, rfl, Nat.le_refl _, hst₁, F.keeps old, hns₁, fun p hp => ?_, fun p hp => ⟨hw p hp, below _ (Heap.lt_size (N p hp).1)⟩, hp⟩
    · rintro k s' ⟨h', tk, i, ys, m', c, rfl, hi, rfl, hyl, hst', F', hn', N', off', hP'⟩
      have next : ∀ h₁ : Heap, (∀ b o, b ∉ wr → h'.get? b = some o → h₁.get? b = some o) → Fr h₀ L h₁ m ∧ News h₀ L h₁ ((s.heap.objs.size, lst ys) :: Led c) ∧ h₁.Ns H2.objs.size m' := fun h₁ hk₁ =>
        ⟨⟨F'.ns.at' fun o e => hk₁ _ o hLw e, fun b o e => hk₁ b o (oldw b o e) (F'.keep b o e), F'.above⟩, fun p hp => ⟨hk₁ _ _ (by
          rcases List.mem_cons.mp hp with rfl | hp
          · exact hDw
          · exact (off' p hp).1) (N' p hp).1, (N' p hp).2⟩, hn'.at' fun o e => hk₁ _ o hCw e⟩
      by_cases hlt : i < n
      · refine W.item i _ _ _ hlt hst' fun v h₂ tk₂ hMd hk₂ => ?_
        refine W.go i v _ _ _ hMd fun h₃ hPv hst₃ hk₃ => ?_
        obtain ⟨F₃, N₃, n₃⟩ := next h₃ fun b o hb x => hk₃ b o hb (hk₂ b o hb x)
        refine asg i c v H2.objs.size m' _ _ hlt hPv (fun p hp => N₃ p (List.mem_cons_of_mem _ hp)) n₃ (fun p hp => (off' p hp).2.1) fun h₄ tk₄ m₂ n₄ hNM hk₄ => ?_
        have F₄ : Fr h₀ L h₄ m := ⟨F₃.ns.at' fun o e => hk₄ _ o (Ne.symm hCL) e, fun b o e => hk₄ b o (fun q => by rw [q, hC₀] at e; cases e) (F₃.keep b o e), F₃.above⟩
        have hst₄ : St (i + 1) h₄ := W.frame _ _ _ hst₃ fun b hb o e => hk₄ b o (fun q => hCf (q ▸ hb)) e
        obtain ⟨oC, heC, hoC⟩ := ns_obj n₄
        have Nown : News h₀ L h₄ (PyProof.Rows.ownOf h₀ fp h₄) := news_ownOf hLf
        have N₄ : News h₀ L h₄ ((H2.objs.size, oC) :: (s.heap.objs.size, lst ys) :: (PyProof.Rows.ownOf h₀ fp h₄ ++ Led c)) := fun p hp => by
          rcases List.mem_cons.mp hp with rfl | hp
          · exact ⟨heC, hCL, hC₀⟩
          rcases List.mem_cons.mp hp with rfl | hp
          · have z := N₃ _ (List.Mem.head _)
            exact ⟨hk₄ _ _ hDC z.1, z.2⟩
          rcases List.mem_append.mp hp with hp | hp
          · exact Nown p hp
          · have z := N₃ p (List.mem_cons_of_mem _ hp)
            exact ⟨hk₄ _ _ (off' p hp).2.1 z.1, z.2⟩
        have endT : ∀ (P' : List Value → σ → Prop) s₃ ys₁, CEnd h₀ L m s G (PyProof.Rows.ownOf h₀ fp h₄) wr H2.objs.size oC s.heap.objs.size (lst ys) Led P' ys₁ s₃ → ∃ c' h₅ tk₅ , s₃ = { s with heap := h₅, gens := G c', toks := tk₅ } ∧ St (i + 1) h₅ ∧ Fr h₀ L h₅ m ∧ h₅.Ns H2.objs.size m₂ ∧ News h₀ L h₅ ((s.heap.objs.size, lst ys) :: Led c') ∧
            (∀ p ∈ Led c', p.1 ∉ wr ∧ p.1 ≠ H2.objs.size ∧ p.1 ≠ s.heap.objs.size) ∧ P' ys₁ c' := by
          rintro P' s₃ ys₁ ⟨c', h₅, tk₅, news₅, rfl, F₅, N₅, ho₅, hC₅, hD₅, hn₅, hw₅, hP₅⟩
          refine ⟨c', h₅, tk₅, rfl, ?_, F₅, hoC.ns (N₅ _ hC₅).1, fun p hp => ?_, hw₅, hP₅⟩
          · refine W.frame _ _ _ hst₄ fun b hb o e => ?_
            cases hn : h₀.get? b with
            | some o₀ =>
              have : o₀ = o := by have q := F₄.keep b o₀ hn; rw [e] at q; exact (Option.some.inj q).symm
              exact this ▸ F₅.keep b o₀ hn
            | none => exact (N₅ _ (ho₅ _ (mem_ownOf hb hn e))).1
          · rcases List.mem_cons.mp hp with rfl | hp
            · exact N₅ _ hD₅
            · exact N₅ _ (hn₅ p hp)
        refine wpAny_mono (turn i ys c v H2.objs.size oC s.heap.objs.size m₂ h₄ tk₄ (PyProof.Rows.ownOf h₀ fp h₄) hlt hP' hoC hNM ownOf_sub (fun b hb hn o e => mem_ownOf hb hn e) hst₄ off' hfp (by rw [hC]; exact Nat.lt_succ_self _) F₄ N₄) (fun ok s₅ h₅ => ?_) fun _ _ x => x
        cases ok with
        | false =>
          simp only [Bool.false_eq_true, if_false] at h₅ ⊢
          refine Mine.gk ?_
          intro Gz9 kz9
          obtain ⟨c', g₅, tk₅, rfl, st₅, F₅, n₅, N₅, hw₅, P₅⟩ := endT _ _ _ h₅
          refine kz9 ?_
          (try clear kz9 Gz9)
          exact ⟨n + 1 - (i + 1), by kst_p2, g₅, tk₅, i + 1, ys, _, c', rfl, hlt, rfl, Nat.le_succ_of_le hyl, st₅, F₅, n₅, N₅, hw₅, P₅⟩
        | true =>
          simp only [if_true] at h₅ ⊢
          refine wpAny_mono h₅ (fun y s₆ h₆ => ?_) fun _ _ x => x
          refine Mine.gk ?_
          intro Gz9 kz9
          obtain ⟨c', h₅, tk₅, rfl, st₅, F₅, n₅, N₅, hw₅, P₅⟩ := endT _ _ _ h₆
          refine kz9 ?_
          (try clear kz9 Gz9)
          refine append_at (hsz := by show ys.toArray.size ≤ sizeLine; rw [List.size_toArray]; exact Nat.le_trans hyl (Nat.le_trans hi hsz)) (N₅ _ (List.Mem.head _)).1 fun h₆ hs₆ hD₆ => ?_
          refine ⟨n + 1 - (i + 1), by kst_p2, h₆, tk₅, i + 1, ys ++ [y], _, c', rfl, hlt, rfl, by rw [List.length_append, List.length_singleton]; exact Nat.succ_le_succ hyl, W.frame _ _ _ st₅ fun b hb o e => hs₆.extBut b o (fun q => hDf (q ▸ hb)) e, F₅.change hs₆ hDL hD₀,
            n₅.sameBut hs₆ (Ne.symm hDC), fun p hp => ?_, hw₅, P₅⟩
          rcases List.mem_cons.mp hp with rfl | hp
          · exact ⟨hD₆.trans (congrArg some (lst_snoc ys y)), hDL, hD₀⟩
          · exact ⟨hs₆.extBut _ _ (hw₅ p hp).2.2 (N₅ p (List.mem_cons_of_mem _ hp)).1, (N₅ p (List.mem_cons_of_mem _ hp)).2⟩
      · have hin : i = n := Nat.le_antisymm hi (Nat.not_lt.mp hlt)
        refine W.done _ _ _ (hin ▸ hst') fun h₂ tk₂ hk₂ => ?_
        obtain ⟨F₃, N₃, n₃⟩ := next h₂ hk₂
        exact hRR _ _ h₂ tk₂ _ ys c F₃ N₃ (fun p hp => ⟨(off' p hp).2.2, (off' p hp).2.1⟩) n₃ hC₀ hCL hDL (Ne.symm hDC) (Nat.le_refl _) (hin ▸ hP')
    · rcases List.mem_cons.mp hp with rfl | hp
      · exact ⟨hacc, hDL, hD₀⟩
      · exact ⟨old _ _ (N p hp).1, (N p hp).2⟩
  exact codeAny_compStart_list (loop _ rfl) (hself _ _ _ hst₁ (loop _ rfl))

theorem my_slice {E : Value → Shared → Prop} {news : List (Addr × Obj)} {value slice : Expr} {l : Addr} {vs : List Value} {n a b : Nat} {vl vu : Value} {x y : Int} {Q : Value → Shared → Prop} (F : Fr h₀ L s.heap m) (N : News h₀ L s.heap news) (hm : (l, listOf vs.toArray n) ∈ news) (pl : IsPart vl (some x)) (pu : IsPart vu (some y)) (ex : x = (a : Int)) (ey : y = (b : Int)) (hb : b ≤ vs.length)
    (hs : subscripted slice false (.ref l) (.ref s.heap.objs.size) = operate [.ref s.heap.objs.size, .ref l] (getItem (.ref l) (.ref s.heap.objs.size))) (ht : ∀ r, letTemporaryGo value (.ref l) r = pure ()) (hz : vs.toArray.size ≤ sizeLine)
    (h : ∀ D h', Fr h₀ L h' m → News h₀ L h' ((D, listOf ((vs.drop a).take (b - a)).toArray 0) :: news) → (∀ p ∈ news, p.1 < D) → Q (.ref D) { s with heap := h' }) :
    wpAny (model prog w) A (subscriptTail value slice (.ref l) (.ref s.heap.objs.size)) Q E { s with heap := s.heap.push { cls := .type "slice", data := .fields #[vl, vu, .none] } } := by
  subst ex ey
  refine kms_slice_lit F N (N.isList hm) pl pu (zs := (vs.drop a).take (b - a)) ?_ h hs ht hz
  exact pick_nat vs a b hb
theorem my_eqnil {E : Value → Shared → Prop} {a b : Addr} {ys : List Value} {Q : Value → Shared → Prop} (ha : s.heap.IsList a ys.toArray) (hb : s.heap.IsList b ([] : List Value).toArray) (hu : A.units < cLine) (h : Q (.bool (decide (ys = []))) s) : wpAny (model prog w) A (compareOp .Eq (.ref a) (.ref b)) Q E s := by
  cases ys with
  | nil =>
    refine SeqAt.eq_listAt (e := fun _ => true) ha hb rfl hu (fun j h1 _ => absurd h1 (Nat.not_lt_zero _)) ?_
    simpa using h
  | cons x r =>
    refine SeqAt.eq_list_lengthsAt ha hb (by simp) hu ?_
    simpa using h

section
variable {σ : Type} {E : Value → Shared → Prop} {Q : Value → Shared → Prop} {G : σ → Array GenState} {Led : σ → List (Addr × Obj)} {P : List Value → σ → Prop}
theorem cpost_eval {D C : Addr} {h : Heap} {tk : Nat} {m' : Str → Option Value} {ys : List Value} {c : σ}
    (done : ∀ D h tk ys c, Fr h₀ L h m → News h₀ L h ((D, lst ys) :: Led c) → (∀ p ∈ Led c, p.1 ≠ D) → s.heap.objs.size ≤ D → P ys c → Q (.ref D) { s with heap := h, gens := G c, toks := tk })
    (F : Fr h₀ L h m) (N : News h₀ L h ((D, lst ys) :: Led c)) (off : ∀ p ∈ Led c, p.1 ≠ D ∧ p.1 ≠ C) (hn : h.Ns C m') (hC₀ : h₀.get? C = none) (hCL : C ≠ L) (_hDL : D ≠ L) (hCD : C ≠ D) (hle : s.heap.objs.size ≤ D) (hP : P ys c) :
    compPost (model prog w) A E none Q (.ref D) C (.ok .next) { s with heap := h, gens := G c, toks := tk } :=
  ⟨m', hn, fun h'' hs'' => done D h'' tk ys c (F.change hs'' hCL hC₀) (fun p hp => by
    refine ⟨hs''.extBut _ _ ?_ (N p hp).1, (N p hp).2⟩
    rcases List.mem_cons.mp hp with rfl | hp
    · exact Ne.symm hCD
    · exact (off p hp).2) (fun p hp => (off p hp).1) hle hP⟩
theorem cpost_name {Q : Flow → Shared → Prop} {y : Str} {py : Pos} {D C : Addr} {h : Heap} {tk : Nat} {m' : Str → Option Value} {ys : List Value} {c : σ} (hL : env.locals = L)
    (hy : env.kindOf y = some .local) (hp : (env.scope.kind == .class || (env.scope.kind == .module && env.locals != env.globals)) = false)
    (done : ∀ D h tk ys c, Fr h₀ L h (fun z => if z = y then some (.ref D) else m z) → News h₀ L h ((D, lst ys) :: Led c) → (∀ p ∈ Led c, p.1 ≠ D) → s.heap.objs.size ≤ D → P ys c → Q .next { s with heap := h, gens := G c, toks := tk })
    (F : Fr h₀ L h m) (N : News h₀ L h ((D, lst ys) :: Led c)) (off : ∀ p ∈ Led c, p.1 ≠ D ∧ p.1 ≠ C) (hn : h.Ns C m') (hC₀ : h₀.get? C = none) (hCL : C ≠ L) (_hDL : D ≠ L) (hCD : C ≠ D) (hle : s.heap.objs.size ≤ D) (hP : P ys c) :
    compPost (model prog w) A E (some (assign (.Name y py) env)) (fun _ s' => Q .next s') (.ref D) C (.ok .next) { s with heap := h, gens := G c, toks := tk } := by
  subst hL
  show wpAny _ A (assign (.Name y py) env (.ref D)) _ _ _
  refine wpAny_assign_Name (wpAny_storeName_local hy F.ns (fun h₂ hn₂ hs₂ => ?_) hp)
  have hL₀ : h₀.get? env.locals = none := Heap.get?_none_of_le F.above
  have F₂ : Fr h₀ env.locals h₂ (fun z => if z = y then some (.ref D) else m z) := ⟨hn₂, fun b o e => hs₂.extBut b o (fun q => by rw [q, hL₀] at e; cases e) (F.keep b o e), F.above⟩
  refine ⟨m', hn.sameBut hs₂ hCL, fun h'' hs'' => done D h'' _ ys c (F₂.change hs'' hCL hC₀) (fun p hp => ?_) (fun p hp => (off p hp).1) hle hP⟩
  have z : h₂.get? p.1 = some p.2 := hs₂.extBut _ _ (N p hp).2.1 (N p hp).1
  refine ⟨hs''.extBut _ _ ?_ z, (N p hp).2⟩
  rcases List.mem_cons.mp hp with rfl | hp
  · exact Ne.symm hCD
  · exact (off p hp).2
end

theorem comp_open {E : Value → Shared → Prop} {elt target iter : Expr} {ifs : List Expr} {scope : Scope} {cl : List (Str × Addr)} {pos : Pos} {Q : Value → Shared → Prop}
    (hclos : closureFor scope env = pure cl) (hkind : scope.kind = .function) (hnames : ∀ y ∈ scope.names, y.2 = .local → scope.names.lookup y.1 = some .local)
    (h : wpAny (model prog w) A (eval iter env) (fun x s₁ => wpAny (model prog w) A (pyIter x) (fun it s₂ => wpAny (model prog w) A (newList []) (fun acc s₃ =>
      wpAny (model prog w) A (newFunctionEnv scope env.globals cl [] env.qual none .none (some env)) (fun cenv s₄ =>
        codeAny (model prog w) A (.compStart (.ListComp elt [⟨target, iter, ifs, 0⟩] scope pos) 0 it acc { cenv with scope := relabel scope env }) (compPost (model prog w) A E none Q acc cenv.locals) s₄) E s₃) E s₂) E s₁) E s)
    (hs : ∀ x, foldedSetIterable iter env x = pure x := by intro _; rfl) :
    wpAny (model prog w) A (eval (.ListComp elt [⟨target, iter, ifs, 0⟩] scope pos) env) Q E s := by
  rw [eval_ListComp]
  exact wpAny_comprehension_free (use := none) rfl hs hclos hkind hnames h
theorem comp_openA {E : Value → Shared → Prop} {elt target iter : Expr} {ifs : List Expr} {y : Str} {py : Pos} {scope : Scope} {cl : List (Str × Addr)} {pos spos : Pos} {Q : Flow → Shared → Prop}
    (hsw : swapsWith (.ListComp elt [⟨target, iter, ifs, 0⟩] scope pos) (some (.Name y py)) spos.line env = pure true)
    (hclos : closureFor scope env = pure cl) (hkind : scope.kind = .function) (hnames : ∀ y ∈ scope.names, y.2 = .local → scope.names.lookup y.1 = some .local)
    (h : wpAny (model prog w) A (eval iter env) (fun x s₁ => wpAny (model prog w) A (pyIter x) (fun it s₂ => wpAny (model prog w) A (newList []) (fun acc s₃ =>
      wpAny (model prog w) A (newFunctionEnv scope env.globals cl [] env.qual none .none (some env)) (fun cenv s₄ =>
        codeAny (model prog w) A (.compStart (.ListComp elt [⟨target, iter, ifs, 0⟩] scope pos) 0 it acc { cenv with scope := relabel scope env }) (compPost (model prog w) A E (some (assign (.Name y py) env)) (fun _ s' => Q .next s') acc cenv.locals) s₄) E s₃) E s₂) E s₁) E s)
    (hs : ∀ x, foldedSetIterable iter env x = pure x := by intro _; rfl) :
    wpAny (model prog w) A (exec (.Assign [.Name y py] (.ListComp elt [⟨target, iter, ifs, 0⟩] scope pos) spos) env) Q E s := by
  rw [exec_Assign_Name_used _ _ _ _ hsw]
  refine wpAny_bind (wpAny_standAt (wpAny_bind ?_))
  show wpAny _ A (do let _ ← comprehension (.ListComp elt [⟨target, iter, ifs, 0⟩] scope pos) scope env _ (newList []) false (eval iter env) (some (assign (.Name y py) env))) _ _ s
  exact wpAny_bind (wpAny_mono (wpAny_comprehension_free (use := some (assign (.Name y py) env)) (Q := fun _ s' => Q .next s') rfl hs hclos hkind hnames h) (fun _ s' hq => wpAny_pure (wpAny_pure hq)) fun _ _ e => e)

theorem asg_name {scope : Scope} {cl : List (Str × Addr)} {x : Str} {px : Pos} {C : Addr} {v : Value} {mc : Str → Option Value} {Q : Unit → Shared → Prop} {E : Value → Shared → Prop} (hkind : scope.kind = .function) (hx : scope.names.lookup x = some .local) (hn : s.heap.Ns C mc)
    (h : ∀ h' tk m₂, h'.Ns C m₂ → m₂ x = some v → (∀ b o, b ≠ C → s.heap.get? b = some o → h'.get? b = some o) → Q () { s with heap := h', toks := tk }) :
    wpAny (model prog w) A (assign (.Name x px) (compEnvC scope cl C env) v) Q E s :=
  wpAny_assign_Name (wpAny_storeName_local (lookup_relabel_local hx) hn (fun h₃ hn₃ hs₃ => h h₃ _ _ hn₃ (by simp) fun b o hb e => hs₃.extBut b o hb e) (by simp [compEnvC, relabel, hkind]))
theorem asg_pair {scope : Scope} {cl : List (Str × Addr)} {a b : Str} {pa pb tp : Pos} {kk : Nat} {C T : Addr} {x y : Value} {mc : Str → Option Value} {Q : Unit → Shared → Prop} {E : Value → Shared → Prop} (hh : A.handled = none) (hT : s.heap.IsTuple T #[x, y]) (hkind : scope.kind = .function) (hxa : scope.names.lookup a = some .local) (hxb : scope.names.lookup b = some .local) (hab : a ≠ b) (hn : s.heap.Ns C mc)
    (h : ∀ h' tk m₂, h'.Ns C m₂ → m₂ a = some x → m₂ b = some y → (∀ b o, b ≠ C → s.heap.get? b = some o → h'.get? b = some o) → Q () { s with heap := h', toks := tk }) :
    wpAny (model prog w) A (assign (.Tuple [.Name a pa, .Name b pb] kk tp) (compEnvC scope cl C env) (.ref T)) Q E s :=
  kcp_assign (env := compEnvC scope cl C env) hh hT (lookup_relabel_local hxa) (lookup_relabel_local hxb) (by simp [compEnvC, relabel, hkind]) hn fun h₄ tk₄ hn₄ hs₄ => h h₄ tk₄ _ hn₄ (by simp [hab]) (by simp) hs₄

theorem zmem7 {n l1 l2 b : Nat} (h : b ∈ [n + 4, n + 2, n + 3, n, n + 1, l1, l2]) : (n ≤ b ∧ b < n + 5) ∨ b = l1 ∨ b = l2 := by
  simp only [List.mem_cons, List.not_mem_nil, or_false] at h; kst_p2
theorem zmem4 {n b : Nat} (h : b ∈ [n + 4, n + 3, n, n + 1]) : n ≤ b ∧ b < n + 5 := by
  simp only [List.mem_cons, List.not_mem_nil, or_false] at h; kst_p2
theorem comp_list {σ : Type} {E : Value → Shared → Prop} {elt iter : Expr} {x : Str} {px : Pos} {ifs : List Expr} {scope : Scope} {cl : List (Str × Addr)} {pos : Pos} {l : Addr} {vs : List Value} {ln : Nat} {RR : Value → Addr → Result → Shared → Prop}
    (G : σ → Array GenState) (Led : σ → List (Addr × Obj)) (P : Nat → List Value → σ → Prop) (c₀ : σ) (hh : A.handled = none) (hl : ∀ c, (l, listOf vs.toArray ln) ∈ Led c) (hsz : vs.length ≤ sizeLine)
    (hcell : ∀ y ∈ scope.names, y.2 ≠ .cell) (hkind : scope.kind = .function) (hx : scope.names.lookup x = some .local) (hg : s.gens = G c₀)
    (F : Fr h₀ L s.heap m) (N : News h₀ L s.heap (Led c₀)) (hp : P 0 [] c₀)
    (turn : ∀ i ys c v C oC D m₂ h tk it o, vs[i]? = some v → P i ys c → NsObj oC m₂ → m₂ x = some v → (∀ p ∈ Led c, p.1 ≠ it ∧ p.1 ≠ C ∧ p.1 ≠ D) → it < D → D < C →
      Fr h₀ L h m → News h₀ L h ((C, oC) :: (D, lst ys) :: (it, o) :: Led c) →
      wpAny (model prog w) A (forIn ifs true fun c r => if r = true then do let ok ← isTrue c (compEnvC scope cl C env) (eval c (compEnvC scope cl C env)); pure (ForInStep.yield ok) else pure (ForInStep.yield r)) (fun ok s₃ =>
        if ok = true then wpAny (model prog w) A (eval elt (compEnvC scope cl C env)) (fun y s₄ => CEnd h₀ L m s G [(it, o)] [it] C oC D (lst ys) Led (fun ys c => P (i + 1) (ys ++ [y]) c) ys s₄) (fun _ _ => False) s₃
        else CEnd h₀ L m s G [(it, o)] [it] C oC D (lst ys) Led (P (i + 1)) ys s₃) (fun _ _ => False) { s with heap := h, gens := G c, toks := tk })
    (hRR : ∀ D C h tk m' ys c, Fr h₀ L h m → News h₀ L h ((D, lst ys) :: Led c) → (∀ p ∈ Led c, p.1 ≠ D ∧ p.1 ≠ C) → h.Ns C m' → h₀.get? C = none → C ≠ L → D ≠ L → C ≠ D → s.heap.objs.size ≤ D → P vs.length ys c → RR (.ref D) C (.ok .next) { s with heap := h, gens := G c, toks := tk }) :
    wpAny (model prog w) A (pyIter (.ref l)) (fun it s₂ => wpAny (model prog w) A (newList []) (fun acc s₃ => wpAny (model prog w) A (newFunctionEnv scope env.globals cl [] env.qual none .none (some env)) (fun cenv s₄ =>
      codeAny (model prog w) A (.compStart (.ListComp elt [⟨.Name x px, iter, ifs, 0⟩] scope pos) 0 it acc { cenv with scope := relabel scope env }) (RR acc cenv.locals) s₄) E s₃) E s₂) E s := by
  have hL0 := N _ (hl c₀)
  have hls : s.heap.IsList l vs.toArray := ⟨_, hL0.1, rfl, _, rfl⟩
  have hlt : l < s.heap.objs.size := Heap.lt_size hL0.1
  have hne : l ≠ s.heap.objs.size := Nat.ne_of_lt hlt
  refine wpAny_pyIter_list hls ?_
  have W₀ := Walks.list (prog := prog) (w := w) hh s.heap.objs.size l hne vs.toArray
  have hlen : vs.toArray.size = vs.length := by simp
  rw [hlen] at W₀
  have W := KTurns.ofWalks (target := Expr.Name x px) W₀ fun i v s Q E st q => let_list st.1 q
  have up : ∀ b o, s.heap.get? b = some o → (s.heap.push { cls := .type "list_iterator", data := .fields #[.ref l, .int 0 0] }).get? b = some o := fun b o e => Heap.get?_push_of_some _ e
  refine comp_block (s := { s with heap := s.heap.push { cls := .type "list_iterator", data := .fields #[.ref l, .int 0 0] } }) (RR := RR) G Led P (fun i v m₂ => vs[i]? = some v ∧ m₂ x = some v) c₀ W (fun s Q E st q => W₀.self 0 s Q E st q) hsz hcell hkind ⟨⟨_, Heap.get?_push_size _ rfl, rfl, rfl⟩, hls.push _⟩ ?_ ?_ ?_ hg (F.keeps up) (N.grown up) ?_ hp ?_ ?_ ?_
  · intro b hb
    show b < (s.heap.push _).objs.size
    rw [Heap.size_push]
    rcases List.mem_cons.mp hb with rfl | hb
    · exact Nat.lt_succ_self _
    · rw [List.mem_singleton.mp hb]; exact Nat.lt_succ_of_lt hlt
  · intro hm
    rcases List.mem_cons.mp hm with e | hm
    · exact absurd F.ns.lt (e ▸ Nat.lt_irrefl _)
    · exact hL0.2.1 (List.mem_singleton.mp hm).symm
  · intro b hb
    rw [List.mem_singleton.mp hb]
    exact next_is_new F
  · intro p hp hI
    exact absurd (Heap.lt_size (N p hp).1) ((List.mem_singleton.mp hI) ▸ Nat.lt_irrefl _)
  · intro i c v C mc s' Q hi hv _ hn _ h
    exact asg_name hkind hx hn fun h' tk m₂ hn₂ hx₂ hk => h h' tk m₂ hn₂ ⟨by simpa using hv, hx₂⟩ hk
  · intro i ys c v C oC D m₂ h tk own hi hP hoC hNM hown hown2 hst₁ hoff hlo hDC F₁ N₁
    have hI₀ : h₀.get? s.heap.objs.size = none := next_is_new F
    obtain ⟨o, ho, _⟩ := hst₁.1
    have hm := hown2 _ (List.Mem.head _) hI₀ o ho
    have N₂ : News h₀ L h ((C, oC) :: (D, lst ys) :: (s.heap.objs.size, o) :: Led c) := Mine.fmc (N₁ _ (.head _)) (Mine.fmc (N₁ _ (.tail _ (.head _))) (Mine.fmc (N₁ _ (.tail _ (.tail _ (List.mem_append.mpr (.inl hm))))) (fun p hp => N₁ _ (.tail _ (.tail _ (List.mem_append.mpr (.inr hp)))))))
    have hk : ∀ p ∈ own, p ∈ [(s.heap.objs.size, o)] ∨ ∀ c, p ∈ Led c := fun p hp => by
      have e1 := (N₁ p (.tail _ (.tail _ (List.mem_append.mpr (.inl hp))))).1
      have := hown p hp
      simp only [List.mem_cons, List.not_mem_nil, or_false] at this
      rcases this with e2 | e2
      · left
        rw [e2, ho] at e1
        rw [List.mem_singleton]
        exact Prod.ext e2 (Option.some.inj e1).symm
      · right
        intro c'
        have e3 := (N₁ _ (.tail _ (.tail _ (List.mem_append.mpr (.inr (hl c)))))).1
        rw [e2, e3] at e1
        have : p = (l, listOf vs.toArray ln) := Prod.ext e2 (Option.some.inj e1).symm
        rw [this]
        exact hl c'
    refine wpAny_mono (turn i ys c v C oC D m₂ h tk _ o hNM.1 hP hoC hNM.2 (fun p hp => ?_) (hlo _ (.head _)) hDC F₁ N₂) (fun ok s₃ h₃ => ?_) fun _ _ x => x
    · have := hoff p hp
      exact ⟨fun e => this.1 (List.mem_singleton.mpr e), this.2⟩
    cases ok with
    | false => exact cend_own hk h₃
    | true => exact wpAny_mono h₃ (fun y s₄ h₄ => cend_own hk h₄) fun _ _ x => x
  · intro D C h tk m' ys c F₁ N₁ off hn hC₀ hCL hDL hCD hle hP
    exact hRR D C h tk m' ys c F₁ N₁ off hn hC₀ hCL hDL hCD (by
      have : s.heap.objs.size + 1 ≤ D := by simpa [Heap.size_push] using hle
      kst_p2) hP

theorem comp_zip {σ : Type} {E : Value → Shared → Prop} {elt iter : Expr} {ifs : List Expr} {elts : List Expr} {kk : Nat} {tp : Pos} {scope : Scope} {cl : List (Str × Addr)} {pos : Pos} {l1 l2 : Addr} {xs ys₀ : List Value} {n1 n2 n : Nat} {RR : Value → Addr → Result → Shared → Prop}
    (G : σ → Array GenState) (Led : σ → List (Addr × Obj)) (P : Nat → List Value → σ → Prop) (NM : Nat → Value → Value → (Str → Option Value) → Prop) (c₀ : σ) (hh : A.handled = none) (hl1 : ∀ c, (l1, listOf xs.toArray n1) ∈ Led c) (hl2 : ∀ c, (l2, listOf ys₀.toArray n2) ∈ Led c) (hn1 : xs.length = n) (hn2 : ys₀.length = n) (hsz : n ≤ sizeLine)
    (hcell : ∀ y ∈ scope.names, y.2 ≠ .cell) (hkind : scope.kind = .function) (hg : s.gens = G c₀)
    (F : Fr h₀ L s.heap m) (N : News h₀ L s.heap (Led c₀)) (hp : P 0 [] c₀)
    (asg : ∀ i c x y T C (mc : Str → Option Value) (s' : Shared) (Q : Unit → Shared → Prop), i < n → xs[i]? = some x → ys₀[i]? = some y → s'.heap.IsTuple T #[x, y] → News h₀ L s'.heap (Led c) → s'.heap.Ns C mc → (∀ p ∈ Led c, p.1 ≠ C) →
      (∀ h' tk m₂, h'.Ns C m₂ → NM i x y m₂ → (∀ b o, b ≠ C → s'.heap.get? b = some o → h'.get? b = some o) → Q () { s' with heap := h', toks := tk }) → wpAny (model prog w) A (assign (.Tuple elts kk tp) (compEnvC scope cl C env) (.ref T)) Q (fun _ _ => False) s')
    (turn : ∀ i ys c x y C oC D m₂ h tk z TI TO i1 i2 oz oTI oTO o1 o2, i < n → xs[i]? = some x → ys₀[i]? = some y → P i ys c → NsObj oC m₂ → NM i x y m₂ → (∀ p ∈ Led c, p.1 ∉ [z, TO, i1, i2] ∧ p.1 ≠ C ∧ p.1 ≠ D) → (∀ b ∈ [z, TI, TO, i1, i2], b < D) → D < C →
      Fr h₀ L h m → News h₀ L h ((C, oC) :: (D, lst ys) :: (z, oz) :: (TI, oTI) :: (TO, oTO) :: (i1, o1) :: (i2, o2) :: Led c) →
      wpAny (model prog w) A (forIn ifs true fun c r => if r = true then do let ok ← isTrue c (compEnvC scope cl C env) (eval c (compEnvC scope cl C env)); pure (ForInStep.yield ok) else pure (ForInStep.yield r)) (fun ok s₃ =>
        if ok = true then wpAny (model prog w) A (eval elt (compEnvC scope cl C env)) (fun y s₄ => CEnd h₀ L m s G [(z, oz), (TI, oTI), (TO, oTO), (i1, o1), (i2, o2)] [z, TO, i1, i2] C oC D (lst ys) Led (fun ys c => P (i + 1) (ys ++ [y]) c) ys s₄) (fun _ _ => False) s₃
        else CEnd h₀ L m s G [(z, oz), (TI, oTI), (TO, oTO), (i1, o1), (i2, o2)] [z, TO, i1, i2] C oC D (lst ys) Led (P (i + 1)) ys s₃) (fun _ _ => False) { s with heap := h, gens := G c, toks := tk })
    (hRR : ∀ D C h tk m' ys c, Fr h₀ L h m → News h₀ L h ((D, lst ys) :: Led c) → (∀ p ∈ Led c, p.1 ≠ D ∧ p.1 ≠ C) → h.Ns C m' → h₀.get? C = none → C ≠ L → D ≠ L → C ≠ D → s.heap.objs.size ≤ D → P n ys c → RR (.ref D) C (.ok .next) { s with heap := h, gens := G c, toks := tk }) :
    wpAny (model prog w) A (call (.type "zip") [.ref l1, .ref l2]) (fun xv s₁ => wpAny (model prog w) A (pyIter xv) (fun it s₂ => wpAny (model prog w) A (newList []) (fun acc s₃ => wpAny (model prog w) A (newFunctionEnv scope env.globals cl [] env.qual none .none (some env)) (fun cenv s₄ =>
      codeAny (model prog w) A (.compStart (.ListComp elt [⟨.Tuple elts kk tp, iter, ifs, 0⟩] scope pos) 0 it acc { cenv with scope := relabel scope env }) (RR acc cenv.locals) s₄) E s₃) E s₂) E s₁) E s := by
  have ha1 := N _ (hl1 c₀)
  have ha2 := N _ (hl2 c₀)
  have hls1 : s.heap.IsList l1 xs.toArray := ⟨_, ha1.1, rfl, _, rfl⟩
  have hls2 : s.heap.IsList l2 ys₀.toArray := ⟨_, ha2.1, rfl, _, rfl⟩
  have hlt1 : l1 < s.heap.objs.size := Heap.lt_size ha1.1
  have hlt2 : l2 < s.heap.objs.size := Heap.lt_size ha2.1
  have hLs : L < s.heap.objs.size := F.ns.lt
  have D₀ : ZipApart (s.heap.objs.size + 4) (s.heap.objs.size + 2) (s.heap.objs.size + 3) s.heap.objs.size (s.heap.objs.size + 1) l1 l2 := ktu_apart _ _ _ hlt1 hlt2
  refine call_zip_2 hls1 hls2 fun h' hz hTI hTO hi1 hi2 hsz' hk => ?_
  refine wpAny_pyIter_zip hz ?_
  have hmin : min xs.toArray.size ys₀.toArray.size = n := by simp [hn1, hn2]
  have W₀ := (WalksT.zip2 (prog := prog) (w := w) hh _ _ _ _ _ _ _ D₀ xs.toArray ys₀.toArray).toU
  rw [hmin] at W₀
  have W := KTurns.ofWalksU (elts := elts) (k := kk) (pos := tp) W₀
  have hnew : ∀ b, s.heap.objs.size ≤ b → h₀.get? b = none := fun b hb => ktu_new F hb
  refine comp_block (s := { s with heap := h' }) (RR := RR) G Led P (fun i v m₂ => ∃ x y, xs[i]? = some x ∧ ys₀[i]? = some y ∧ NM i x y m₂) c₀ W (fun s Q E st q => W₀.self 0 s Q E st q) hsz hcell hkind ⟨hz, hTI, ⟨_, _, hTO⟩, hi1, hi2, hls1.at fun o e => hk _ o e, hls2.at fun o e => hk _ o e⟩ ?_ ?_ ?_ hg (F.keeps hk) (N.grown hk) ?_ hp ?_ ?_ ?_
  · intro b hb
    show b < h'.objs.size
    rw [hsz']
    rcases zmem7 hb with e | e | e
    · exact e.2
    · exact e ▸ Nat.lt_of_lt_of_le hlt1 (Nat.le_add_right _ _)
    · exact e ▸ Nat.lt_of_lt_of_le hlt2 (Nat.le_add_right _ _)
  · intro hm
    rcases zmem7 hm with e | e | e
    · exact absurd hLs (Nat.not_lt.mpr e.1)
    · exact ha1.2.1 e.symm
    · exact ha2.2.1 e.symm
  · intro b hb
    exact hnew b (zmem4 hb).1
  · intro p hp hI
    exact absurd (Heap.lt_size (N p hp).1) (Nat.not_lt.mpr (zmem4 hI).1)
  · intro i c v C mc s' Q hi hv N₁ hn hoff h
    refine Mine.gk ?_
    intro Gz9 kz9
    obtain ⟨T, vals, rfl, ⟨x, y, hx, hy, rfl⟩, hT⟩ := hv
    refine kz9 ?_
    (try clear kz9 Gz9)
    have hx' : xs[i]? = some x := by simpa using hx
    have hy' : ys₀[i]? = some y := by simpa using hy
    exact asg i c x y T C mc s' Q hi hx' hy' hT N₁ hn hoff fun h' tk m₂ hn₂ hNM hk => h h' tk m₂ hn₂ ⟨x, y, hx', hy', hNM⟩ hk
  · intro i ys c v C oC D m₂ h tk own hi hP hoC hNM hown hown2 hst₁ hoff hlo hDC F₁ N₁
    refine Mine.gk ?_
    intro Gz9 kz9
    obtain ⟨x, y, hx, hy, hNM⟩ := hNM
    refine kz9 ?_
    (try clear kz9 Gz9)
    refine Mine.gk ?_
    intro Gz9 kz9
    obtain ⟨hz₁, hTI₁, ⟨a₁, b₁, hTO₁⟩, ⟨o1, ho1, _⟩, ⟨o2, ho2, _⟩, _⟩ := hst₁
    refine kz9 ?_
    (try clear kz9 Gz9)
    obtain ⟨oz, ez⟩ : ∃ o, h.get? (s.heap.objs.size + 4) = some o := ⟨_, hz₁⟩
    obtain ⟨oTI, eTI⟩ : ∃ o, h.get? (s.heap.objs.size + 2) = some o := ⟨_, hTI₁⟩
    obtain ⟨oTO, eTO⟩ : ∃ o, h.get? (s.heap.objs.size + 3) = some o := ⟨_, hTO₁⟩
    have mz := hown2 _ (by simp) (hnew _ (Nat.le_add_right _ _)) _ ez
    have mTI := hown2 _ (by simp) (hnew _ (Nat.le_add_right _ _)) _ eTI
    have mTO := hown2 _ (by simp) (hnew _ (Nat.le_add_right _ _)) _ eTO
    have m1 := hown2 _ (by simp) (hnew _ (Nat.le_refl _)) _ ho1
    have m2' := hown2 _ (by simp) (hnew _ (Nat.le_add_right _ _)) _ ho2
    have N₂ : News h₀ L h ((C, oC) :: (D, lst ys) :: (s.heap.objs.size + 4, oz) :: (s.heap.objs.size + 2, oTI) :: (s.heap.objs.size + 3, oTO) :: (s.heap.objs.size, o1) :: (s.heap.objs.size + 1, o2) :: Led c) := Mine.fmc (N₁ _ (.head _)) (Mine.fmc (N₁ _ (.tail _ (.head _))) (Mine.fmc (N₁ _ (.tail _ (.tail _ (List.mem_append.mpr (.inl mz))))) (Mine.fmc (N₁ _ (.tail _ (.tail _ (List.mem_append.mpr (.inl mTI))))) (Mine.fmc (N₁ _ (.tail _ (.tail _ (List.mem_append.mpr (.inl mTO))))) (Mine.fmc (N₁ _ (.tail _ (.tail _ (List.mem_append.mpr (.inl m1))))) (Mine.fmc (N₁ _ (.tail _ (.tail _ (List.mem_append.mpr (.inl m2'))))) (fun p hp => N₁ _ (.tail _ (.tail _ (List.mem_append.mpr (.inr hp)))))))))))
    have hk : ∀ p ∈ own, p ∈ [(s.heap.objs.size + 4, oz), (s.heap.objs.size + 2, oTI), (s.heap.objs.size + 3, oTO), (s.heap.objs.size, o1), (s.heap.objs.size + 1, o2)] ∨ ∀ c, p ∈ Led c := fun p hp => by
      have e1 := (N₁ p (.tail _ (.tail _ (List.mem_append.mpr (.inl hp))))).1
      have := hown p hp
      obtain ⟨b, ob⟩ := p
      dsimp only at e1 this
      simp only [List.mem_cons, List.not_mem_nil, or_false] at this
      rcases this with e9 | e9 | e9 | e9 | e9 | e9 | e9 <;> subst b
      · left; rw [ez] at e1; cases e1; simp
      · left; rw [eTI] at e1; cases e1; simp
      · left; rw [eTO] at e1; cases e1; simp
      · left; rw [ho1] at e1; cases e1; simp
      · left; rw [ho2] at e1; cases e1; simp
      · right
        intro c'
        have e3 := (N₁ _ (.tail _ (.tail _ (List.mem_append.mpr (.inr (hl1 c)))))).1
        rw [e3] at e1; cases e1; exact hl1 c'
      · right
        intro c'
        have e3 := (N₁ _ (.tail _ (.tail _ (List.mem_append.mpr (.inr (hl2 c)))))).1
        rw [e3] at e1; cases e1; exact hl2 c'
    refine wpAny_mono (turn i ys c x y C oC D m₂ h tk _ _ _ _ _ oz oTI oTO o1 o2 hi hx hy hP hoC hNM hoff (fun b hb => hlo b ?_) hDC F₁ N₂) (fun ok s₃ h₃ => ?_) fun _ _ x => x
    · simp only [List.mem_cons, List.not_mem_nil, or_false] at hb ⊢
      rcases hb with e | e | e | e | e <;> simp [e]
    cases ok with
    | false => exact cend_own hk h₃
    | true => exact wpAny_mono h₃ (fun y s₄ h₄ => cend_own hk h₄) fun _ _ x => x
  · intro D C h tk m' ys c F₁ N₁ off hn hC₀ hCL hDL hCD hle hP
    exact hRR D C h tk m' ys c F₁ N₁ off hn hC₀ hCL hDL hCD (by
      have e9 : h'.objs.size ≤ D := hle
      rw [hsz'] at e9
      exact Nat.le_trans (Nat.le_add_right _ _) e9) hP
theorem comp_listE {σ : Type} {E : Value → Shared → Prop} {Q : Value → Shared → Prop} {elt iter : Expr} {x : Str} {px : Pos} {ifs : List Expr} {scope : Scope} {cl : List (Str × Addr)} {pos : Pos} {l : Addr} {vs : List Value} {ln : Nat}
    (G : σ → Array GenState) (Led : σ → List (Addr × Obj)) (P : Nat → List Value → σ → Prop) (c₀ : σ) (hh : A.handled = none) (hl : ∀ c, (l, listOf vs.toArray ln) ∈ Led c) (hsz : vs.length ≤ sizeLine)
    (hcell : ∀ y ∈ scope.names, y.2 ≠ .cell) (hkind : scope.kind = .function) (hx : scope.names.lookup x = some .local) (hg : s.gens = G c₀)
    (F : Fr h₀ L s.heap m) (N : News h₀ L s.heap (Led c₀)) (hp : P 0 [] c₀)
    (turn : ∀ i ys c v C oC D m₂ h tk it o, vs[i]? = some v → P i ys c → NsObj oC m₂ → m₂ x = some v → (∀ p ∈ Led c, p.1 ≠ it ∧ p.1 ≠ C ∧ p.1 ≠ D) → it < D → D < C →
      Fr h₀ L h m → News h₀ L h ((C, oC) :: (D, lst ys) :: (it, o) :: Led c) →
      wpAny (model prog w) A (forIn ifs true fun c r => if r = true then do let ok ← isTrue c (compEnvC scope cl C env) (eval c (compEnvC scope cl C env)); pure (ForInStep.yield ok) else pure (ForInStep.yield r)) (fun ok s₃ =>
        if ok = true then wpAny (model prog w) A (eval elt (compEnvC scope cl C env)) (fun y s₄ => CEnd h₀ L m s G [(it, o)] [it] C oC D (lst ys) Led (fun ys c => P (i + 1) (ys ++ [y]) c) ys s₄) (fun _ _ => False) s₃
        else CEnd h₀ L m s G [(it, o)] [it] C oC D (lst ys) Led (P (i + 1)) ys s₃) (fun _ _ => False) { s with heap := h, gens := G c, toks := tk })
    (done : ∀ D h tk ys c, Fr h₀ L h m → News h₀ L h ((D, lst ys) :: Led c) → (∀ p ∈ Led c, p.1 ≠ D) → s.heap.objs.size ≤ D → P vs.length ys c → Q (.ref D) { s with heap := h, gens := G c, toks := tk }) :
    wpAny (model prog w) A (pyIter (.ref l)) (fun it s₂ => wpAny (model prog w) A (newList []) (fun acc s₃ => wpAny (model prog w) A (newFunctionEnv scope env.globals cl [] env.qual none .none (some env)) (fun cenv s₄ =>
      codeAny (model prog w) A (.compStart (.ListComp elt [⟨.Name x px, iter, ifs, 0⟩] scope pos) 0 it acc { cenv with scope := relabel scope env }) (compPost (model prog w) A E none Q acc cenv.locals) s₄) E s₃) E s₂) E s :=
  comp_list (RR := fun acc C => compPost (model prog w) A E none Q acc C) G Led P c₀ hh hl hsz hcell hkind hx hg F N hp turn fun D C h tk m' ys c F N off hn hC₀ hCL hDL hCD hle hP => cpost_eval (G := G) (Led := Led) (P := fun ys c => P vs.length ys c) (c := c) done F N off hn hC₀ hCL hDL hCD hle hP
theorem comp_listA {σ : Type} {E : Value → Shared → Prop} {Q : Flow → Shared → Prop} {y₀ : Str} {py₀ : Pos} {elt iter : Expr} {x : Str} {px : Pos} {ifs : List Expr} {scope : Scope} {cl : List (Str × Addr)} {pos : Pos} {l : Addr} {vs : List Value} {ln : Nat}
    (G : σ → Array GenState) (Led : σ → List (Addr × Obj)) (P : Nat → List Value → σ → Prop) (c₀ : σ) (hh : A.handled = none) (hl : ∀ c, (l, listOf vs.toArray ln) ∈ Led c) (hsz : vs.length ≤ sizeLine)
    (hcell : ∀ y ∈ scope.names, y.2 ≠ .cell) (hkind : scope.kind = .function) (hx : scope.names.lookup x = some .local) (hg : s.gens = G c₀)
    (F : Fr h₀ L s.heap m) (N : News h₀ L s.heap (Led c₀)) (hp : P 0 [] c₀)
    (turn : ∀ i ys c v C oC D m₂ h tk it o, vs[i]? = some v → P i ys c → NsObj oC m₂ → m₂ x = some v → (∀ p ∈ Led c, p.1 ≠ it ∧ p.1 ≠ C ∧ p.1 ≠ D) → it < D → D < C →
      Fr h₀ L h m → News h₀ L h ((C, oC) :: (D, lst ys) :: (it, o) :: Led c) →
      wpAny (model prog w) A (forIn ifs true fun c r => if r = true then do let ok ← isTrue c (compEnvC scope cl C env) (eval c (compEnvC scope cl C env)); pure (ForInStep.yield ok) else pure (ForInStep.yield r)) (fun ok s₃ =>
        if ok = true then wpAny (model prog w) A (eval elt (compEnvC scope cl C env)) (fun y s₄ => CEnd h₀ L m s G [(it, o)] [it] C oC D (lst ys) Led (fun ys c => P (i + 1) (ys ++ [y]) c) ys s₄) (fun _ _ => False) s₃
        else CEnd h₀ L m s G [(it, o)] [it] C oC D (lst ys) Led (P (i + 1)) ys s₃) (fun _ _ => False) { s with heap := h, gens := G c, toks := tk })
    (hL : env.locals = L) (hy : env.kindOf y₀ = some .local) (hpl : (env.scope.kind == .class || (env.scope.kind == .module && env.locals != env.globals)) = false)
    (done : ∀ D h tk ys c, Fr h₀ L h (fun z => if z = y₀ then some (.ref D) else m z) → News h₀ L h ((D, lst ys) :: Led c) → (∀ p ∈ Led c, p.1 ≠ D) → s.heap.objs.size ≤ D → P vs.length ys c → Q .next { s with heap := h, gens := G c, toks := tk }) :
    wpAny (model prog w) A (pyIter (.ref l)) (fun it s₂ => wpAny (model prog w) A (newList []) (fun acc s₃ => wpAny (model prog w) A (newFunctionEnv scope env.globals cl [] env.qual none .none (some env)) (fun cenv s₄ =>
      codeAny (model prog w) A (.compStart (.ListComp elt [⟨.Name x px, iter, ifs, 0⟩] scope pos) 0 it acc { cenv with scope := relabel scope env }) (compPost (model prog w) A E (some (assign (.Name y₀ py₀) env)) (fun _ s' => Q .next s') acc cenv.locals) s₄) E s₃) E s₂) E s :=
  comp_list (RR := fun acc C => compPost (model prog w) A E (some (assign (.Name y₀ py₀) env)) (fun _ s' => Q .next s') acc C) G Led P c₀ hh hl hsz hcell hkind hx hg F N hp turn fun D C h tk m' ys c F N off hn hC₀ hCL hDL hCD hle hP => cpost_name (G := G) (Led := Led) (P := fun ys c => P vs.length ys c) (c := c) hL hy hpl done F N off hn hC₀ hCL hDL hCD hle hP
theorem comp_zipE {σ : Type} {E : Value → Shared → Prop} {Q : Value → Shared → Prop} {elt iter : Expr} {ifs : List Expr} {elts : List Expr} {kk : Nat} {tp : Pos} {scope : Scope} {cl : List (Str × Addr)} {pos : Pos} {l1 l2 : Addr} {xs ys₀ : List Value} {n1 n2 n : Nat}
    (G : σ → Array GenState) (Led : σ → List (Addr × Obj)) (P : Nat → List Value → σ → Prop) (NM : Nat → Value → Value → (Str → Option Value) → Prop) (c₀ : σ) (hh : A.handled = none) (hl1 : ∀ c, (l1, listOf xs.toArray n1) ∈ Led c) (hl2 : ∀ c, (l2, listOf ys₀.toArray n2) ∈ Led c) (hn1 : xs.length = n) (hn2 : ys₀.length = n) (hsz : n ≤ sizeLine)
    (hcell : ∀ y ∈ scope.names, y.2 ≠ .cell) (hkind : scope.kind = .function) (hg : s.gens = G c₀)
    (F : Fr h₀ L s.heap m) (N : News h₀ L s.heap (Led c₀)) (hp : P 0 [] c₀)
    (asg : ∀ i c x y T C (mc : Str → Option Value) (s' : Shared) (Q : Unit → Shared → Prop), i < n → xs[i]? = some x → ys₀[i]? = some y → s'.heap.IsTuple T #[x, y] → News h₀ L s'.heap (Led c) → s'.heap.Ns C mc → (∀ p ∈ Led c, p.1 ≠ C) →
      (∀ h' tk m₂, h'.Ns C m₂ → NM i x y m₂ → (∀ b o, b ≠ C → s'.heap.get? b = some o → h'.get? b = some o) → Q () { s' with heap := h', toks := tk }) → wpAny (model prog w) A (assign (.Tuple elts kk tp) (compEnvC scope cl C env) (.ref T)) Q (fun _ _ => False) s')
    (turn : ∀ i ys c x y C oC D m₂ h tk z TI TO i1 i2 oz oTI oTO o1 o2, i < n → xs[i]? = some x → ys₀[i]? = some y → P i ys c → NsObj oC m₂ → NM i x y m₂ → (∀ p ∈ Led c, p.1 ∉ [z, TO, i1, i2] ∧ p.1 ≠ C ∧ p.1 ≠ D) → (∀ b ∈ [z, TI, TO, i1, i2], b < D) → D < C →
      Fr h₀ L h m → News h₀ L h ((C, oC) :: (D, lst ys) :: (z, oz) :: (TI, oTI) :: (TO, oTO) :: (i1, o1) :: (i2, o2) :: Led c) →
      wpAny (model prog w) A (forIn ifs true fun c r => if r = true then do let ok ← isTrue c (compEnvC scope cl C env) (eval c (compEnvC scope cl C env)); pure (ForInStep.yield ok) else pure (ForInStep.yield r)) (fun ok s₃ =>
        if ok = true then wpAny (model prog w) A (eval elt (compEnvC scope cl C env)) (fun y s₄ => CEnd h₀ L m s G [(z, oz), (TI, oTI), (TO, oTO), (i1, o1), (i2, o2)] [z, TO, i1, i2] C oC D (lst ys) Led (fun ys c => P (i + 1) (ys ++ [y]) c) ys s₄) (fun _ _ => False) s₃
        else CEnd h₀ L m s G [(z, oz), (TI, oTI), (TO, oTO), (i1, o1), (i2, o2)] [z, TO, i1, i2] C oC D (lst ys) Led (P (i + 1)) ys s₃) (fun _ _ => False) { s with heap := h, gens := G c, toks := tk })
    (done : ∀ D h tk ys c, Fr h₀ L h m → News h₀ L h ((D, lst ys) :: Led c) → (∀ p ∈ Led c, p.1 ≠ D) → s.heap.objs.size ≤ D → P n ys c → Q (.ref D) { s with heap := h, gens := G c, toks := tk }) :
    wpAny (model prog w) A (call (.type "zip") [.ref l1, .ref l2]) (fun xv s₁ => wpAny (model prog w) A (pyIter xv) (fun it s₂ => wpAny (model prog w) A (newList []) (fun acc s₃ => wpAny (model prog w) A (newFunctionEnv scope env.globals cl [] env.qual none .none (some env)) (fun cenv s₄ =>
      codeAny (model prog w) A (.compStart (.ListComp elt [⟨.Tuple elts kk tp, iter, ifs, 0⟩] scope pos) 0 it acc { cenv with scope := relabel scope env }) (compPost (model prog w) A E none Q acc cenv.locals) s₄) E s₃) E s₂) E s₁) E s :=
  comp_zip (RR := fun acc C => compPost (model prog w) A E none Q acc C) G Led P NM c₀ hh hl1 hl2 hn1 hn2 hsz hcell hkind hg F N hp asg turn fun D C h tk m' ys c F N off hn hC₀ hCL hDL hCD hle hP => cpost_eval (G := G) (Led := Led) (P := fun ys c => P n ys c) (c := c) done F N off hn hC₀ hCL hDL hCD hle hP
theorem comp_zipA {σ : Type} {E : Value → Shared → Prop} {Q : Flow → Shared → Prop} {y₀ : Str} {py₀ : Pos} {elt iter : Expr} {ifs : List Expr} {elts : List Expr} {kk : Nat} {tp : Pos} {scope : Scope} {cl : List (Str × Addr)} {pos : Pos} {l1 l2 : Addr} {xs ys₀ : List Value} {n1 n2 n : Nat}
    (G : σ → Array GenState) (Led : σ → List (Addr × Obj)) (P : Nat → List Value → σ → Prop) (NM : Nat → Value → Value → (Str → Option Value) → Prop) (c₀ : σ) (hh : A.handled = none) (hl1 : ∀ c, (l1, listOf xs.toArray n1) ∈ Led c) (hl2 : ∀ c, (l2, listOf ys₀.toArray n2) ∈ Led c) (hn1 : xs.length = n) (hn2 : ys₀.length = n) (hsz : n ≤ sizeLine)
    (hcell : ∀ y ∈ scope.names, y.2 ≠ .cell) (hkind : scope.kind = .function) (hg : s.gens = G c₀)
    (F : Fr h₀ L s.heap m) (N : News h₀ L s.heap (Led c₀)) (hp : P 0 [] c₀)
    (asg : ∀ i c x y T C (mc : Str → Option Value) (s' : Shared) (Q : Unit → Shared → Prop), i < n → xs[i]? = some x → ys₀[i]? = some y → s'.heap.IsTuple T #[x, y] → News h₀ L s'.heap (Led c) → s'.heap.Ns C mc → (∀ p ∈ Led c, p.1 ≠ C) →
      (∀ h' tk m₂, h'.Ns C m₂ → NM i x y m₂ → (∀ b o, b ≠ C → s'.heap.get? b = some o → h'.get? b = some o) → Q () { s' with heap := h', toks := tk }) → wpAny (model prog w) A (assign (.Tuple elts kk tp) (compEnvC scope cl C env) (.ref T)) Q (fun _ _ => False) s')
    (turn : ∀ i ys c x y C oC D m₂ h tk z TI TO i1 i2 oz oTI oTO o1 o2, i < n → xs[i]? = some x → ys₀[i]? = some y → P i ys c → NsObj oC m₂ → NM i x y m₂ → (∀ p ∈ Led c, p.1 ∉ [z, TO, i1, i2] ∧ p.1 ≠ C ∧ p.1 ≠ D) → (∀ b ∈ [z, TI, TO, i1, i2], b < D) → D < C →
      Fr h₀ L h m → News h₀ L h ((C, oC) :: (D, lst ys) :: (z, oz) :: (TI, oTI) :: (TO, oTO) :: (i1, o1) :: (i2, o2) :: Led c) →
      wpAny (model prog w) A (forIn ifs true fun c r => if r = true then do let ok ← isTrue c (compEnvC scope cl C env) (eval c (compEnvC scope cl C env)); pure (ForInStep.yield ok) else pure (ForInStep.yield r)) (fun ok s₃ =>
        if ok = true then wpAny (model prog w) A (eval elt (compEnvC scope cl C env)) (fun y s₄ => CEnd h₀ L m s G [(z, oz), (TI, oTI), (TO, oTO), (i1, o1), (i2, o2)] [z, TO, i1, i2] C oC D (lst ys) Led (fun ys c => P (i + 1) (ys ++ [y]) c) ys s₄) (fun _ _ => False) s₃
        else CEnd h₀ L m s G [(z, oz), (TI, oTI), (TO, oTO), (i1, o1), (i2, o2)] [z, TO, i1, i2] C oC D (lst ys) Led (P (i + 1)) ys s₃) (fun _ _ => False) { s with heap := h, gens := G c, toks := tk })
    (hL : env.locals = L) (hy : env.kindOf y₀ = some .local) (hpl : (env.scope.kind == .class || (env.scope.kind == .module && env.locals != env.globals)) = false)
    (done : ∀ D h tk ys c, Fr h₀ L h (fun z => if z = y₀ then some (.ref D) else m z) → News h₀ L h ((D, lst ys) :: Led c) → (∀ p ∈ Led c, p.1 ≠ D) → s.heap.objs.size ≤ D → P n ys c → Q .next { s with heap := h, gens := G c, toks := tk }) :
    wpAny (model prog w) A (call (.type "zip") [.ref l1, .ref l2]) (fun xv s₁ => wpAny (model prog w) A (pyIter xv) (fun it s₂ => wpAny (model prog w) A (newList []) (fun acc s₃ => wpAny (model prog w) A (newFunctionEnv scope env.globals cl [] env.qual none .none (some env)) (fun cenv s₄ =>
      codeAny (model prog w) A (.compStart (.ListComp elt [⟨.Tuple elts kk tp, iter, ifs, 0⟩] scope pos) 0 it acc { cenv with scope := relabel scope env }) (compPost (model prog w) A E (some (assign (.Name y₀ py₀) env)) (fun _ s' => Q .next s') acc cenv.locals) s₄) E s₃) E s₂) E s₁) E s :=
  comp_zip (RR := fun acc C => compPost (model prog w) A E (some (assign (.Name y₀ py₀) env)) (fun _ s' => Q .next s') acc C) G Led P NM c₀ hh hl1 hl2 hn1 hn2 hsz hcell hkind hg F N hp asg turn fun D C h tk m' ys c F N off hn hC₀ hCL hDL hCD hle hP => cpost_name (G := G) (Led := Led) (P := fun ys c => P n ys c) (c := c) hL hy hpl done F N off hn hC₀ hCL hDL hCD hle hP
end
end Mine
end TComp

section TEnum
open PySem PySem.W PyProof.Rows PySem.Spec PySem.Calls PyProof PyProof.Rows.LCg
set_option Elab.async false
set_option maxRecDepth 100000
set_option maxHeartbeats 4000000
set_option linter.unusedVariables false
namespace Mine
section
variable {prog : Program} {w : World} {A : Around} {s : Shared} {env : Env} {h₀ : Heap} {L : Addr} {m : Str → Option Value}
theorem emem3 {n l b : Nat} (h : b ∈ [n + 1, n, l]) : (n ≤ b ∧ b < n + 2) ∨ b = l := by
  simp only [List.mem_cons, List.not_mem_nil, or_false] at h; kst_p2
theorem emem2 {n b : Nat} (h : b ∈ [n + 1, n]) : n ≤ b ∧ b < n + 2 := by
  simp only [List.mem_cons, List.not_mem_nil, or_false] at h; kst_p2
theorem comp_enum {σ : Type} {E : Value → Shared → Prop} {elt iter : Expr} {ifs : List Expr} {a b : Str} {pa pb tp : Pos} {kk : Nat} {scope : Scope} {cl : List (Str × Addr)} {pos : Pos} {l : Addr} {vs : List Value} {ln : Nat} {RR : Value → Addr → Result → Shared → Prop}
    (G : σ → Array GenState) (Led : σ → List (Addr × Obj)) (P : Nat → List Value → σ → Prop) (c₀ : σ) (hh : A.handled = none) (hl : ∀ c, (l, listOf vs.toArray ln) ∈ Led c) (hsz : vs.length ≤ sizeLine)
    (hcell : ∀ y ∈ scope.names, y.2 ≠ .cell) (hkind : scope.kind = .function) (hxa : scope.names.lookup a = some .local) (hxb : scope.names.lookup b = some .local) (hab : a ≠ b) (hg : s.gens = G c₀)
    (F : Fr h₀ L s.heap m) (N : News h₀ L s.heap (Led c₀)) (hp : P 0 [] c₀)
    (turn : ∀ i ys c t v C oC D m₂ h tk e it oe oi, vs[i]? = some v → P i ys c → NsObj oC m₂ → m₂ a = some (.int (i : Nat) t) → m₂ b = some v → (∀ p ∈ Led c, p.1 ∉ [e, it] ∧ p.1 ≠ C ∧ p.1 ≠ D) → (∀ b ∈ [e, it], b < D) → D < C →
      Fr h₀ L h m → News h₀ L h ((C, oC) :: (D, lst ys) :: (e, oe) :: (it, oi) :: Led c) →
      wpAny (model prog w) A (forIn ifs true fun c r => if r = true then do let ok ← isTrue c (compEnvC scope cl C env) (eval c (compEnvC scope cl C env)); pure (ForInStep.yield ok) else pure (ForInStep.yield r)) (fun ok s₃ =>
        if ok = true then wpAny (model prog w) A (eval elt (compEnvC scope cl C env)) (fun y s₄ => CEnd h₀ L m s G [(e, oe), (it, oi)] [e, it] C oC D (lst ys) Led (fun ys c => P (i + 1) (ys ++ [y]) c) ys s₄) (fun _ _ => False) s₃
        else CEnd h₀ L m s G [(e, oe), (it, oi)] [e, it] C oC D (lst ys) Led (P (i + 1)) ys s₃) (fun _ _ => False) { s with heap := h, gens := G c, toks := tk })
    (hRR : ∀ D C h tk m' ys c, Fr h₀ L h m → News h₀ L h ((D, lst ys) :: Led c) → (∀ p ∈ Led c, p.1 ≠ D ∧ p.1 ≠ C) → h.Ns C m' → h₀.get? C = none → C ≠ L → D ≠ L → C ≠ D → s.heap.objs.size ≤ D → P vs.length ys c → RR (.ref D) C (.ok .next) { s with heap := h, gens := G c, toks := tk }) :
    wpAny (model prog w) A (call (.type "enumerate") [.ref l]) (fun xv s₁ => wpAny (model prog w) A (pyIter xv) (fun it s₂ => wpAny (model prog w) A (newList []) (fun acc s₃ => wpAny (model prog w) A (newFunctionEnv scope env.globals cl [] env.qual none .none (some env)) (fun cenv s₄ =>
      codeAny (model prog w) A (.compStart (.ListComp elt [⟨.Tuple [.Name a pa, .Name b pb] kk tp, iter, ifs, 0⟩] scope pos) 0 it acc { cenv with scope := relabel scope env }) (RR acc cenv.locals) s₄) E s₃) E s₂) E s₁) E s := by
  have ha1 := N _ (hl c₀)
  have hls : s.heap.IsList l vs.toArray := ⟨_, ha1.1, rfl, _, rfl⟩
  have hlt : l < s.heap.objs.size := Heap.lt_size ha1.1
  have hLs : L < s.heap.objs.size := F.ns.lt
  refine call_enumerate_list hls fun h' hE hI hsz' hk => ?_
  refine wpAny_pyIter_enum hE ?_
  have W₀ := (WalksT.enumerate (prog := prog) (w := w) hh (s.heap.objs.size + 1) s.heap.objs.size l (Nat.succ_ne_self _) (ktu_ne 1 hlt) (Nat.ne_of_lt hlt) vs.toArray).toU
  have hlen : vs.toArray.size = vs.length := by simp
  rw [hlen] at W₀
  have W := KTurns.ofWalksU (elts := [.Name a pa, .Name b pb]) (k := kk) (pos := tp) W₀
  have hnew : ∀ b, s.heap.objs.size ≤ b → h₀.get? b = none := fun b hb => ktu_new F hb
  refine comp_block (s := { s with heap := h' }) (RR := RR) G Led P (fun i v m₂ => ∃ t x, vs[i]? = some x ∧ m₂ a = some (.int (i : Nat) t) ∧ m₂ b = some x) c₀ W (fun s Q E st q => W₀.self 0 s Q E st q) hsz hcell hkind ⟨⟨_, hE⟩, hI, hls.at fun o e => hk _ o e⟩ ?_ ?_ ?_ hg (F.keeps hk) (N.grown hk) ?_ hp ?_ ?_ ?_
  · intro b hb
    show b < h'.objs.size
    rw [hsz']
    rcases emem3 hb with e | rfl
    · exact e.2
    · exact Nat.lt_of_lt_of_le hlt (Nat.le_add_right _ _)
  · intro hm
    rcases emem3 hm with e | e
    · exact absurd hLs (Nat.not_lt.mpr e.1)
    · exact ha1.2.1 e.symm
  · intro b hb
    exact hnew b (emem2 hb).1
  · intro p hp hI
    exact absurd (Heap.lt_size (N p hp).1) (Nat.not_lt.mpr (emem2 hI).1)
  · intro i c v C mc s' Q hi hv N₁ hn hoff h
    refine Mine.gk ?_
    intro Gz9 kz9
    obtain ⟨T, vals, rfl, ⟨t, x, hx, rfl⟩, hT⟩ := hv
    refine kz9 ?_
    (try clear kz9 Gz9)
    have hx' : vs[i]? = some x := by simpa using hx
    exact asg_pair hh hT hkind hxa hxb hab hn fun h' tk m₂ hn₂ h1 h2 hk => h h' tk m₂ hn₂ ⟨t, x, hx', h1, h2⟩ hk
  · intro i ys c v C oC D m₂ h tk own hi hP hoC hNM hown hown2 hst₁ hoff hlo hDC F₁ N₁
    refine Mine.gk ?_
    intro Gz9 kz9
    obtain ⟨t, x, hx, h1, h2⟩ := hNM
    refine kz9 ?_
    (try clear kz9 Gz9)
    refine Mine.gk ?_
    intro Gz9 kz9
    obtain ⟨⟨old, he₁⟩, ⟨oi, hoi, _⟩, _⟩ := hst₁
    refine kz9 ?_
    (try clear kz9 Gz9)
    obtain ⟨oe, ee⟩ : ∃ o, h.get? (s.heap.objs.size + 1) = some o := ⟨_, he₁⟩
    have me := hown2 _ (by simp) (hnew _ (Nat.le_add_right _ _)) _ ee
    have mi := hown2 _ (by simp) (hnew _ (Nat.le_refl _)) _ hoi
    have N₂ : News h₀ L h ((C, oC) :: (D, lst ys) :: (s.heap.objs.size + 1, oe) :: (s.heap.objs.size, oi) :: Led c) := Mine.fmc (N₁ _ (.head _)) (Mine.fmc (N₁ _ (.tail _ (.head _))) (Mine.fmc (N₁ _ (.tail _ (.tail _ (List.mem_append.mpr (.inl me))))) (Mine.fmc (N₁ _ (.tail _ (.tail _ (List.mem_append.mpr (.inl mi))))) (fun p hp => N₁ _ (.tail _ (.tail _ (List.mem_append.mpr (.inr hp))))))))
    have hk9 : ∀ p ∈ own, p ∈ [(s.heap.objs.size + 1, oe), (s.heap.objs.size, oi)] ∨ ∀ c, p ∈ Led c := fun p hp => by
      have e1 := (N₁ p (.tail _ (.tail _ (List.mem_append.mpr (.inl hp))))).1
      have := hown p hp
      obtain ⟨b, ob⟩ := p
      dsimp only at e1 this
      simp only [List.mem_cons, List.not_mem_nil, or_false] at this
      rcases this with e9 | e9 | e9 <;> subst b
      · left; rw [ee] at e1; cases e1; simp
      · left; rw [hoi] at e1; cases e1; simp
      · right
        intro c'
        have e3 := (N₁ _ (.tail _ (.tail _ (List.mem_append.mpr (.inr (hl c)))))).1
        rw [e3] at e1; cases e1; exact hl c'
    refine wpAny_mono (turn i ys c t x C oC D m₂ h tk _ _ oe oi hx hP hoC h1 h2 hoff (fun b hb => hlo b ?_) hDC F₁ N₂) (fun ok s₃ h₃ => ?_) fun _ _ x => x
    · simp only [List.mem_cons, List.not_mem_nil, or_false] at hb ⊢
      rcases hb with e | e <;> simp [e]
    cases ok with
    | false => exact cend_own hk9 h₃
    | true => exact wpAny_mono h₃ (fun y s₄ h₄ => cend_own hk9 h₄) fun _ _ x => x
  · intro D C h tk m' ys c F₁ N₁ off hn hC₀ hCL hDL hCD hle hP
    exact hRR D C h tk m' ys c F₁ N₁ off hn hC₀ hCL hDL hCD (by
      have e9 : h'.objs.size ≤ D := hle
      rw [hsz'] at e9
      exact Nat.le_trans (Nat.le_add_right _ _) e9) hP
theorem comp_enumA {σ : Type} {E : Value → Shared → Prop} {Q : Flow → Shared → Prop} {y₀ : Str} {py₀ : Pos} {elt iter : Expr} {ifs : List Expr} {a b : Str} {pa pb tp : Pos} {kk : Nat} {scope : Scope} {cl : List (Str × Addr)} {pos : Pos} {l : Addr} {vs : List Value} {ln : Nat}
    (G : σ → Array GenState) (Led : σ → List (Addr × Obj)) (P : Nat → List Value → σ → Prop) (c₀ : σ) (hh : A.handled = none) (hl : ∀ c, (l, listOf vs.toArray ln) ∈ Led c) (hsz : vs.length ≤ sizeLine)
    (hcell : ∀ y ∈ scope.names, y.2 ≠ .cell) (hkind : scope.kind = .function) (hxa : scope.names.lookup a = some .local) (hxb : scope.names.lookup b = some .local) (hab : a ≠ b) (hg : s.gens = G c₀)
    (F : Fr h₀ L s.heap m) (N : News h₀ L s.heap (Led c₀)) (hp : P 0 [] c₀)
    (turn : ∀ i ys c t v C oC D m₂ h tk e it oe oi, vs[i]? = some v → P i ys c → NsObj oC m₂ → m₂ a = some (.int (i : Nat) t) → m₂ b = some v → (∀ p ∈ Led c, p.1 ∉ [e, it] ∧ p.1 ≠ C ∧ p.1 ≠ D) → (∀ b ∈ [e, it], b < D) → D < C →
      Fr h₀ L h m → News h₀ L h ((C, oC) :: (D, lst ys) :: (e, oe) :: (it, oi) :: Led c) →
      wpAny (model prog w) A (forIn ifs true fun c r => if r = true then do let ok ← isTrue c (compEnvC scope cl C env) (eval c (compEnvC scope cl C env)); pure (ForInStep.yield ok) else pure (ForInStep.yield r)) (fun ok s₃ =>
        if ok = true then wpAny (model prog w) A (eval elt (compEnvC scope cl C env)) (fun y s₄ => CEnd h₀ L m s G [(e, oe), (it, oi)] [e, it] C oC D (lst ys) Led (fun ys c => P (i + 1) (ys ++ [y]) c) ys s₄) (fun _ _ => False) s₃
        else CEnd h₀ L m s G [(e, oe), (it, oi)] [e, it] C oC D (lst ys) Led (P (i + 1)) ys s₃) (fun _ _ => False) { s with heap := h, gens := G c, toks := tk })
    (hL : env.locals = L) (hy : env.kindOf y₀ = some .local) (hpl : (env.scope.kind == .class || (env.scope.kind == .module && env.locals != env.globals)) = false)
    (done : ∀ D h tk ys c, Fr h₀ L h (fun z => if z = y₀ then some (.ref D) else m z) → News h₀ L h ((D, lst ys) :: Led c) → (∀ p ∈ Led c, p.1 ≠ D) → s.heap.objs.size ≤ D → P vs.length ys c → Q .next { s with heap := h, gens := G c, toks := tk }) :
    wpAny (model prog w) A (call (.type "enumerate") [.ref l]) (fun xv s₁ => wpAny (model prog w) A (pyIter xv) (fun it s₂ => wpAny (model prog w) A (newList []) (fun acc s₃ => wpAny (model prog w) A (newFunctionEnv scope env.globals cl [] env.qual none .none (some env)) (fun cenv s₄ =>
      codeAny (model prog w) A (.compStart (.ListComp elt [⟨.Tuple [.Name a pa, .Name b pb] kk tp, iter, ifs, 0⟩] scope pos) 0 it acc { cenv with scope := relabel scope env }) (compPost (model prog w) A E (some (assign (.Name y₀ py₀) env)) (fun _ s' => Q .next s') acc cenv.locals) s₄) E s₃) E s₂) E s₁) E s :=
  comp_enum (RR := fun acc C => compPost (model prog w) A E (some (assign (.Name y₀ py₀) env)) (fun _ s' => Q .next s') acc C) G Led P c₀ hh hl hsz hcell hkind hxa hxb hab hg F N hp turn fun D C h tk m' ys c F N off hn hC₀ hCL hDL hCD hle hP => cpost_name (G := G) (Led := Led) (P := fun ys c => P vs.length ys c) (c := c) hL hy hpl done F N off hn hC₀ hCL hDL hCD hle hP
theorem store_cell {M : Model} {A : Around} {E : Value → Shared → Prop} {Q : Unit → Shared → Prop} {cn : Str} {cs : Scope} {a : Addr} {ccd : Value} {cl : List (Str × Addr)} {x : Str} {v : Value} {cc : Addr} {oc : Obj} {v0 : Option Value} {rest : List (Addr × Obj)}
    (F : Fr h₀ L s.heap m) (N : News h₀ L s.heap ((cc, oc) :: rest)) (hcc : ∀ p ∈ rest, p.1 ≠ cc) (hc : cl.lookup x = some cc) (hd : oc.data = .cell v0) (hk : cs.kind = .function) (hx : (envX cn cs L a ccd cl).kindOf x = some .cell)
    (h : ∀ h' o', Fr h₀ L h' m → News h₀ L h' ((cc, o') :: rest) → o'.data = .cell (some v) → Q () { s with heap := h' }) : wpAny M A (storeName (envX cn cs L a ccd cl) x v) Q E s := by
  have hm := N (cc, oc) (.head _)
  refine wpAny_storeName_cell hk hx hc ⟨oc, hm.1, hd⟩ fun h' hv hs => ?_
  obtain ⟨o', ho', hd'⟩ := hv
  refine h h' o' (F.change hs hm.2.1 hm.2.2) (fun p hp => ?_) hd'
  rcases List.mem_cons.mp hp with rfl | hp
  · exact ⟨ho', hm.2⟩
  · exact ⟨hs.extBut _ _ (hcc p hp) (N p (.tail _ hp)).1, (N p (.tail _ hp)).2⟩
theorem ints_snoc {ys : List Value} {ns : List Int} {n : Int} {t : Tok} (h : IntsAre ys ns) : IntsAre (ys ++ [.int n t]) (ns ++ [n]) := by
  induction h with
  | nil => exact .cons _ _ .nil
  | cons _ _ _ ih => exact .cons _ _ ih
theorem sum_bnd : ∀ l : List Int, (∀ x ∈ l, 0 ≤ x ∧ x < 1000000) → 0 ≤ l.sum ∧ l.sum ≤ 1000000 * (l.length : Int)
  | [], _ => ⟨by simp, by simp⟩
  | x :: r, h => by
    have h1 := h x (.head _)
    have h2 := sum_bnd r fun y hy => h y (.tail _ hy)
    rw [List.sum_cons, List.length_cons]
    kst_p2
theorem pick_sum {ys : List Value} {zs : List Nat} (hz : IntsAre ys (List.map (fun y : Nat => (y : Int)) zs)) (hl : zs.length ≤ 12) (hb : ∀ z ∈ zs, z < 1000000) (lo hi st : Option Int) :
    ∃ k : Nat, (pickNums (List.map (fun y : Nat => (y : Int)) zs) lo hi st).sum = (k : Int) ∧ k ≤ 12000000 := by
  have h1 := length_pickNums_le hz lo hi st
  rw [List.length_map] at h1
  have h2 := sum_bnd (pickNums (List.map (fun y : Nat => (y : Int)) zs) lo hi st) (fun x hx => by
    unfold pickNums at hx
    obtain ⟨j, _, hj⟩ := List.mem_filterMap.mp hx
    have hm := List.mem_of_getElem? hj
    obtain ⟨z, hz, rfl⟩ := List.mem_map.mp hm
    have := hb z hz
    kst_p2)
  refine ⟨(pickNums (List.map (fun y : Nat => (y : Int)) zs) lo hi st).sum.toNat, (Int.toNat_of_nonneg h2.1).symm, ?_⟩
  kst_p2
theorem seed_at {ta tb tc td : Tok} {i : Nat} {v : Value} (h : [Value.int 48 ta, .int 85 tb, .int 29 tc, .int 14 td][i]? = some v) : ∃ (sd : Nat) (t : Tok), v = .int (sd : Int) t ∧ sd ≤ 85 := by
  rcases i with _ | _ | _ | _ | i
  · exact ⟨48, ta, (Option.some.inj h).symm, by decide⟩
  · exact ⟨85, tb, (Option.some.inj h).symm, by decide⟩
  · exact ⟨29, tc, (Option.some.inj h).symm, by decide⟩
  · exact ⟨14, td, (Option.some.inj h).symm, by decide⟩
  · exact nomatch h
theorem nat_sum : ∀ l : List Nat, (List.map (fun y : Nat => (y : Int)) l).sum = ((l.sum : Nat) : Int)
  | [] => rfl
  | x :: r => by rw [List.map_cons, List.sum_cons, List.sum_cons, nat_sum r, Int.natCast_add]
theorem wd_nat (n : Nat) : (10 : Int) + Int.fmod (((n : Nat) : Int) + 2) 16 = ((10 + (n + 2) % 16 : Nat) : Int) := by
  rw [Int.fmod_eq_emod_of_nonneg _ (by kst_p2)]
  kst_p2
end
end Mine
end TEnum

section TNest
open PySem PySem.W PyProof.Rows PySem.Spec PySem.Calls PyProof PyProof.Rows.LCg
set_option Elab.async false
set_option maxRecDepth 100000
set_option maxHeartbeats 4000000
set_option linter.unusedVariables false
namespace Mine
theorem turn_out (elt t1 i1 t2 i2 : Expr) (scope : Scope) (pos : Pos) (it acc : Value) (env : Env) :
    compTurn (.ListComp elt [⟨t1, i1, [], 0⟩, ⟨t2, i2, [], 0⟩] scope pos) 0 it acc env = (do
      standAt i1.pos
      match ← pyNext it with
      | none => pure (.done .next)
      | some v =>
        letOwnedTupleGo t1 it v
        assign t1 env v
        let x ← eval i2 env
        standAt i2.pos
        let x ← foldedSetIterable i2 env x
        let it2 ← holding [x] (pyIter x)
        let _ ← runOwn (.compStart (.ListComp elt [⟨t1, i1, [], 0⟩, ⟨t2, i2, [], 0⟩] scope pos) 1 it2 acc env) env
        again (.compLoop (.ListComp elt [⟨t1, i1, [], 0⟩, ⟨t2, i2, [], 0⟩] scope pos) 0 it acc env)) := by rfl
theorem turn_in (elt t1 i1 t2 i2 : Expr) (scope : Scope) (pos : Pos) (it acc : Value) (env : Env) :
    compTurn (.ListComp elt [⟨t1, i1, [], 0⟩, ⟨t2, i2, [], 0⟩] scope pos) 1 it acc env = (do
      standAt i2.pos
      match ← pyNext it with
      | none => pure (.done .next)
      | some v =>
        letOwnedTupleGo t2 it v
        assign t2 env v
        (do let _ ← call (.builtin "list.append") [acc, ← eval elt env])
        again (.compLoop (.ListComp elt [⟨t1, i1, [], 0⟩, ⟨t2, i2, [], 0⟩] scope pos) 1 it acc env)) := by rfl
section
variable {prog : Program} {w : World} {A : Around} {s : Shared} {env : Env} {h₀ : Heap} {L : Addr} {m : Str → Option Value}
theorem loop_out {elt t1 i1 t2 i2 : Expr} {scope : Scope} {pos : Pos} {it acc : Value} {env : Env} {R : Result → Shared → Prop} (I : Nat → Shared → Prop)
    (hf : ∀ x, foldedSetIterable i2 env x = pure x)
    (turn : ∀ n s, I n s → wpAny (model prog w) A (pyNext it) (fun r s₁ => match r with
      | none => R (.ok .next) s₁
      | some v => wpAny (model prog w) A (letOwnedTupleGo t1 it v) (fun _ s₀ => wpAny (model prog w) A (assign t1 env v) (fun _ s₂ =>
          wpAny (model prog w) A (eval i2 env) (fun x s₃ => wpAny (model prog w) A (pyIter x) (fun it2 s₄ =>
            codeAny (model prog w) A (.compStart (.ListComp elt [⟨t1, i1, [], 0⟩, ⟨t2, i2, [], 0⟩] scope pos) 1 it2 acc env) (fun r s₅ => match r with
              | .ok _ => ∃ m, m < n ∧ I m s₅
              | .error _ => False) s₄) (fun _ _ => False) s₃) (fun _ _ => False) s₂)
          (fun _ _ => False) s₀) (fun _ _ => False) s₁) (fun _ _ => False) s)
    (n : Nat) (h : I n s) : codeAny (model prog w) A (.compLoop (.ListComp elt [⟨t1, i1, [], 0⟩, ⟨t2, i2, [], 0⟩] scope pos) 0 it acc env) R s := by
  have no : ∀ (a : Value) (b : Shared), False → notedBy (model prog w) A env (fun e s' => R (.error e) s') a b := fun _ _ x => x.elim
  refine codeAny_loop rfl I (fun n s hI => ?_) n h
  show wpAny _ A ((compTurn (.ListComp elt [⟨t1, i1, [], 0⟩, ⟨t2, i2, [], 0⟩] scope pos) 0 it acc env).onRaise (fun x => do noteFrame x env; theTreesLotGoes x)) _ _ s
  refine wpAny_noted ?_
  rw [turn_out]
  refine wpAny_bind (wpAny_standAt (wpAny_bind (wpAny_mono (turn n s hI) (fun r s₁ h₁ => ?_) no)))
  cases r with
  | none => exact wpAny_pure h₁
  | some v =>
    refine wpAny_bind (wpAny_mono h₁ (fun _ s₀ h₀' => ?_) no)
    refine wpAny_bind (wpAny_mono h₀' (fun _ s₂ h₂ => ?_) no)
    refine wpAny_bind (wpAny_mono h₂ (fun x s₃ h₃ => ?_) no)
    refine wpAny_bind (wpAny_standAt ?_)
    rw [hf]
    refine wpAny_bind (wpAny_pure ?_)
    refine wpAny_bind (wpAny_holding (wpAny_mono h₃ (fun it2 s₄ h₄ => ?_) no))
    refine wpAny_bind (wpAny_runOwn (codeAny_mono h₄ fun r s₅ h₅ => ?_))
    cases r with
    | error e => exact h₅.elim
    | ok f => exact wpAny_pure ⟨rfl, h₅⟩
theorem loop_in {elt t1 i1 t2 i2 : Expr} {scope : Scope} {pos : Pos} {it acc : Value} {env : Env} {R : Result → Shared → Prop} (I : Nat → Shared → Prop)
    (turn : ∀ n s, I n s → wpAny (model prog w) A (pyNext it) (fun r s₁ => match r with
      | none => R (.ok .next) s₁
      | some v => wpAny (model prog w) A (letOwnedTupleGo t2 it v) (fun _ s₀ => wpAny (model prog w) A (assign t2 env v) (fun _ s₂ =>
          wpAny (model prog w) A (eval elt env) (fun x s₄ =>
            wpAny (model prog w) A (call (.builtin "list.append") [acc, x]) (fun _ s₅ => ∃ m, m < n ∧ I m s₅) (fun _ _ => False) s₄) (fun _ _ => False) s₂)
          (fun _ _ => False) s₀) (fun _ _ => False) s₁) (fun _ _ => False) s)
    (n : Nat) (h : I n s) : codeAny (model prog w) A (.compLoop (.ListComp elt [⟨t1, i1, [], 0⟩, ⟨t2, i2, [], 0⟩] scope pos) 1 it acc env) R s := by
  have no : ∀ (a : Value) (b : Shared), False → notedBy (model prog w) A env (fun e s' => R (.error e) s') a b := fun _ _ x => x.elim
  refine codeAny_loop rfl I (fun n s hI => ?_) n h
  show wpAny _ A ((compTurn (.ListComp elt [⟨t1, i1, [], 0⟩, ⟨t2, i2, [], 0⟩] scope pos) 1 it acc env).onRaise (fun x => do noteFrame x env; theTreesLotGoes x)) _ _ s
  refine wpAny_noted ?_
  rw [turn_in]
  refine wpAny_bind (wpAny_standAt (wpAny_bind (wpAny_mono (turn n s hI) (fun r s₁ h₁ => ?_) no)))
  cases r with
  | none => exact wpAny_pure h₁
  | some v =>
    refine wpAny_bind (wpAny_mono h₁ (fun _ s₀ h₀' => ?_) no)
    refine wpAny_bind (wpAny_mono h₀' (fun _ s₂ h₂ => ?_) no)
    exact wpAny_bind (wpAny_bind (wpAny_mono h₂ (fun x s₄ h₄ => wpAny_bind (wpAny_mono h₄ (fun _ s₅ h₅ => wpAny_pure (wpAny_pure ⟨rfl, h₅⟩)) no)) no))
theorem start_in {R : Result → Shared → Prop} {elt t1 i1 t2 i2 : Expr} {scope : Scope} {pos : Pos} {it acc : Value} {env : Env}
    (h0 : codeAny (model prog w) A (.compLoop (.ListComp elt [⟨t1, i1, [], 0⟩, ⟨t2, i2, [], 0⟩] scope pos) 1 it acc env) R s)
    (h : wpAny (model prog w) A (pyIter it) (fun it' s' => codeAny (model prog w) A (.compLoop (.ListComp elt [⟨t1, i1, [], 0⟩, ⟨t2, i2, [], 0⟩] scope pos) 1 it' acc env) R s')
      (fun _ _ => False) s) :
    codeAny (model prog w) A (.compStart (.ListComp elt [⟨t1, i1, [], 0⟩, ⟨t2, i2, [], 0⟩] scope pos) 1 it acc env) R s := by
  refine codeAny_of_tree ?_
  show wpAny _ _ ((compStart (.ListComp elt [⟨t1, i1, [], 0⟩, ⟨t2, i2, [], 0⟩] scope pos) 1 it acc env).onRaise (fun x => do noteFrame x env; standAt theWindowsPlace)) _ _ s
  refine wpAny_notedAt ?_
  unfold compStart
  show wpAny _ _ (ask >>= _) _ _ s
  refine wpAny_bind (wpAny_askSetting (wpAny_ite ?_))
  split
  · first
      | exact wpAny_bind (wpAny_pure (wpAny_pure (And.intro rfl h0)))
      | exact wpAny_pure (And.intro rfl h0)
  · first
      | exact wpAny_bind (wpAny_rule (wpAny_bind (wpAny_standAt (wpAny_bind (wpAny_mono h (fun it' s' h' => wpAny_pure (And.intro rfl h')) fun _ _ x => x.elim)))))
      | (refine wpAny_bind (wpAny_rule ?_); show wpAny _ _ (standAt i2.pos >>= _) _ _ s; exact wpAny_bind (wpAny_standAt (wpAny_bind (wpAny_mono h (fun it' s' h' => wpAny_pure (And.intro rfl h')) fun _ _ x => x.elim))))
end
end Mine
end TNest

section TNest2
open PySem PySem.W PyProof.Rows PySem.Spec PySem.Calls PyProof PyProof.Rows.LCg
set_option Elab.async false
set_option maxRecDepth 100000
set_option maxHeartbeats 4000000
set_option linter.unusedVariables false
namespace Mine
section
variable {prog : Program} {w : World} {A : Around} {s : Shared} {env : Env} {h₀ : Heap} {L : Addr} {m : Str → Option Value}
theorem na1 {I b C : Nat} (h : C = I + 2) (hb : b < I + 1) : b ≠ C := by kst_p2
theorem na2 {I L D k : Nat} (h : D = I + k) (hb : L < I) : D ≠ L := by kst_p2
theorem na3 {I C : Nat} (h : C = I + 2) : I ≠ C := by kst_p2
theorem na4 {I b k : Nat} (h : b < I) (e : b = I + k) : False := by kst_p2
inductive NI (n : Nat) (len : Nat → Nat) (s : Shared) (h₀ : Heap) (L : Addr) (m : Str → Option Value) (C J l : Addr) (X : (Str → Option Value) → Prop) (base : List Value → List (Addr × Obj) → List (Addr × Obj)) (off : List Addr) (P : Nat → List Value → List (Addr × Obj) → Prop) (k : Nat) (s' : Shared) : Prop
  | mk (h' : Heap) (tk i : Nat) (ys : List Value) (m' : Str → Option Value) (tl : List (Addr × Obj)) : s' = { s with heap := h', toks := tk } → i ≤ n → k = n + 1 - i → ys.length = len i → h'.IsListIter J l i → Fr h₀ L h' m → h'.Ns C m' → X m' → News h₀ L h' (base ys tl) → (∀ p ∈ tl, p.1 ∉ off) → P i ys tl → NI n len s h₀ L m C J l X base off P k s'
noncomputable def NEnd (h₀ : Heap) (L : Addr) (m : Str → Option Value) (s : Shared) (base : List (Addr × Obj)) (off : List Addr) (news : List (Addr × Obj)) (P : List (Addr × Obj) → Prop) (s₄ : Shared) : Prop :=
  ∃ (tl' : List (Addr × Obj)) (h' : Heap) (tk' : Nat), s₄ = { s with heap := h', toks := tk' } ∧ Fr h₀ L h' m ∧ News h₀ L h' (base ++ (tl' ++ news)) ∧ (∀ p ∈ tl', p.1 ∉ off) ∧ P tl'
theorem nest_comp {elt i1 i2 : Expr} {a b y y₀ : Str} {pa pb py py₀ tp : Pos} {kk : Nat} {scope : Scope} {cl : List (Str × Addr)} {pos : Pos} {l : Addr} {vs : List Value} {ln : Nat} {news : List (Addr × Obj)} {E : Value → Shared → Prop} {Q : Flow → Shared → Prop}
    (P : Nat → Nat → List Value → List (Addr × Obj) → Prop) (hh : A.handled = none) (hl : (l, listOf vs.toArray ln) ∈ news) (hsz : vs.length ≤ 100)
    (hrow : ∀ (i : Nat) (v : Value), vs[i]? = some v → ∃ (t : Addr) (x : Value) (wl : Addr) (w0 w1 : Value) (wn : Nat), v = .ref t ∧ (t, tupO [x, .ref wl]) ∈ news ∧ (wl, listOf (List.toArray [w0, w1]) wn) ∈ news)
    (hcell : ∀ y ∈ scope.names, y.2 ≠ .cell) (hkind : scope.kind = .function) (hxa : scope.names.lookup a = some .local) (hxb : scope.names.lookup b = some .local) (hxy : scope.names.lookup y = some .local) (hab : a ≠ b) (hay : a ≠ y)
    (hname : ∀ C (m₂ : Str → Option Value) v (s' : Shared) (Q : Value → Shared → Prop), s'.heap.Ns C m₂ → m₂ b = some v → Q v s' → wpAny (model prog w) A (eval i2 (compEnvC scope cl C env)) Q (fun _ _ => False) s')
    (hfold : ∀ C x, foldedSetIterable i2 (compEnvC scope cl C env) x = pure x)
    (F : Fr h₀ L s.heap m) (N : News h₀ L s.heap news) (hp : P 0 0 [] [])
    (hstep : ∀ i ys tl, P i 2 ys tl → P (i + 1) 0 ys tl)
    (turn : ∀ i j ys tl t x wl w0 w1 wn wv C oC D m₂ h tk IT oI IT2 oI2, vs[i]? = some (.ref t) → (t, tupO [x, .ref wl]) ∈ news → (wl, listOf (List.toArray [w0, w1]) wn) ∈ news → [w0, w1][j]? = some wv → j < 2 → P i j ys tl → NsObj oC m₂ → m₂ a = some x → m₂ y = some wv →
      (∀ p ∈ tl ++ news, p.1 ∉ [C, D, IT, IT2]) → Fr h₀ L h m → News h₀ L h ((C, oC) :: (D, lst ys) :: (IT, oI) :: (IT2, oI2) :: (tl ++ news)) →
      wpAny (model prog w) A (eval elt (compEnvC scope cl C env)) (fun v s₄ => NEnd h₀ L m s [(C, oC), (D, lst ys), (IT, oI), (IT2, oI2)] [C, D, IT, IT2] news (P i (j + 1) (ys ++ [v])) s₄) (fun _ _ => False) { s with heap := h, toks := tk })
    (hL : env.locals = L) (hy : env.kindOf y₀ = some .local) (hpl : (env.scope.kind == .class || (env.scope.kind == .module && env.locals != env.globals)) = false)
    (done : ∀ D h tk ys tl, Fr h₀ L h (fun z => if z = y₀ then some (.ref D) else m z) → News h₀ L h ((D, lst ys) :: (tl ++ news)) → P vs.length 0 ys tl → Q .next { s with heap := h, toks := tk }) :
    wpAny (model prog w) A (pyIter (.ref l)) (fun it s₂ => wpAny (model prog w) A (newList []) (fun acc s₃ => wpAny (model prog w) A (newFunctionEnv scope env.globals cl [] env.qual none .none (some env)) (fun cenv s₄ =>
      codeAny (model prog w) A (.compStart (.ListComp elt [⟨.Tuple [.Name a pa, .Name b pb] kk tp, i1, [], 0⟩, ⟨.Name y py, i2, [], 0⟩] scope pos) 0 it acc { cenv with scope := relabel scope env }) (compPost (model prog w) A E (some (assign (.Name y₀ py₀) env)) (fun _ s' => Q .next s') acc cenv.locals) s₄) E s₃) E s₂) E s := by
  have hL0 := N _ hl
  have hls : s.heap.IsList l vs.toArray := ⟨_, hL0.1, rfl, _, rfl⟩
  have hlt : l < s.heap.objs.size := Heap.lt_size hL0.1
  have hne : l ≠ s.heap.objs.size := Nat.ne_of_lt hlt
  have hlen : vs.toArray.size = vs.length := by simp
  refine wpAny_pyIter_list hls ?_
  obtain ⟨I, hI⟩ : ∃ I, I = s.heap.objs.size := ⟨_, rfl⟩
  obtain ⟨H1, hH1⟩ : ∃ H1, H1 = s.heap.push { cls := .type "list_iterator", data := .fields #[.ref l, .int 0 0] } := ⟨_, rfl⟩
  rw [← hH1, ← hI]
  rw [← hI] at hne hlt
  have up1 : ∀ b o, s.heap.get? b = some o → H1.get? b = some o := fun b o e => hH1 ▸ Heap.get?_push_of_some _ e
  have hsz1 : H1.objs.size = I + 1 := by rw [hH1, Heap.size_push, hI]
  have hit1 : H1.IsListIter I l 0 := ⟨_, by rw [hH1, hI]; exact Heap.get?_push_size _ rfl, rfl, rfl⟩
  refine wpAny_newObj_type (wpAny_newFunctionEnv hcell (by intro y hy; simp at hy) (fun h₁ hns₁ hsb₁ => ?_) hkind)
  dsimp only at hns₁ hsb₁ ⊢
  generalize hH2 : H1.push { cls := .type "list", dict := none, data := .seq ([] : List Value).toArray } = H2 at hns₁ hsb₁ ⊢
  obtain ⟨D, hDe⟩ : ∃ D, D = H1.objs.size := ⟨_, rfl⟩
  obtain ⟨C, hCe⟩ : ∃ C, C = H2.objs.size := ⟨_, rfl⟩
  rw [← hDe, ← hCe]
  rw [← hCe] at hns₁ hsb₁
  have hDI : D = I + 1 := by rw [hDe, hsz1]
  have hCD : C = I + 2 := by rw [hCe, ← hH2, Heap.size_push, hsz1]
  have fresh₀ : ∀ a, I ≤ a → h₀.get? a = none := fun a ha => by
    cases e : h₀.get? a with
    | none => rfl
    | some o' => exact absurd (Heap.lt_size (F.keep a o' e)) (Nat.not_lt.mpr (hI ▸ ha))
  have hLlt : L < I := hI ▸ F.ns.lt
  have nltS : ∀ p ∈ news, p.1 < I := fun p hp => hI ▸ Heap.lt_size (N p hp).1
  have old : ∀ b o, H1.get? b = some o → h₁.get? b = some o := fun b o e => by
    have hb := Heap.lt_size e
    rw [hsz1] at hb
    exact hsb₁.extBut b o (na1 hCD hb) (Heap.get?_push_of_some _ (hH2 ▸ Heap.get?_push_of_some _ e))
  have hacc : h₁.get? D = some (lst []) := hsb₁.extBut _ _ (by rw [hCD, hDI]; exact Nat.ne_of_lt (Nat.lt_succ_self _)) (Heap.get?_push_of_some _ (by rw [← hH2, hDe]; exact Heap.get?_push_size _ rfl))
  have hDL : D ≠ L := na2 hDI hLlt
  have hCL : C ≠ L := na2 hCD hLlt
  have hIL : I ≠ L := Nat.ne_of_gt hLlt
  have hID : I ≠ D := by rw [hDI]; exact Nat.ne_of_lt (Nat.lt_succ_self _)
  have hIC : I ≠ C := na3 hCD
  have hDC : D ≠ C := by rw [hCD, hDI]; exact Nat.ne_of_lt (Nat.lt_succ_self _)
  have hI₀ := fresh₀ I (Nat.le_refl _)
  have hD₀ := fresh₀ D (by rw [hDI]; exact Nat.le_succ _)
  have hC₀ := fresh₀ C (by rw [hCD]; exact Nat.le_add_right _ _)
  have ne₀ : ∀ {b c : Addr} {o : Obj}, h₀.get? b = some o → h₀.get? c = none → b ≠ c := fun e e2 q => by rw [q, e2] at e; cases e
  have fr : ∀ {h h' : Heap} {c : Addr}, Fr h₀ L h m → (∀ b o, b ≠ c → h.get? b = some o → h'.get? b = some o) → c ≠ L → h₀.get? c = none → Fr h₀ L h' m := fun F hk h1 h2 => ⟨F.ns.at' fun o e => hk _ o (Ne.symm h1) e, fun b o e => hk b o (ne₀ e h2) (F.keep b o e), F.above⟩
  have loop : ∀ s₃ : Shared, s₃ = { s with heap := h₁, toks := s.toks + ([] : List (Str × Value)).length } →
      codeAny (model prog w) A (.compLoop (.ListComp elt [⟨.Tuple [.Name a pa, .Name b pb] kk tp, i1, [], 0⟩, ⟨.Name y py, i2, [], 0⟩] scope pos) 0 (.ref I) (.ref D) (compEnvC scope cl C env))
        (compPost (model prog w) A E (some (assign (.Name y₀ py₀) env)) (fun _ s' => Q .next s') (.ref D) C) s₃ := by
    rintro s₃ rfl
    refine loop_out
      (NI vs.length (fun i => 2 * i) s h₀ L m C I l (fun _ => True) (fun ys tl => (D, lst ys) :: (tl ++ news)) [C, D, I] (fun i => P i 0)) (hfold C) ?_ (vs.length + 1)
      ⟨h₁, _, 0, [], _, [], rfl, Nat.zero_le _, rfl, rfl, hit1.at fun o e => old _ o e, F.keeps fun b o e => old b o (up1 b o e), hns₁, trivial, fun p hp => ?_, fun p hp => (nomatch hp), hp⟩
    · rintro k s' ⟨h', tk, i, ys, m', tl, rfl, hi, rfl, hyl, hst', F', hn', -, N', off', hP'⟩
      have hnl : (l, listOf vs.toArray ln) ∈ tl ++ news := List.mem_append_right _ hl
      have hls' : h'.IsList l vs.toArray := ⟨_, (N' _ (.tail _ hnl)).1, rfl, _, rfl⟩
      have offn : ∀ p ∈ tl ++ news, p.1 ∉ [C, D, I] := fun p hp => by
        rcases List.mem_append.mp hp with hp | hp
        · exact off' p hp
        · have := nltS p hp
          intro hm
          simp only [List.mem_cons, List.not_mem_nil, or_false] at hm
          rcases hm with e | e | e
          · exact na4 this (e.trans hCD)
          · exact na4 this (e.trans hDI)
          · rw [e] at this; exact absurd this (Nat.lt_irrefl _)
      have W := Walks.list (prog := prog) (w := w) hh I l hne vs.toArray
      by_cases hlt : i < vs.length
      · refine W.item i _ _ _ (by rw [hlen]; exact hlt) ⟨hst', hls'⟩ fun v h₂ tk₂ hv hst₂ hk₂ => ?_
        have hk₂ : ∀ b o, b ≠ I → h'.get? b = some o → h₂.get? b = some o := fun b o hb e => hk₂ b o (fun q => hb (List.mem_singleton.mp q)) e
        have hv' : vs[i]? = some v := by simpa using hv
        refine Mine.gk ?_
        intro Gz9 kz9
        obtain ⟨t, x, wl, w0, w1, wn, rfl, hmt, hmw⟩ := hrow i v hv'
        refine kz9 ?_
        (try clear kz9 Gz9)
        have F₂ := fr F' hk₂ hIL hI₀
        have n₂ := hn'.at' fun o e => hk₂ _ o (Ne.symm hIC) e
        have N₂ : News h₀ L h₂ ((D, lst ys) :: (tl ++ news)) := fun p hp => by
          refine ⟨hk₂ _ _ ?_ (N' p hp).1, (N' p hp).2⟩
          rcases List.mem_cons.mp hp with rfl | hp
          · exact Ne.symm hID
          · exact fun q => offn p hp (by rw [q]; simp)
        dsimp only
        refine let_list hst₂.1 ?_
        have hmt' := N₂ _ (.tail _ (List.mem_append_right _ hmt))
        refine asg_pair hh ⟨_, hmt'.1, rfl, _, rfl⟩ hkind hxa hxb hab n₂ fun h₃ tk₃ m₃ n₃ ha₃ hb₃ hk₃ => ?_
        have F₃ := fr F₂ hk₃ hCL hC₀
        have N₃ : News h₀ L h₃ ((D, lst ys) :: (tl ++ news)) := fun p hp => by
          refine ⟨hk₃ _ _ ?_ (N₂ p hp).1, (N₂ p hp).2⟩
          rcases List.mem_cons.mp hp with rfl | hp
          · exact hDC
          · exact fun q => offn p hp (by rw [q]; simp)
        have hst₃ : h₃.IsListIter I l (i + 1) := hst₂.1.at fun o e => hk₃ _ o hIC e
        refine hname C m₃ _ _ _ n₃ hb₃ ?_
        have hmw' := N₃ _ (.tail _ (List.mem_append_right _ hmw))
        have hlw : h₃.IsList wl #[w0, w1] := ⟨_, hmw'.1, rfl, _, rfl⟩
        refine wpAny_pyIter_list hlw ?_
        obtain ⟨J, hJ⟩ : ∃ J, J = h₃.objs.size := ⟨_, rfl⟩
        obtain ⟨H4, hH4⟩ : ∃ H4, H4 = h₃.push { cls := .type "list_iterator", data := .fields #[.ref wl, .int 0 0] } := ⟨_, rfl⟩
        dsimp only
        rw [← hH4, ← hJ]
        have up4 : ∀ b o, h₃.get? b = some o → H4.get? b = some o := fun b o e => hH4 ▸ Heap.get?_push_of_some _ e
        have hit4 : H4.IsListIter J wl 0 := ⟨_, by rw [hH4, hJ]; exact Heap.get?_push_size _ rfl, rfl, rfl⟩
        have hJ₀ : h₀.get? J = none := by rw [hJ]; exact next_is_new F₃
        have lJ : ∀ b o, h₃.get? b = some o → b ≠ J := fun b o e q => absurd (Heap.lt_size e) (by rw [q, hJ]; exact Nat.lt_irrefl _)
        have hJL : J ≠ L := fun q => absurd F₃.ns.lt (by rw [← q, hJ]; exact Nat.lt_irrefl _)
        obtain ⟨oC₃, eC₃, _⟩ := ns_obj n₃
        have hCJ : C ≠ J := lJ _ _ eC₃
        have hDJ : D ≠ J := lJ _ _ (N₃ _ (.head _)).1
        obtain ⟨oI, eI, cI⟩ := hst₃
        have hIJ : I ≠ J := lJ _ _ eI
        have offJ : ∀ p ∈ tl ++ news, p.1 ∉ [C, D, I, J] := fun p hp hm => by
          have h9 := offn p hp
          simp only [List.mem_cons, List.not_mem_nil, or_false] at hm h9
          rcases hm with e | e | e | e
          · exact h9 (.inl e)
          · exact h9 (.inr (.inl e))
          · exact h9 (.inr (.inr e))
          · exact lJ _ _ (N₃ p (.tail _ hp)).1 e
        have hwJ : wl ≠ J := lJ _ _ hmw'.1
        have W2 := Walks.list (prog := prog) (w := w) hh J wl hwJ #[w0, w1]
        have F₄ := F₃.keeps up4
        have inner : codeAny (model prog w) A (.compLoop (.ListComp elt [⟨.Tuple [.Name a pa, .Name b pb] kk tp, i1, [], 0⟩, ⟨.Name y py, i2, [], 0⟩] scope pos) 1 (.ref J) (.ref D) (compEnvC scope cl C env))
            (fun r s₅ => match r with
              | .ok _ => ∃ m_1, m_1 < vs.length + 1 - i ∧ NI vs.length (fun i => 2 * i) s h₀ L m C I l (fun _ => True) (fun ys tl => (D, lst ys) :: (tl ++ news)) [C, D, I] (fun i => P i 0) m_1 s₅
              | .error _ => False) { s with heap := H4, toks := tk₃ } := by
          refine loop_in
            (NI 2 (fun j => 2 * i + j) s h₀ L m C J wl (fun m' => m' a = some x) (fun ys tl => (D, lst ys) :: (I, oI) :: (tl ++ news)) [C, D, I, J] (fun j => P i j)) ?_ 3
            ⟨H4, tk₃, 0, ys, m₃, tl, rfl, Nat.zero_le _, rfl, hyl, hit4, F₄, n₃.at' fun o e => up4 _ o e, ha₃, fun p hp => ?_, fun p hp => offJ p (List.mem_append_left _ hp), hP'⟩
          · rintro k s' ⟨h5, tk5, j, ys5, m5, tl5, rfl, hj, rfl, hyl5, hst5, F5, n5, ha5, N5, off5, hP5⟩
            have hlw5 : h5.IsList wl #[w0, w1] := ⟨_, (N5 _ (.tail _ (.tail _ (List.mem_append_right _ hmw)))).1, rfl, _, rfl⟩
            have offn5 : ∀ p ∈ tl5 ++ news, p.1 ∉ [C, D, I, J] := fun p hp => by
              rcases List.mem_append.mp hp with hp | hp
              · exact off5 p hp
              · exact offJ p (List.mem_append_right _ hp)
            by_cases hj2 : j < 2
            · refine W2.item j _ _ _ hj2 ⟨hst5, hlw5⟩ fun v h6 tk6 hv6 hst6 hk6 => ?_
              have hk6 : ∀ b o, b ≠ J → h5.get? b = some o → h6.get? b = some o := fun b o hb e => hk6 b o (fun q => hb (List.mem_singleton.mp q)) e
              have hv6' : [w0, w1][j]? = some v := by simpa using hv6
              dsimp only
              refine wpAny_pure ?_
              have n6 := n5.at' fun o e => hk6 _ o hCJ e
              refine wpAny_assign_Name (wpAny_storeName_local (lookup_relabel_local hxy) n6 (fun h7 n7 hs7 => ?_) (by simp [compEnvC, relabel, hkind]))
              have hk7 : ∀ b o, b ≠ C → h6.get? b = some o → h7.get? b = some o := fun b o hb e => hs7.extBut b o hb e
              have F7 := fr (fr F5 hk6 hJL hJ₀) hk7 hCL hC₀
              have keep7 : ∀ b o, b ≠ J → b ≠ C → h5.get? b = some o → h7.get? b = some o := fun b o h1 h2 e => hk7 b o h2 (hk6 b o h1 e)
              have n7' : h7.Ns C (fun z => if z = y then some v else m5 z) := n7
              obtain ⟨oC7, eC7, hoC7⟩ := ns_obj n7'
              obtain ⟨oJ, eJ, cJ⟩ := hst6.1
              have eJ7 := hk7 _ _ (Ne.symm hCJ) eJ
              have N7 : News h₀ L h7 ((C, oC7) :: (D, lst ys5) :: (I, oI) :: (J, oJ) :: (tl5 ++ news)) := fun p hp => by
                rcases List.mem_cons.mp hp with rfl | hp
                · exact ⟨eC7, hCL, hC₀⟩
                rcases List.mem_cons.mp hp with rfl | hp
                · exact ⟨keep7 _ _ hDJ hDC (N5 _ (.head _)).1, hDL, hD₀⟩
                rcases List.mem_cons.mp hp with rfl | hp
                · exact ⟨keep7 _ _ hIJ hIC (N5 _ (.tail _ (.head _))).1, hIL, hI₀⟩
                rcases List.mem_cons.mp hp with rfl | hp
                · exact ⟨eJ7, hJL, hJ₀⟩
                · have z := N5 p (.tail _ (.tail _ hp))
                  have h9 := offn5 p hp
                  simp only [List.mem_cons, List.not_mem_nil, or_false, not_or] at h9
                  exact ⟨keep7 _ _ h9.2.2.2 h9.1 z.1, z.2⟩
              refine wpAny_mono (turn i j ys5 tl5 t x wl w0 w1 wn v C oC7 D _ h7 _ I oI J oJ hv' hmt hmw hv6' hj2 hP5 hoC7 (by simp [hay, ha5]) (by simp) offn5 F7 N7) (fun z s₄ h₄ => ?_) fun _ _ x => x
              refine Mine.gk ?_
              intro Gz9 kz9
              obtain ⟨tl8, h8, tk8, rfl, F8, N8, off8, hP8⟩ := h₄
              refine kz9 ?_
              (try clear kz9 Gz9)
              refine append_at (hsz := by rw [List.size_toArray, sizeLine_eq]; kst_p2) (N8 _ (.tail _ (.head _))).1 fun h9 hs9 hD9 => ?_
              have hk9 : ∀ b o, b ≠ D → h8.get? b = some o → h9.get? b = some o := fun b o hb e => hs9.extBut b o hb e
              refine ⟨3 - (j + 1), by kst_p2, h9, tk8, j + 1, ys5 ++ [z], _, tl8, rfl, hj2, rfl, by rw [List.length_append, List.length_singleton, hyl5]; rfl, ⟨oJ, hk9 _ _ (Ne.symm hDJ) (N8 _ (.tail _ (.tail _ (.tail _ (.head _))))).1, cJ⟩, fr F8 hk9 hDL hD₀,
                (hoC7.ns (N8 _ (.head _)).1).at' (fun o e => hk9 _ o (Ne.symm hDC) e), by simp [hay, ha5], fun p hp => ?_, off8, hP8⟩
              rcases List.mem_cons.mp hp with rfl | hp
              · exact ⟨hD9.trans (congrArg some (lst_snoc ys5 z)), hDL, hD₀⟩
              rcases List.mem_cons.mp hp with rfl | hp
              · exact ⟨hk9 _ _ hID (N8 _ (.tail _ (.tail _ (.head _)))).1, hIL, hI₀⟩
              · have z := N8 p (.tail _ (.tail _ (.tail _ (.tail _ hp))))
                refine ⟨hk9 _ _ (fun q => ?_) z.1, z.2⟩
                rcases List.mem_append.mp hp with hp | hp
                · exact off8 p hp (by rw [q]; simp)
                · exact offJ p (List.mem_append_right _ hp) (by rw [q]; simp)
            · obtain rfl : j = 2 := by kst_p2
              refine W2.done _ _ _ ⟨hst5, hlw5⟩ fun h6 tk6 hk6 => ?_
              have hk6 : ∀ b o, b ≠ J → h5.get? b = some o → h6.get? b = some o := fun b o hb e => hk6 b o (fun q => hb (List.mem_singleton.mp q)) e
              refine ⟨vs.length + 1 - (i + 1), by kst_p2, h6, tk6, i + 1, ys5, m5, tl5, rfl, hlt, rfl, by kst_p2, ⟨oI, hk6 _ _ hIJ (N5 _ (.tail _ (.head _))).1, cI⟩, fr F5 hk6 hJL hJ₀, n5.at' (fun o e => hk6 _ o hCJ e), trivial, fun p hp => ?_, fun p hp hm => ?_, hstep i ys5 tl5 hP5⟩
              · rcases List.mem_cons.mp hp with rfl | hp
                · exact ⟨hk6 _ _ hDJ (N5 _ (.head _)).1, hDL, hD₀⟩
                · have z := N5 p (.tail _ (.tail _ hp))
                  exact ⟨hk6 _ _ (fun q => offn5 p hp (by rw [q]; simp)) z.1, z.2⟩
              · refine off5 p hp ?_
                simp only [List.mem_cons, List.not_mem_nil, or_false] at hm ⊢
                rcases hm with e | e | e <;> simp [e]
          · rcases List.mem_cons.mp hp with rfl | hp
            · exact ⟨up4 _ _ (N₃ _ (.head _)).1, hDL, hD₀⟩
            rcases List.mem_cons.mp hp with rfl | hp
            · exact ⟨up4 _ _ eI, hIL, hI₀⟩
            · exact ⟨up4 _ _ (N₃ p (.tail _ hp)).1, (N₃ p (.tail _ hp)).2⟩
        exact start_in inner (wpAny_pyIter_listiter hit4 inner)
      · obtain rfl : i = vs.length := Nat.le_antisymm hi (Nat.not_lt.mp hlt)
        refine W.done _ _ _ (by rw [hlen]; exact ⟨hst', hls'⟩) fun h₂ tk₂ hk₂ => ?_
        have hk₂ : ∀ b o, b ≠ I → h'.get? b = some o → h₂.get? b = some o := fun b o hb e => hk₂ b o (fun q => hb (List.mem_singleton.mp q)) e
        have F₂ := fr F' hk₂ hIL hI₀
        have n₂ := hn'.at' fun o e => hk₂ _ o (Ne.symm hIC) e
        have N₂ : News h₀ L h₂ ((D, lst ys) :: (tl ++ news)) := fun p hp => by
          refine ⟨hk₂ _ _ ?_ (N' p hp).1, (N' p hp).2⟩
          rcases List.mem_cons.mp hp with rfl | hp
          · exact Ne.symm hID
          · exact fun q => offn p hp (by rw [q]; simp)
        exact cpost_name (s := s) (G := fun _ : List (Addr × Obj) => s.gens) (Led := fun tl => tl ++ news) (P := fun ys tl => P vs.length 0 ys tl) (c := tl) hL hy hpl (fun D h tk ys tl F N off hle hP => done D h tk ys tl F N hP) F₂ N₂ (fun p hp => ⟨fun q => offn p hp (by rw [q]; simp), fun q => offn p hp (by rw [q]; simp)⟩) n₂ hC₀ hCL hDL (Ne.symm hDC) (by rw [hDI, ← hI]; exact Nat.le_succ _) hP'
    · rcases List.mem_cons.mp hp with rfl | hp
      · exact ⟨hacc, hDL, hD₀⟩
      · exact ⟨old _ _ (up1 _ _ (N p hp).1), (N p hp).2⟩
  exact codeAny_compStart_list (loop _ rfl) (wpAny_pyIter_listiter (hit1.at fun o e => old _ o e) (loop _ rfl))
theorem comp_openA2 {E : Value → Shared → Prop} {elt target iter : Expr} {gs : List Comprehension} {y : Str} {py : Pos} {scope : Scope} {cl : List (Str × Addr)} {pos spos : Pos} {Q : Flow → Shared → Prop}
    (hsw : swapsWith (.ListComp elt (⟨target, iter, [], 0⟩ :: gs) scope pos) (some (.Name y py)) spos.line env = pure true)
    (hclos : closureFor scope env = pure cl) (hkind : scope.kind = .function) (hnames : ∀ y ∈ scope.names, y.2 = .local → scope.names.lookup y.1 = some .local)
    (h : wpAny (model prog w) A (eval iter env) (fun x s₁ => wpAny (model prog w) A (pyIter x) (fun it s₂ => wpAny (model prog w) A (newList []) (fun acc s₃ =>
      wpAny (model prog w) A (newFunctionEnv scope env.globals cl [] env.qual none .none (some env)) (fun cenv s₄ =>
        codeAny (model prog w) A (.compStart (.ListComp elt (⟨target, iter, [], 0⟩ :: gs) scope pos) 0 it acc { cenv with scope := relabel scope env }) (compPost (model prog w) A E (some (assign (.Name y py) env)) (fun _ s' => Q .next s') acc cenv.locals) s₄) E s₃) E s₂) E s₁) E s)
    (hs : ∀ x, foldedSetIterable iter env x = pure x := by intro _; rfl) :
    wpAny (model prog w) A (exec (.Assign [.Name y py] (.ListComp elt (⟨target, iter, [], 0⟩ :: gs) scope pos) spos) env) Q E s := by
  rw [exec_Assign_Name_used _ _ _ _ hsw]
  refine wpAny_bind (wpAny_standAt (wpAny_bind ?_))
  show wpAny _ A (do let _ ← comprehension (.ListComp elt (⟨target, iter, [], 0⟩ :: gs) scope pos) scope env _ (newList []) false (eval iter env) (some (assign (.Name y py) env))) _ _ s
  exact wpAny_bind (wpAny_mono (wpAny_comprehension_free (use := some (assign (.Name y py) env)) (Q := fun _ s' => Q .next s') rfl hs hclos hkind hnames h) (fun _ s' hq => wpAny_pure (wpAny_pure hq)) fun _ _ e => e)
theorem name_comp {scope : Scope} {cl : List (Str × Addr)} {C : Addr} {b : Str} {pb : Pos} {m₂ : Str → Option Value} {v : Value} {E : Value → Shared → Prop} {Q : Value → Shared → Prop} (hkind : scope.kind = .function) (hxb : scope.names.lookup b = some .local) (hn : s.heap.Ns C m₂) (hv : m₂ b = some v) (h : Q v s) (hd : (b == ("__debug__" : Str)) = false) :
    wpAny (model prog w) A (eval (.Name b pb) (compEnvC scope cl C env)) Q E s :=
  wpAny_Name (wpAny_loadName_local (env := compEnvC scope cl C env) (by simp [compEnvC, relabel, hkind]) (lookup_relabel_local hxb) hn hv h) hd
end
end Mine
end TNest2

section TObj
open PySem PySem.W PyProof.Rows PySem.Spec PySem.Calls
set_option Elab.async false
set_option maxRecDepth 100000
set_option maxHeartbeats 4000000
set_option linter.unusedVariables false
namespace Mine
section
variable {w : World} {s : Shared} {h₀ : Heap} {L : Addr} {m : Str → Option Value} {news : List (Addr × Obj)}
theorem under_type {dp un : Nat} {gd : Option (List Code)} {cn : Str} {cs : Scope} {a : Addr} {ccd : Value} {cl : List (Str × Addr)} {outer : List Env} {C : Addr} {vals : List Value} :
    (ktrTop dp un gd cn cs L a ccd cl outer).under (.builtin "type.__call__" ⟨.ref C :: vals, []⟩) = ktrTop (dp + 1) (un + 1) gd cn cs L a ccd cl outer := rfl
theorem enterC {prog : Program} {Q E : Value → Shared → Prop} {K : Frag} {p : Program} {loose : List Str} {mean : ExcName → Option Value} {mg mb : Str → Option Value} {dp un : Nat} {gd : Option (List Code)} {cn : Str} {cs : Scope} {a : Addr} {ccd : Value} {cl : List (Str × Addr)} {outer : List Env} {A₀ : Around} {base : Heap}
    {name qual : Str} {params : Arguments} {body : List Stmt} {scope : Scope} {dV kV doc pm cdv ct oc : Value} {an od : Option Addr} {osl : Array (Option Value)} {f C : Addr} {args : List Value} {binds : Addr → List (Str × Value)}
    (B : Below A₀ base outer h₀) (F : Fr h₀ L s.heap m) (X : K.In h₀) (N : News h₀ L s.heap news) (T : Top p loose mean mg mb h₀) (hk : cs.kind = .function)
    (hm : makesIn K C = true) (hi : findIn K (.ref C) "__init__" = some (some (.ref f))) (hf : isFn K (.ref f) = true)
    (ho : K.lookup f = some ⟨oc, od, .func (fnOf name qual params body scope dV kV doc pm an cdv ct), osl⟩) (hcd : codeIn K cdv qual = true) (hroom : dp + 1 < recursionLimit)
    (hbind : ∀ x h', BindsTo { s with heap := h' } (fnOf name qual params body scope dV kV doc pm an cdv ct) ⟨.ref x :: args, []⟩ (binds x)) (hloc : ∀ x, ∀ y ∈ binds x, scope.names.lookup y.1 = some .local)
    (h : ∀ x dx g L' h₁, (∀ p ∈ news, p.1 < dx) → dx < x → Fr h₀ L g m → Fr g L' h₁ (kstB (fun _ => none) (binds x).reverse) → News g L' h₁ ((x, instObj C dx) :: (dx, dictOf [] 0) :: news) → Below (ktrTop dp un gd cn cs L a ccd cl outer) base (envX cn cs L a ccd cl :: outer) g → K.In g → Top p loose mean mg mb g → x < L' →
      wpAny (model prog w) (ktrTop (dp + 2) (un + 4) gd qual scope L' f cdv [] (envX cn cs L a ccd cl :: outer)) (execs body (envOf qual scope L' f cdv))
        (fun fl s' => LeaveK h₀ L m g (InitBack x fun r s' => match r with | .ok (.ret v) => Q v s' | .ok _ => False | .error _ => False) (match fl with | .ret v => v | _ => .none) s') (fun _ _ => False)
        { s with heap := h₁, toks := s.toks + (binds x).length })
    (hco : scope.isCoroutine = false) (hgen : scope.isGenerator = false) (hks : scope.kind = .function) (hcell : ∀ x ∈ scope.names, x.2 ≠ .cell) :
    wpAny (model prog w) (ktrTop dp un gd cn cs L a ccd cl outer) (call (.ref C) args) Q E s := by
  refine wpAny_mono (Q := Q) (E := fun _ _ => False) ?_ (fun _ _ x => x) fun _ _ x => x.elim
  refine call_cls F X N hm hi hf fun x dx h' F' N' l1 l2 => ?_
  rw [under_type]
  refine callX_plain (cl := []) B F' N' T.nolimit rfl rfl hk ((X.keeps F'.keep) _ _ ho) rfl (codeRec_of (X.keeps F'.keep) hcd) hroom (hbind x h') (hloc x) (fun g L' h₁ FG F'' N'' B' st l => ?_) hcell hco hgen hks
  rw [lookup_kst] at F''
  refine wpAny_mono (h x dx g L' h₁ l1 l2 FG F'' N'' ⟨B'.stack, B'.stays, B'.frames⟩ (X.keeps st) (T.keeps st) (l _ (List.Mem.head _))) (fun fl s' z => ?_) fun _ _ x => x.elim
  refine Mine.gk ?_
  intro Gz9 kz9
  obtain ⟨L2, m2, n2, F2, N2, k⟩ := z
  refine kz9 ?_
  (try clear kz9 Gz9)
  refine ⟨L2, m2, n2, F2, N2, fun a b => ?_⟩
  have z := k a b
  cases fl <;> exact z
end
section
variable {prog : Program} {w : World} {A : Around} {E : Value → Shared → Prop} {s : Shared} {env : Env} {h₀ : Heap} {L : Addr}
theorem my_append {m : Str → Option Value} {news rest : List (Addr × Obj)} {l : Addr} {vs : List Value} {n : Nat} {x : Value} {Q : Value → Shared → Prop} (F : Fr h₀ L s.heap m) (N : News h₀ L s.heap news) (hs : ∀ p ∈ (l, listOf vs.toArray n) :: rest, p ∈ news) (hne : ∀ p ∈ rest, p.1 ≠ l) (hz : vs.length ≤ sizeLine)
    (h : ∀ h', Fr h₀ L h' m → News h₀ L h' ((l, listOf (vs ++ [x]).toArray (n + 1)) :: rest) → Q .none { s with heap := h' }) : wpAny (model prog w) A (call (.builtin "list.append") [.ref l, x]) Q E s := by
  refine append_head (hsz := by rw [List.size_toArray]; exact hz) F (nsub N hs) hne fun h' F' N' => h h' F' ?_
  rw [List.push_toArray] at N'
  exact N'
theorem fors {σ : Type} {Q : Flow → Shared → Prop} {E : Value → Shared → Prop} {y : Str} {py : Pos} {body orelse : List Stmt} {x : Str} {t : Tok} {m₀ : Str → Option Value}
    (G : σ → Array GenState) (Led : σ → List (Addr × Obj)) (ps : σ → List (Str × Value)) (P : Nat → σ → Prop) (c₀ : σ)
    (hL : env.locals = L) (hh : A.handled = none) (hg : s.gens = G c₀)
    (F : Fr h₀ L s.heap m₀) (N : News h₀ L s.heap (Led c₀)) (hk : ∀ p ∈ ps c₀, m₀ p.1 = some p.2) (hp : P 0 c₀)
    (turn : ∀ (i : Nat) (c : σ) (k : Nat) (t' : Tok) (u : Str → Option Value) h tk it o, x.cps[i]? = some k → P i c → (∀ p ∈ Led c, p.1 ≠ it) →
      Fr h₀ L h (kstB u (ps c)) → News h₀ L h ((it, o) :: Led c) →
      wpAny (model prog w) A (assign (.Name y py) env (.str ⟨#[k]⟩ t')) (fun _ s₂ => wpAny (model prog w) A (execs body env) (FPost h₀ L s G [(it, o)] [it] Led ps (P (i + 1)) Q) (fun _ _ => False) s₂) (fun _ _ => False) { s with heap := h, gens := G c, toks := tk })
    (done : ∀ (c : σ) (u : Str → Option Value) h tk, P x.cps.size c → Fr h₀ L h (kstB u (ps c)) → News h₀ L h (Led c) →
      wpAny (model prog w) A (execs orelse env) Q (fun _ _ => False) { s with heap := h, gens := G c, toks := tk }) :
    wpAny (model prog w) A (pyIter (.str x t)) (fun it s₂ => codeAny (model prog w) A (.forLoop (.Name y py) it body orelse env) (fun r s' => match r with | .ok f => Q f s' | .error e => cameBackBy (model prog w) A env E e s') s₂) E s := by
  have fin : ∀ (T : String) (W : Walks prog w A s.heap.objs.size [s.heap.objs.size] [s.heap.objs.size] x.cps.size (SignAt x) (fun i h => h.IsStrIter s.heap.objs.size T x t i)),
      codeAny (model prog w) A (.forLoop (.Name y py) (.ref s.heap.objs.size) body orelse env) (fun r s' => match r with | .ok f => Q f s' | .error e => cameBackBy (model prog w) A env E e s') { s with heap := s.heap.push { cls := .type T, data := .fields #[.str x t, .int 0 0] } } := by
    intro T W
    refine for1 (s := { s with heap := s.heap.push { cls := .type T, data := .fields #[.str x t, .int 0 0] } }) G Led ps P c₀ W (fun i h st => ⟨_, st.choose_spec.1⟩) hL ?_ ?_ ⟨_, Heap.get?_push_size _ rfl, rfl, rfl⟩ hg (F.push _) (fun p hp => ⟨Heap.get?_push_of_some _ (N p hp).1, (N p hp).2⟩) ?_ hk hp ?_ done
    · exact fun e => absurd F.ns.lt (e ▸ Nat.lt_irrefl _)
    · exact next_is_new F
    · intro p hp e
      exact absurd (Heap.lt_size (N p hp).1) (e ▸ Nat.lt_irrefl _)
    · rintro i c v u h tk o hi ⟨k, t', hk', rfl⟩ hP hw F₁ N₁
      exact turn i c k t' u h tk s.heap.objs.size o hk' hP hw F₁ N₁
  cases ha : x.cps.all (· < 128)
  · exact wpAny_pyIter_wide ha (fin _ (Walks.strWide hh _ x t))
  · exact wpAny_pyIter_ascii ha (fin _ (Walks.strAscii hh _ x t))
end
end Mine
end TObj

section TObj2
open PySem PySem.W PyProof.Rows PySem.Spec PySem.Calls
set_option Elab.async false
set_option maxRecDepth 100000
set_option maxHeartbeats 4000000
set_option linter.unusedVariables false
namespace Mine
section
variable {prog : Program} {w : World} {A : Around} {E : Value → Shared → Prop} {s : Shared} {env : Env} {h₀ : Heap} {L : Addr}
theorem fort {σ : Type} {Q : Flow → Shared → Prop} {E : Value → Shared → Prop} {target : Expr} {body orelse : List Stmt} {l : Addr} {vs : List Value} {m₀ : Str → Option Value}
    (G : σ → Array GenState) (Led : σ → List (Addr × Obj)) (ps : σ → List (Str × Value)) (P : Nat → σ → Prop) (c₀ : σ)
    (hL : env.locals = L) (hh : A.handled = none) (hl : ∀ c, (l, tupO vs) ∈ Led c) (hg : s.gens = G c₀)
    (F : Fr h₀ L s.heap m₀) (N : News h₀ L s.heap (Led c₀)) (hk : ∀ p ∈ ps c₀, m₀ p.1 = some p.2) (hp : P 0 c₀)
    (turn : ∀ (i : Nat) (c : σ) (v : Value) (u : Str → Option Value) h tk it o, i < vs.length → vs[i]? = some v → P i c → (∀ p ∈ Led c, p.1 ≠ it) →
      Fr h₀ L h (kstB u (ps c)) → News h₀ L h ((it, o) :: Led c) →
      wpAny (model prog w) A (assign target env v) (fun _ s₂ => wpAny (model prog w) A (execs body env) (FPost h₀ L s G [(it, o)] [it] Led ps (P (i + 1)) Q) (fun _ _ => False) s₂) (fun _ _ => False) { s with heap := h, gens := G c, toks := tk })
    (done : ∀ (c : σ) (u : Str → Option Value) h tk, P vs.length c → Fr h₀ L h (kstB u (ps c)) → News h₀ L h (Led c) →
      wpAny (model prog w) A (execs orelse env) Q (fun _ _ => False) { s with heap := h, gens := G c, toks := tk }) :
    wpAny (model prog w) A (pyIter (.ref l)) (fun it s₂ => codeAny (model prog w) A (.forLoop target it body orelse env) (fun r s' => match r with | .ok f => Q f s' | .error e => cameBackBy (model prog w) A env E e s') s₂) E s := by
  subst hL
  have hL0 := N _ (hl c₀)
  have hls : s.heap.IsTuple l vs.toArray := ⟨_, hL0.1, rfl, _, rfl⟩
  have hll : l ≠ env.locals := hL0.2.1
  have hne : l ≠ s.heap.objs.size := Nat.ne_of_lt (Heap.lt_size hL0.1)
  refine wpAny_pyIter_tuple hls ?_
  have W := Walks.tuple (prog := prog) (w := w) hh s.heap.objs.size l hne vs.toArray
  have hlen : vs.toArray.size = vs.length := by simp
  rw [hlen] at W
  refine forw G Led ps P c₀ W (fun i v s₁ Q' E' st q => letGo_tupleiter st.1 q) ?_ ?_ ?_ ⟨⟨_, Heap.get?_push_size _ rfl, rfl, rfl⟩, hls.at fun o e => Heap.get?_push_of_some _ e⟩ hg (F.push _) (fun p hp => ⟨Heap.get?_push_of_some _ (N p hp).1, (N p hp).2⟩) ?_ hk hp ?_ ?_
  · rintro i h st b hb
    rw [List.mem_singleton.mp hb]
    obtain ⟨o, ho, _⟩ := st.1
    exact ⟨o, ho⟩
  · intro hm
    rcases List.mem_cons.mp hm with e | hm
    · exact absurd F.ns.lt (e ▸ Nat.lt_irrefl _)
    · exact hll (List.mem_singleton.mp hm).symm
  · intro b hb
    rw [List.mem_singleton.mp hb]
    exact next_is_new F
  · intro p hp hI
    exact absurd (Heap.lt_size (N p hp).1) ((List.mem_singleton.mp hI) ▸ Nat.lt_irrefl _)
  · intro i c v u h tk own hi hPV hP hown hwo hw F₁ N₁
    obtain ⟨o, ho⟩ := hwo _ (List.mem_singleton.mpr rfl)
    have N₂ : News h₀ env.locals h ((s.heap.objs.size, o) :: Led c) := Mine.fmc (N₁ _ (List.mem_append.mpr (.inl ho))) (fun p hp => N₁ _ (List.mem_append.mpr (.inr hp)))
    refine wpAny_mono (turn i c v u h tk s.heap.objs.size o hi (by simpa using hPV) hP (fun p hp e => hw p hp (List.mem_singleton.mpr e)) F₁ N₂) (fun _ s₂ h₂ => wpAny_mono h₂ (fun f s₃ h₃ => ?_) fun _ _ x => x) fun _ _ x => x
    have up : FEnd h₀ env.locals s G [(s.heap.objs.size, o)] [s.heap.objs.size] Led ps (P (i + 1)) s₃ → FEnd h₀ env.locals s G own [s.heap.objs.size] Led ps (P (i + 1)) s₃ := by
      first | (refine Mine.poxxxxxxxxxxxxxc ?_; intro c' h' tk' m' news' e F' N' ho' hn' r1 r2 r3) | (rintro ⟨c', h', tk', m', news', e, F', N', ho', hn', r1, r2, r3⟩)
      refine ⟨c', h', tk', m', news', e, F', N', fun p hp => ?_, hn', r1, r2, r3⟩
      have e1 := (N₁ p (List.mem_append.mpr (.inl hp))).1
      have := hown p hp
      simp only [List.mem_cons, List.not_mem_nil, or_false] at this
      rcases this with e2 | e2
      · have e3 := (N₂ _ (List.Mem.head _)).1
        rw [← e2, e1] at e3
        have : p = (s.heap.objs.size, o) := Prod.ext e2 (Option.some.inj e3)
        rw [this]
        exact ho' _ (.head _)
      · have e3 := (N₂ _ (List.Mem.tail _ (hl c))).1
        rw [← e2, e1] at e3
        have : p = (l, tupO vs) := Prod.ext e2 (Option.some.inj e3)
        rw [this]
        exact hn' _ (hl c')
    cases f with
    | ret v => exact h₃
    | brk => exact h₃
    | next => exact up h₃
    | cont => exact up h₃
  · intro c u h tk hP F₁ N₁
    exact wpAny_mono (done c u h tk hP F₁ N₁) (fun f _ x => x) fun _ _ x => x

end
section
open PyProof.Rows.LCg
variable {prog : Program} {w : World} {A : Around} {s : Shared} {env : Env} {h₀ : Heap} {L : Addr} {m : Str → Option Value}
theorem comp_tup {σ : Type} {E : Value → Shared → Prop} {elt iter : Expr} {x : Str} {px : Pos} {ifs : List Expr} {scope : Scope} {cl : List (Str × Addr)} {pos : Pos} {l : Addr} {vs : List Value} {RR : Value → Addr → Result → Shared → Prop}
    (G : σ → Array GenState) (Led : σ → List (Addr × Obj)) (P : Nat → List Value → σ → Prop) (c₀ : σ) (hh : A.handled = none) (hl : ∀ c, (l, tupO vs) ∈ Led c) (hsz : vs.length ≤ sizeLine)
    (hcell : ∀ y ∈ scope.names, y.2 ≠ .cell) (hkind : scope.kind = .function) (hx : scope.names.lookup x = some .local) (hg : s.gens = G c₀)
    (F : Fr h₀ L s.heap m) (N : News h₀ L s.heap (Led c₀)) (hp : P 0 [] c₀)
    (turn : ∀ i ys c v C oC D m₂ h tk it o, vs[i]? = some v → P i ys c → NsObj oC m₂ → m₂ x = some v → (∀ p ∈ Led c, p.1 ≠ it ∧ p.1 ≠ C ∧ p.1 ≠ D) → it < D → D < C →
      Fr h₀ L h m → News h₀ L h ((C, oC) :: (D, lst ys) :: (it, o) :: Led c) →
      wpAny (model prog w) A (forIn ifs true fun c r => if r = true then do let ok ← isTrue c (compEnvC scope cl C env) (eval c (compEnvC scope cl C env)); pure (ForInStep.yield ok) else pure (ForInStep.yield r)) (fun ok s₃ =>
        if ok = true then wpAny (model prog w) A (eval elt (compEnvC scope cl C env)) (fun y s₄ => CEnd h₀ L m s G [(it, o)] [it] C oC D (lst ys) Led (fun ys c => P (i + 1) (ys ++ [y]) c) ys s₄) (fun _ _ => False) s₃
        else CEnd h₀ L m s G [(it, o)] [it] C oC D (lst ys) Led (P (i + 1)) ys s₃) (fun _ _ => False) { s with heap := h, gens := G c, toks := tk })
    (hRR : ∀ D C h tk m' ys c, Fr h₀ L h m → News h₀ L h ((D, lst ys) :: Led c) → (∀ p ∈ Led c, p.1 ≠ D ∧ p.1 ≠ C) → h.Ns C m' → h₀.get? C = none → C ≠ L → D ≠ L → C ≠ D → s.heap.objs.size ≤ D → P vs.length ys c → RR (.ref D) C (.ok .next) { s with heap := h, gens := G c, toks := tk }) :
    wpAny (model prog w) A (pyIter (.ref l)) (fun it s₂ => wpAny (model prog w) A (newList []) (fun acc s₃ => wpAny (model prog w) A (newFunctionEnv scope env.globals cl [] env.qual none .none (some env)) (fun cenv s₄ =>
      codeAny (model prog w) A (.compStart (.ListComp elt [⟨.Name x px, iter, ifs, 0⟩] scope pos) 0 it acc { cenv with scope := relabel scope env }) (RR acc cenv.locals) s₄) E s₃) E s₂) E s := by
  have hL0 := N _ (hl c₀)
  have hls : s.heap.IsTuple l vs.toArray := ⟨_, hL0.1, rfl, _, rfl⟩
  have hlt : l < s.heap.objs.size := Heap.lt_size hL0.1
  have hne : l ≠ s.heap.objs.size := Nat.ne_of_lt hlt
  refine wpAny_pyIter_tuple hls ?_
  have W₀ := Walks.tuple (prog := prog) (w := w) hh s.heap.objs.size l hne vs.toArray
  have hlen : vs.toArray.size = vs.length := by simp
  rw [hlen] at W₀
  have W := KTurns.ofWalks (target := Expr.Name x px) W₀ fun i v s Q E st q => letGo_tupleiter st.1 q
  have up : ∀ b o, s.heap.get? b = some o → (s.heap.push { cls := .type "tuple_iterator", data := .fields #[.ref l, .int 0 0] }).get? b = some o := fun b o e => Heap.get?_push_of_some _ e
  refine comp_block (s := { s with heap := s.heap.push { cls := .type "tuple_iterator", data := .fields #[.ref l, .int 0 0] } }) (RR := RR) G Led P (fun i v m₂ => vs[i]? = some v ∧ m₂ x = some v) c₀ W (fun s Q E st q => W₀.self 0 s Q E st q) hsz hcell hkind ⟨⟨_, Heap.get?_push_size _ rfl, rfl, rfl⟩, hls.push _⟩ ?_ ?_ ?_ hg (F.keeps up) (N.grown up) ?_ hp ?_ ?_ ?_
  · intro b hb
    show b < (s.heap.push _).objs.size
    rw [Heap.size_push]
    rcases List.mem_cons.mp hb with rfl | hb
    · exact Nat.lt_succ_self _
    · rw [List.mem_singleton.mp hb]; exact Nat.lt_succ_of_lt hlt
  · intro hm
    rcases List.mem_cons.mp hm with e | hm
    · exact absurd F.ns.lt (e ▸ Nat.lt_irrefl _)
    · exact hL0.2.1 (List.mem_singleton.mp hm).symm
  · intro b hb
    rw [List.mem_singleton.mp hb]
    exact next_is_new F
  · intro p hp hI
    exact absurd (Heap.lt_size (N p hp).1) ((List.mem_singleton.mp hI) ▸ Nat.lt_irrefl _)
  · intro i c v C mc s' Q hi hv _ hn _ h
    exact asg_name hkind hx hn fun h' tk m₂ hn₂ hx₂ hk => h h' tk m₂ hn₂ ⟨by simpa using hv, hx₂⟩ hk
  · intro i ys c v C oC D m₂ h tk own hi hP hoC hNM hown hown2 hst₁ hoff hlo hDC F₁ N₁
    have hI₀ : h₀.get? s.heap.objs.size = none := next_is_new F
    obtain ⟨o, ho, _⟩ := hst₁.1
    have hm := hown2 _ (List.Mem.head _) hI₀ o ho
    have N₂ : News h₀ L h ((C, oC) :: (D, lst ys) :: (s.heap.objs.size, o) :: Led c) := Mine.fmc (N₁ _ (.head _)) (Mine.fmc (N₁ _ (.tail _ (.head _))) (Mine.fmc (N₁ _ (.tail _ (.tail _ (List.mem_append.mpr (.inl hm))))) (fun p hp => N₁ _ (.tail _ (.tail _ (List.mem_append.mpr (.inr hp)))))))
    have hk : ∀ p ∈ own, p ∈ [(s.heap.objs.size, o)] ∨ ∀ c, p ∈ Led c := fun p hp => by
      have e1 := (N₁ p (.tail _ (.tail _ (List.mem_append.mpr (.inl hp))))).1
      have := hown p hp
      simp only [List.mem_cons, List.not_mem_nil, or_false] at this
      rcases this with e2 | e2
      · left
        rw [e2, ho] at e1
        rw [List.mem_singleton]
        exact Prod.ext e2 (Option.some.inj e1).symm
      · right
        intro c'
        have e3 := (N₁ _ (.tail _ (.tail _ (List.mem_append.mpr (.inr (hl c)))))).1
        rw [e2, e3] at e1
        have : p = (l, tupO vs) := Prod.ext e2 (Option.some.inj e1).symm
        rw [this]
        exact hl c'
    refine wpAny_mono (turn i ys c v C oC D m₂ h tk _ o hNM.1 hP hoC hNM.2 (fun p hp => ?_) (hlo _ (.head _)) hDC F₁ N₂) (fun ok s₃ h₃ => ?_) fun _ _ x => x
    · have := hoff p hp
      exact ⟨fun e => this.1 (List.mem_singleton.mpr e), this.2⟩
    cases ok with
    | false => exact cend_own hk h₃
    | true => exact wpAny_mono h₃ (fun y s₄ h₄ => cend_own hk h₄) fun _ _ x => x
  · intro D C h tk m' ys c F₁ N₁ off hn hC₀ hCL hDL hCD hle hP
    exact hRR D C h tk m' ys c F₁ N₁ off hn hC₀ hCL hDL hCD (by
      have : s.heap.objs.size + 1 ≤ D := by simpa [Heap.size_push] using hle
      kst_p2) hP

theorem comp_tupA {σ : Type} {E : Value → Shared → Prop} {Q₀ : Shared → Prop} {y₀ : Str} {py₀ : Pos} {elt iter : Expr} {x : Str} {px : Pos} {ifs : List Expr} {scope : Scope} {cl : List (Str × Addr)} {pos : Pos} {l : Addr} {vs : List Value}
    (G : σ → Array GenState) (Led : σ → List (Addr × Obj)) (P : Nat → List Value → σ → Prop) (c₀ : σ) (hh : A.handled = none) (hl : ∀ c, (l, tupO vs) ∈ Led c) (hsz : vs.length ≤ sizeLine)
    (hcell : ∀ y ∈ scope.names, y.2 ≠ .cell) (hkind : scope.kind = .function) (hx : scope.names.lookup x = some .local) (hg : s.gens = G c₀)
    (F : Fr h₀ L s.heap m) (N : News h₀ L s.heap (Led c₀)) (hp : P 0 [] c₀)
    (turn : ∀ i ys c v C oC D m₂ h tk it o, vs[i]? = some v → P i ys c → NsObj oC m₂ → m₂ x = some v → (∀ p ∈ Led c, p.1 ≠ it ∧ p.1 ≠ C ∧ p.1 ≠ D) → it < D → D < C →
      Fr h₀ L h m → News h₀ L h ((C, oC) :: (D, lst ys) :: (it, o) :: Led c) →
      wpAny (model prog w) A (forIn ifs true fun c r => if r = true then do let ok ← isTrue c (compEnvC scope cl C env) (eval c (compEnvC scope cl C env)); pure (ForInStep.yield ok) else pure (ForInStep.yield r)) (fun ok s₃ =>
        if ok = true then wpAny (model prog w) A (eval elt (compEnvC scope cl C env)) (fun y s₄ => CEnd h₀ L m s G [(it, o)] [it] C oC D (lst ys) Led (fun ys c => P (i + 1) (ys ++ [y]) c) ys s₄) (fun _ _ => False) s₃
        else CEnd h₀ L m s G [(it, o)] [it] C oC D (lst ys) Led (P (i + 1)) ys s₃) (fun _ _ => False) { s with heap := h, gens := G c, toks := tk })
    (hL : env.locals = L) (hy : env.kindOf y₀ = some .local) (hpl : (env.scope.kind == .class || (env.scope.kind == .module && env.locals != env.globals)) = false)
    (done : ∀ D h tk ys c, Fr h₀ L h (fun z => if z = y₀ then some (.ref D) else m z) → News h₀ L h ((D, lst ys) :: Led c) → (∀ p ∈ Led c, p.1 ≠ D) → s.heap.objs.size ≤ D → P vs.length ys c → Q₀ { s with heap := h, gens := G c, toks := tk }) :
    wpAny (model prog w) A (pyIter (.ref l)) (fun it s₂ => wpAny (model prog w) A (newList []) (fun acc s₃ => wpAny (model prog w) A (newFunctionEnv scope env.globals cl [] env.qual none .none (some env)) (fun cenv s₄ =>
      codeAny (model prog w) A (.compStart (.ListComp elt [⟨.Name x px, iter, ifs, 0⟩] scope pos) 0 it acc { cenv with scope := relabel scope env }) (compPost (model prog w) A E (some (assign (.Name y₀ py₀) env)) (fun _ s' => Q₀ s') acc cenv.locals) s₄) E s₃) E s₂) E s :=
  comp_tup (RR := fun acc C => compPost (model prog w) A E (some (assign (.Name y₀ py₀) env)) (fun _ s' => Q₀ s') acc C) G Led P c₀ hh hl hsz hcell hkind hx hg F N hp turn fun D C h tk m' ys c F N off hn hC₀ hCL hDL hCD hle hP => cpost_name (Q := fun _ s' => Q₀ s') (G := G) (Led := Led) (P := fun ys c => P vs.length ys c) (c := c) hL hy hpl done F N off hn hC₀ hCL hDL hCD hle hP
end
section
variable {prog : Program} {w : World} {s : Shared} {h₀ : Heap} {L : Addr} {m : Str → Option Value}

theorem enterX {Q E : Value → Shared → Prop} {K : Frag} {p : Program} {loose : List Str} {mean : ExcName → Option Value} {mg mb : Str → Option Value} {dp un : Nat} {gd : Option (List Code)} {cn : Str} {cs : Scope} {a : Addr} {ccd : Value} {cl : List (Str × Addr)} {outer : List Env} {A₀ : Around} {base : Heap} {news : List (Addr × Obj)}
    {name qual : Str} {params : Arguments} {body : List Stmt} {scope : Scope} {dV kV doc pm cdv ct oc : Value} {an od : Option Addr} {osl : Array (Option Value)} {f : Addr} {args : List Value} {binds : List (Str × Value)}
    (B : Below A₀ base outer h₀) (F : Fr h₀ L s.heap m) (X : K.In h₀) (N : News h₀ L s.heap news) (T : Top p loose mean mg mb h₀) (hk : cs.kind = .function)
    (ho : K.lookup f = some ⟨oc, od, .func (fnOf name qual params body scope dV kV doc pm an cdv ct), osl⟩) (hcd : codeIn K cdv qual = true) (hroom : dp < recursionLimit)
    (hbind : BindsTo s (fnOf name qual params body scope dV kV doc pm an cdv ct) ⟨args, []⟩ binds) (hkind : (binds.all fun y => scope.names.lookup y.1 == some .local || scope.names.lookup y.1 == some .cell) = true)
    (hnd : ((cellsFrom 0 scope.names []).map (·.1)).Nodup)
    (h : ∀ g L' h₁ tk cells, Fr h₀ L g m → Fr g L' h₁ (bindL (envOfC qual scope L' f cdv).kindOf binds fun _ => none) → News g L' h₁ (cells ++ news) → CellsAre (bindC (envOfC qual scope L' f cdv).kindOf binds fun _ => none) (cellsFrom (L' + 1) scope.names []) cells →
      Below (ktrTop dp un gd cn cs L a ccd cl outer) base (envX cn cs L a ccd cl :: outer) g → K.In g → Top p loose mean mg mb g → (∀ q ∈ news, q.1 < L') →
      wpAny (model prog w) (ktrTop (dp + 1) (un + 3) gd qual scope L' f cdv (cellsFrom (L' + 1) scope.names []) (envX cn cs L a ccd cl :: outer)) (execs body (envOfC qual scope L' f cdv))
        (fun fl s' => LeaveK h₀ L m g (fun r s' => match r with | .ok (.ret v) => Q v s' | .ok _ => False | .error _ => False) (match fl with | .ret v => v | _ => .none) s') (fun _ _ => False)
        { s with heap := h₁, toks := tk })
    (hco : scope.isCoroutine = false) (hgen : scope.isGenerator = false) (hks : scope.kind = .function) :
    wpAny (model prog w) (ktrTop dp un gd cn cs L a ccd cl outer) (call (.ref f) args) Q E s := by
  refine wpAny_mono (Q := Q) (E := fun _ _ => False) ?_ (fun _ _ x => x) fun _ _ x => x.elim
  refine wpAny_call ?_
  refine code_defC B F X N T rfl rfl hk ho hcd hroom hbind hkind hnd (fun g L' h₁ tk cells FG F' N' Y B' X' T' l => ?_) hco hgen hks
  refine wpAny_mono (h g L' h₁ tk cells FG F' N' Y B' X' T' l) (fun fl s' z => ?_) fun _ _ x => x.elim
  refine Mine.gk ?_
  intro Gz9 kz9
  obtain ⟨L2, m2, n2, F2, N2, k⟩ := z
  refine kz9 ?_
  (try clear kz9 Gz9)
  refine ⟨L2, m2, n2, F2, N2, fun a b => ?_⟩
  exact k a b
end
end Mine
end TObj2

section TStr2
open PySem PySem.W PyProof.Rows PySem.Spec PySem.Calls
set_option maxRecDepth 100000
namespace Mine
theorem pick_list (l : List Nat) (a k : Nat) : ((List.range k).map fun i => a + i).filterMap (l[·]?) = (l.drop a).take k := by
  induction k generalizing a with
  | zero => simp
  | succ k ih =>
    rw [List.range_succ_eq_map, List.map_cons, List.map_map]
    have e : (List.map ((fun i => a + i) ∘ Nat.succ) (List.range k)) = (List.range k).map fun i => (a + 1) + i := by
      refine List.map_congr_left fun i _ => ?_
      show a + (i + 1) = a + 1 + i
      kst_p2
    rw [e]
    cases h : l[a]? with
    | none =>
      have hl := List.getElem?_eq_none_iff.mp h
      rw [List.filterMap_cons_none (by simpa using h), ih]
      rw [List.drop_eq_nil_of_le hl, List.drop_eq_nil_of_le (by kst_p2)]; simp
    | some c =>
      obtain ⟨hl, hc⟩ := List.getElem?_eq_some_iff.mp h
      rw [List.filterMap_cons_some (b := c) (by simpa using h), ih, List.drop_eq_getElem_cons hl, hc]
      rfl
theorem slice_text (l : List Nat) (a b : Nat) (h : a ≤ l.length) (hb : a ≤ b) : Txt.slice ⟨l.toArray⟩ (some (a : Int)) (some (b : Int)) = ⟨((l.drop a).take (b - a)).toArray⟩ := by
  have hn : (⟨l.toArray⟩ : Str).length = l.length := by simp [Str.length]
  have e : Builtin.Str.strSliceIndices (some (a : Int)) (some (b : Int)) 1 l.length = (List.range (min b l.length - a)).map fun i => a + i := by
    unfold Builtin.Str.strSliceIndices sliceRange
    simp only [show (1 : Int) > 0 by decide, if_true]
    rw [if_neg (show ¬ (a : Int) < 0 by kst_p2), if_neg (show ¬ (b : Int) < 0 by kst_p2)]
    have e1 : max 0 (min (a : Int) (l.length : Int)) = (a : Int) := by kst_p2
    have e2 : max 0 (min (b : Int) (l.length : Int)) = ((min b l.length : Nat) : Int) := by kst_p2
    rw [e1, e2]
    have e3 : (if (a : Int) < ((min b l.length : Nat) : Int) then (((min b l.length : Nat) : Int) - a + 1 - 1) / 1 else 0).toNat = min b l.length - a := by
      split
      · rw [Int.ediv_one]; kst_p2
      · kst_p2
    rw [e3]
    refine List.map_congr_left fun i _ => ?_
    kst_p2
  have hp : (Builtin.Str.strSliceIndices (some (a : Int)) (some (b : Int)) 1 l.length).filterMap (l[·]?) = (l.drop a).take (b - a) := by
    rw [e, pick_list]
    by_cases hx : b ≤ l.length
    · rw [Nat.min_eq_left hx]
    · rw [Nat.min_eq_right (by kst_p2), List.take_of_length_le (by rw [List.length_drop]; kst_p2), List.take_of_length_le (by rw [List.length_drop]; kst_p2)]
  unfold Txt.slice
  rw [hn]
  split
  · rename_i hw
    have hl : (List.range (min b l.length - a)).length = l.length := by
      rw [e, List.length_map] at hw
      simpa using hw
    rw [List.length_range] at hl
    have : a = 0 ∧ l.length ≤ b ∨ l.length = 0 := by kst_p2
    rcases this with ⟨rfl, hb⟩ | h0
    · rw [List.drop_zero, List.take_of_length_le (by kst_p2)]
    · have : l = [] := List.length_eq_zero_iff.mp h0
      subst this; simp
  · simp only [List.getElem?_toArray]
    rw [hp]
theorem item_text (l : List Nat) (a c : Nat) (h : l[a]? = some c) : Txt.item ⟨l.toArray⟩ (a : Int) = ⟨#[c]⟩ := by
  have ha := (List.getElem?_eq_some_iff.mp h).1
  unfold Txt.item Txt.charAt seqIndex?
  have hn : (⟨l.toArray⟩ : Str).length = l.length := by simp [Str.length]
  rw [hn, if_neg (show ¬ (a : Int) < 0 by kst_p2)]
  have e : (decide (0 ≤ (a : Int)) && decide ((a : Int) < (l.length : Int))) = true := by simp; kst_p2
  rw [if_pos e]
  simp [h]
theorem in_ab : ∀ c, c < 128 → Txt.contains (Str.ofString "ab") ⟨#[c]⟩ = decide (c = 97 ∨ c = 98) := by
  have h : ∀ c : Fin 128, Txt.contains (Str.ofString "ab") ⟨#[c.val]⟩ = decide (c.val = 97 ∨ c.val = 98) := by decide +kernel
  exact fun c hc => h ⟨c, hc⟩
section
variable {prog : Program} {w : World} {A : Around} {E : Value → Shared → Prop} {s : Shared} {h₀ : Heap} {L : Addr} {m : Str → Option Value} {news : List (Addr × Obj)} {value slice : PySem.Expr} {Q : Value → Shared → Prop}
theorem my_text {l : List Nat} {a b : Nat} {i j : Int} {t ui uj : Tok} (ei : i = (a : Int)) (ej : j = (b : Int)) (ha : a ≤ l.length) (hab : a ≤ b) (hz : l.length ≤ 1000) (F : Fr h₀ L s.heap m) (N : News h₀ L s.heap news)
    (h : ∀ h' t' k, Fr h₀ L h' m → News h₀ L h' news → Q (.str ⟨((l.drop a).take (b - a)).toArray⟩ t') { s with heap := h', toks := k })
    (hs : subscripted slice false (.str ⟨l.toArray⟩ t) (.ref s.heap.objs.size) = operate [.ref s.heap.objs.size, .str ⟨l.toArray⟩ t] (getItem (.str ⟨l.toArray⟩ t) (.ref s.heap.objs.size)) := by with_unfolding_all rfl)
    (ht : ∀ r, letTemporaryGo value (.str ⟨l.toArray⟩ t) r = pure () := by intro _; with_unfolding_all rfl) :
    wpAny (model prog w) A (subscriptTail value slice (.str ⟨l.toArray⟩ t) (.ref s.heap.objs.size)) Q E { s with heap := s.heap.push { cls := .type "slice", data := .fields #[.int i ui, .int j uj, .none] } } := by
  subst ei ej
  refine slice_strN_ss F N (fun h' t' k F' N' => ?_) hs ht ?_
  · rw [slice_text l a b ha hab]; exact h h' t' k F' N'
  · have hn : (⟨l.toArray⟩ : Str).length = l.length := by simp [Str.length]
    rw [hn, sizeLine_eq]; kst_p2
theorem my_sign {l : List Nat} {a c : Nat} {i : Int} {t u : Tok} (ei : i = (a : Int)) (hc : l[a]? = some c) (hz : l.length ≤ 1000) (h : Q (.str ⟨#[c]⟩ s.toks) { s with toks := s.toks + 1 })
    (hs : subscripted slice false (.str ⟨l.toArray⟩ t) (.int i u) = operate [.str ⟨l.toArray⟩ t, .int i u] (getItem (.str ⟨l.toArray⟩ t) (.int i u)) := by with_unfolding_all rfl)
    (ht : ∀ r, letTemporaryGo value (.str ⟨l.toArray⟩ t) r = pure () := by intro _; with_unfolding_all rfl) :
    wpAny (model prog w) A (subscriptTail value slice (.str ⟨l.toArray⟩ t) (.int i u)) Q E s := by
  subst ei
  have ha := (List.getElem?_eq_some_iff.mp hc).1
  have hn : (⟨l.toArray⟩ : Str).length = l.length := by simp [Str.length]
  refine item_str (fitsSsize_of (N := 9223372036854775808) (by kst_p2) (by kst_p2) (Int.le_refl _)) (by rw [hn]; kst_p2) (by rw [hn]; kst_p2) (fun _ => ?_) hs ht
  rw [item_text l a c hc]
  exact h
theorem my_lenS {l : List Nat} {t : Tok} (hz : l.length ≤ 1000) (h : Q (.int (l.length : Nat) (s.toks + 1)) { s with toks := s.toks + 1 + 1 }) : wpAny (model prog w) A (call (.builtin "len") [.str ⟨l.toArray⟩ t]) Q E s := by
  have hn : (⟨l.toArray⟩ : Str).length = l.length := by simp [Str.length]
  refine len_str (by rw [hn]; kst_p2) ?_
  rw [hn]; exact h
end
end Mine
end TStr2

section TAcc
open PySem PySem.W PyProof.Rows PySem.Spec PySem.Calls
set_option Elab.async false
set_option maxRecDepth 100000
set_option maxHeartbeats 4000000
set_option linter.unusedVariables false
namespace Mine
structure AccF (K : Frag) : Prop where
  ga : findIn K (.ref 178) "__getattribute__" = some (some (.builtin "list.__getattribute__"))
  gt : findIn K (.ref 178) "__getattr__" = some none
  sa : findIn K (.ref 178) "__setattr__" = some (some (.builtin "object.__setattr__"))
  hdct : hasDictIn K 178 = true
  cls : ∃ cd, clsIn K 178 = some cd ∧ cd.mro = [.ref 178, .type "list", .type "object"] ∧ cd.hasDict = true ∧ cd.qualname = Str.ofString "_Accumulator"
  push : findIn K (.ref 178) "push" = some (some (.ref 122))
  pop_from : findIn K (.ref 178) "pop_from" = some (some (.ref 130))
  pop : findIn K (.ref 178) "pop" = some (some (.ref 138))
  len : findIn K (.ref 178) "__len__" = some (some (.ref 145))
  str : findIn K (.ref 178) "__str__" = some (some (.ref 152))
  reset : findIn K (.ref 178) "reset" = some (some (.ref 160))
  is_onlyws : findIn K (.ref 178) "is_onlyws" = some (some (.ref 167))
  part_count : findIn K (.ref 178) "part_count" = some (some (.ref 175))
  append : findIn K (.ref 178) "append" = some (some (.builtin "list.append"))
  getitem : findIn K (.ref 178) "__getitem__" = some (some (.builtin "list.__getitem__"))
  setitem : findIn K (.ref 178) "__setitem__" = some (some (.builtin "list.__setitem__"))
  iter : findIn K (.ref 178) "__iter__" = some (some (.builtin "list.__iter__"))
  nobool : findIn K (.ref 178) "__bool__" = some none
  size : findIn K (.ref 178) "_initial_size" = some none
  taker : takerIn K 178 "_initial_size" = some none
  f122 : isFn K (.ref 122) = true
  f130 : isFn K (.ref 130) = true
  f138 : isFn K (.ref 138) = true
  f145 : isFn K (.ref 145) = true
  f152 : isFn K (.ref 152) = true
  f160 : isFn K (.ref 160) = true
  f167 : isFn K (.ref 167) = true
  f175 : isFn K (.ref 175) = true
  any : nsIn K cStatics "thirdparty.any" = some none
  tcls : typeIn K (.ref 178) = some (.type "type")
  sup_len : ks_superIn K 178 178 "__len__" = some (some (.builtin "list.__len__"))
  sup_init : ks_superIn K 178 178 "__init__" = some (some (.builtin "list.__init__"))
  sup_pop : ks_superIn K 178 178 "pop" = some (some (.builtin "list.pop"))
theorem accF (w : World) : PySem.Challenge.rw_ti0073_01 = PySem.Challenge.rw_ti0073_01 → AccF (hd.heap_1 w.params) := by
  k_fill
  intro _
  refine' ⟨?_, ?_, ?_, ?_, ?cls, ?_, ?_, ?_, ?_, ?_, ?_, ?_, ?_, ?_, ?_, ?_, ?_, ?_, ?_, ?_, ?_, ?_, ?_, ?_, ?_, ?_, ?_, ?_, ?_, ?_, ?_, ?_, ?_⟩
  case cls => exact ⟨_, by k_is, rfl, rfl, rfl⟩
  all_goals first | k_is | ks_is
noncomputable abbrev accO (da : Addr) (parts : List Value) (n : Nat) : Obj := { cls := .ref 178, dict := some da, data := .seq parts.toArray n }
noncomputable abbrev accD (w : World) (k : Int) (t1 t2 : Tok) : Obj := dictOf [{ hash := PyData.keyHash w.params (Str.ofString "_initial_size"), key := .str (Str.ofString "_initial_size") t1, val := .int k t2 }] 1
theorem InstAt.ofAcc {h : Heap} {x da : Addr} {parts : List Value} {n : Nat} {od : Obj} (h1 : h.get? x = some (accO da parts n)) (h2 : h.get? da = some od) : InstAt h x (accO da parts n) 178 (some od) := ⟨h1, rfl, rfl, h2⟩
theorem acc_isList {K : Frag} {M : Model} {h : Heap} {x : Addr} {ox : Obj} {od : Option Obj} (A : AccF K) (X : K.In h) (I : InstAt h x ox 178 od) : Looks M h (isInstance (.ref x) (.type "list")) true := by
  refine Mine.gk ?_
  intro Gz9 kz9
  obtain ⟨cd, hc, hm, _⟩ := A.cls
  refine kz9 ?_
  (try clear kz9 Gz9)
  refine I.type.andThen (looks_mroIn X ?_)
  unfold mroIn
  rw [hc, Option.bind_some, hm]
  rfl
theorem acc_isObj {K : Frag} {M : Model} {h : Heap} {x : Addr} {ox : Obj} {od : Option Obj} (A : AccF K) (X : K.In h) (I : InstAt h x ox 178 od) : Looks M h (isInstance (.ref x) (.type "object")) true := by
  refine Mine.gk ?_
  intro Gz9 kz9
  obtain ⟨cd, hc, hm, _⟩ := A.cls
  refine kz9 ?_
  (try clear kz9 Gz9)
  refine I.type.andThen (looks_mroIn X ?_)
  unfold mroIn
  rw [hc, Option.bind_some, hm]
  rfl
section
variable {prog : Program} {w : World} {A : Around} {E : Value → Shared → Prop} {s : Shared} {K : Frag} {x : Addr} {ox : Obj} {od : Option Obj} {name : Str} {pl : Sem Bool}
theorem acc_method {Q : Value × List Value → Shared → Prop} {f : Addr} (C : AccF K) (X : K.In s.heap) (I : InstAt s.heap x ox 178 od) (hf : findIn K (.ref 178) name = some (some (.ref f))) (ht : isFn K (.ref f) = true) (hs : shadowIn od name = some false) (h : Q (.ref f, [.ref x]) s) :
    wpAny (model prog w) A (getMethod (.ref x) name pl) Q E s := by
  have hcan := PySem.canon_list_getattribute
  have ht' : typeIn K (.ref f) = some (.type "function") := beq_iff_eq.mp ht
  unfold getMethod specialOf
  refine wpAny_bind (wpAny_bind (I.type.here ((looks_findIn X C.ga).here ?_)))
  dsimp only
  rw [if_neg (by rw [hcan]; simp)]
  refine wpAny_bind (wpAny_bind (I.type.here ((looks_findIn X C.gt).here ?_)))
  refine wpAny_bind (wpAny_bind (I.type.here ((looks_findIn X hf).here (wpAny_bind ((looks_typeIn X ht').here ?_)))))
  rw [if_neg (by decide +kernel)]
  refine wpAny_bind (wpAny_loadPart I.at_ ?_)
  have hd := I.dict
  cases e : ox.dict with
  | none => exact wpAny_bind (wpAny_rule (wpAny_pure h))
  | some dx =>
    cases od with
    | none => rw [e] at hd; exact hd.elim
    | some o =>
      rw [e] at hd
      obtain ⟨r, a, b⟩ := Option.map_eq_some_iff.mp hs
      refine wpAny_bind (wpAny_bind (wpAny_loadPart hd ?_))
      rw [nsLook_of a]
      refine wpAny_pure ?_
      rw [b]
      exact wpAny_bind (wpAny_rule (wpAny_pure h))
theorem acc_methodB {Q : Value × List Value → Shared → Prop} {i : String} (C : AccF K) (X : K.In s.heap) (I : InstAt s.heap x ox 178 od) (hf : findIn K (.ref 178) name = some (some (.builtin i))) (ht : typeIn K (.builtin i) = some (.type "method_descriptor")) (hs : shadowIn od name = some false) (h : Q (.builtin i, [.ref x]) s) :
    wpAny (model prog w) A (getMethod (.ref x) name pl) Q E s := by
  have hcan := PySem.canon_list_getattribute
  unfold getMethod specialOf
  refine wpAny_bind (wpAny_bind (I.type.here ((looks_findIn X C.ga).here ?_)))
  dsimp only
  rw [if_neg (by rw [hcan]; simp)]
  refine wpAny_bind (wpAny_bind (I.type.here ((looks_findIn X C.gt).here ?_)))
  refine wpAny_bind (wpAny_bind (I.type.here ((looks_findIn X hf).here (wpAny_bind ((looks_typeIn X ht).here ?_)))))
  rw [if_neg (by decide +kernel)]
  refine wpAny_bind (wpAny_loadPart I.at_ ?_)
  have hd := I.dict
  cases e : ox.dict with
  | none => exact wpAny_bind (wpAny_rule (wpAny_pure h))
  | some dx =>
    cases od with
    | none => rw [e] at hd; exact hd.elim
    | some o =>
      rw [e] at hd
      obtain ⟨r, a, b⟩ := Option.map_eq_some_iff.mp hs
      refine wpAny_bind (wpAny_bind (wpAny_loadPart hd ?_))
      rw [nsLook_of a]
      refine wpAny_pure ?_
      rw [b]
      exact wpAny_bind (wpAny_rule (wpAny_pure h))
theorem check_any {M : Model} {A : Around} {E : Value → Shared → Prop} {s : Shared} {i owner n : String} {self : Value} {rest : List Value} {kw : List (Str × Value)} {Q : Unit → Shared → Prop}
    (hk : builtinKind i = some .slot ∨ builtinKind i = some .method) (hs : splitId i = some (owner, n)) (hi : Looks M s.heap (isInstance self (.type owner)) true) (ha : argsOk i ⟨self :: rest, kw⟩) (q : Q () s) :
    wpAny M A (checkBuiltinCall i ⟨self :: rest, kw⟩) Q E s := by
  rcases hk with hk | hk
  · exact check_slot hk hs hi ha q
  · simp only [checkBuiltinCall, hk, hs]
    refine wpAny_bind (hi.here ?_)
    simp only [Bool.not_true, Bool.false_eq_true, if_false]
    cases hsig : Manifest.signature? i with
    | none => exact wpAny_pure q
    | some sig =>
      simp only [argsOk, hsig] at ha
      have h2 : Bind.checkArgs i sig ⟨self :: rest, kw⟩ = pure () := ha
      show wpAny M A (Bind.checkArgs i sig ⟨self :: rest, kw⟩) Q E s
      rw [h2]; exact wpAny_pure q
theorem acc_entry {Q : Value → Shared → Prop} {i n : String} {b : Builtin} {rest : List Value} (C : AccF K) (X : K.In s.heap) (I : InstAt s.heap x ox 178 od) (hk : builtinKind i = some .slot ∨ builtinKind i = some .method) (hs : splitId i = some ("list", n)) (hp : plainId i = true) (hb : entryFor table i = some b) (ha : argsOk i ⟨.ref x :: rest, []⟩)
    (h : wpAny (model prog w) A.in1 (b ⟨.ref x :: rest, []⟩) (fun fin s' => ∃ v, fin = .done (.ret v) ∧ Q v s') E s) : wpAny (model prog w) A (call (.builtin i) (.ref x :: rest)) Q E s := by
  refine wpAny_call (codeAny_call_builtin hp hb (check_any hk hs (acc_isList C X I) ha (wpAny_mono h (fun fin s' h' => ?_) fun _ _ h' => h')))
  obtain ⟨v, rfl, hv⟩ := h'; exact hv
theorem acc_get {expr : Bool} {Q : Value → Shared → Prop} {v : Value} {attr : Option Value} (C : AccF K) (X : K.In s.heap) (I : InstAt s.heap x ox 178 od) (hf : findObj K 178 od name = some (.value v)) (hh : handedIn v = true) (h : Q v { s with toks := s.toks + 1 }) :
    wpAny (model prog w) A (getAttr (.ref x) name expr) Q E s := by
  refine Mine.gk ?_
  intro Gz9 kz9
  obtain ⟨hh', g, d, t, os⟩ := s
  refine kz9 ?_
  (try clear kz9 Gz9)
  have L0 := I.type (M := model prog w)
  have L1 := looks_findIn (M := model prog w) X C.ga
  have L2 := looks_findIn (M := model prog w) X C.gt
  have L3 := looks_find (M := model prog w) X I hf
  unfold getAttr getAttrBy
  refine wpAny_bind (wpAny_mkText (wpAny_holding (wpAny_bind (L0.at (wpAny_bind (L1.at ?_))))))
  show wpAny _ _ (getAttrByItsOwn (.ref x) (.str name t) (.ref 178) (.builtin "list.__getattribute__") true expr) _ _ _
  unfold getAttrByItsOwn hookBefore callGetattribute boundAndCalled
  refine wpAny_bind ?_
  rw [if_pos (by rfl)]
  refine L2.at ?_
  refine wpAny_bind (wpAny_attempt (wpAny_holding ?_))
  rw [if_neg (by cases expr <;> decide)]
  refine wpAny_bind (wpAny_of_eq (PySem.F.slot_list_getattribute.bind _) ?_)
  refine acc_entry (n := "__getattribute__") C X I (.inl (by decide +kernel)) (by decide +kernel) (by decide +kernel) PySem.am_entry_list_getattribute (PySem.F.args_list_getattribute_2 _ _) ?_
  unfold Builtin.«object.__getattribute__»
  refine wpAny_bind (m := slotArgs "__getattribute__" 1 _) (wpAny_pure ?_)
  refine wpAny_bind (wpAny_pure ?_)
  refine wpAny_bind (L0.at (wpAny_bind (L3.at ?_)))
  refine wpAny_pure ⟨v, rfl, ?_⟩
  show wpAny _ _ (handedOut v) _ _ _
  rw [handedOut_of hh]; exact wpAny_pure h
end
end Mine
end TAcc

section TAcc2
open PySem PySem.W PyProof.Rows PySem.Spec PySem.Calls
set_option Elab.async false
set_option maxRecDepth 100000
set_option maxHeartbeats 4000000
set_option linter.unusedVariables false
namespace Mine
theorem wd_slot : Slot "wrapper_descriptor" "__get__" "wrapper_descriptor.__get__" := .of (owner := "wrapper_descriptor") (n := "__get__") (by rw [typeLookup_type, builtinLookup_eq_fast]; kernel_rfl) (by decide +kernel) (by decide +kernel) (by decide +kernel)
  (by first | exact .inl (by decide +kernel) | exact .inr (by decide +kernel)) (by rw [isSubtype_type]; kernel_rfl)
theorem md_slot : Slot "method_descriptor" "__get__" "method_descriptor.__get__" := .of (owner := "method_descriptor") (n := "__get__") (by rw [typeLookup_type, builtinLookup_eq_fast]; kernel_rfl) (by decide +kernel) (by decide +kernel) (by decide +kernel)
  (by first | exact .inl (by decide +kernel) | exact .inr (by decide +kernel)) (by rw [isSubtype_type]; kernel_rfl)
theorem wd_entry : entryFor table "wrapper_descriptor.__get__" = some Builtin.«wrapper_descriptor.__get__» := entryFor_of_tree (by kernel_rfl)
theorem md_entry : entryFor table "method_descriptor.__get__" = some Builtin.«method_descriptor.__get__» := entryFor_of_tree (by kernel_rfl)
theorem wd_args (a b c : Value) : argsOk "wrapper_descriptor.__get__" ⟨[a, b, c], []⟩ := by unfold argsOk; kernel_rfl
theorem md_args (a b c : Value) : argsOk "method_descriptor.__get__" ⟨[a, b, c], []⟩ := by unfold argsOk; kernel_rfl
section
variable {prog : Program} {w : World} {A : Around} {E : Value → Shared → Prop} {K : Frag} {x : Addr} {ox : Obj} {od : Option Obj} {h : Heap} {g : Array GenState} {d : Drawn} {t : Nat} {os : OsState}
theorem acc_mro {M : Model} (C : AccF K) (X : K.In h) (b : Bool) (T : Value) (hT : ([.ref 178, .type "list", .type "object"] : List Value).contains T = b) : Looks M h (isSubtype (.ref 178) T) b := by
  refine Mine.gk ?_
  intro Gz9 kz9
  obtain ⟨cd, hc, hm, _⟩ := C.cls
  refine kz9 ?_
  (try clear kz9 Gz9)
  refine looks_mroIn X ?_
  unfold mroIn
  rw [hc, Option.bind_some, hm, if_neg (by decide), hT]
theorem wd_len {Q : Fin → Shared → Prop} (C : AccF K) (X : K.In h) (I : InstAt h x ox 178 od) (hq : Q (.done (.ret (.ref h.objs.size))) ⟨h.push { cls := .type "method-wrapper", data := .fields #[.builtin "list.__len__", .ref x] }, g, d, t, os⟩) :
    wpAny (model prog w) A (Builtin.«wrapper_descriptor.__get__» ⟨[.builtin "list.__len__", .ref x, .ref 178], []⟩) Q E ⟨h, g, d, t, os⟩ := by
  unfold Builtin.«wrapper_descriptor.__get__»
  repeat wp_step
  refine wpAny_loadPart I.at_ ?_
  rw [I.cls, show (".".intercalate ("list.__len__".cutAt '.').dropLast) = "list" from by decide +kernel]
  refine wpAny_pure ((acc_mro C X true _ (by decide)).at ?_)
  rw [if_neg (by decide)]
  unfold newFields
  refine wpAny_pure (wpAny_bind (wpAny_newObj_type ?_ (by size_fits)))
  exact wpAny_pure hq
theorem wd_init {Q : Fin → Shared → Prop} (C : AccF K) (X : K.In h) (I : InstAt h x ox 178 od) (hq : Q (.done (.ret (.ref h.objs.size))) ⟨h.push { cls := .type "method-wrapper", data := .fields #[.builtin "list.__init__", .ref x] }, g, d, t, os⟩) :
    wpAny (model prog w) A (Builtin.«wrapper_descriptor.__get__» ⟨[.builtin "list.__init__", .ref x, .ref 178], []⟩) Q E ⟨h, g, d, t, os⟩ := by
  unfold Builtin.«wrapper_descriptor.__get__»
  repeat wp_step
  refine wpAny_loadPart I.at_ ?_
  rw [I.cls, show (".".intercalate ("list.__init__".cutAt '.').dropLast) = "list" from by decide +kernel]
  refine wpAny_pure ((acc_mro C X true _ (by decide)).at ?_)
  rw [if_neg (by decide)]
  unfold newFields
  refine wpAny_pure (wpAny_bind (wpAny_newObj_type ?_ (by size_fits)))
  exact wpAny_pure hq
theorem md_pop {Q : Fin → Shared → Prop} (C : AccF K) (X : K.In h) (I : InstAt h x ox 178 od) (hq : Q (.done (.ret (.ref h.objs.size))) ⟨h.push { cls := .type "builtin_function_or_method", data := .fields #[.builtin "list.pop", .ref x] }, g, d, t, os⟩) :
    wpAny (model prog w) A (Builtin.«method_descriptor.__get__» ⟨[.builtin "list.pop", .ref x, .ref 178], []⟩) Q E ⟨h, g, d, t, os⟩ := by
  unfold Builtin.«method_descriptor.__get__»
  repeat wp_step
  refine wpAny_loadPart I.at_ ?_
  rw [I.cls, show (".".intercalate ("list.pop".cutAt '.').dropLast) = "list" from by decide +kernel]
  refine wpAny_pure ((acc_mro C X true _ (by decide)).at ?_)
  rw [if_neg (by decide)]
  unfold newFields
  refine wpAny_pure (wpAny_bind (wpAny_newObj_type ?_ (by size_fits)))
  exact wpAny_pure hq
theorem super_ga {so : Addr} {id gid TD : String} {bg : Builtin} {name : Str} {tk : Tok} {bt : String} {Q : Fin → Shared → Prop} (C : AccF K) (X : K.In h) (I : InstAt h x ox 178 od)
    (hso : h.get? so = some (ks_superObj 178 x 178)) (hf : ks_superIn K 178 178 name = some (some (.builtin id))) (hT : typeOf (.builtin id) = pure (.type TD)) (hS : Slot TD "__get__" gid) (hE : entryFor table gid = some bg) (hA : ∀ a b c : Value, argsOk gid ⟨[a, b, c], []⟩) (hn : (name == ("__class__" : Str)) = false)
    (hb : ∀ (A : Around) (E : Value → Shared → Prop) (Q : Fin → Shared → Prop), Q (.done (.ret (.ref h.objs.size))) ⟨h.push { cls := .type bt, data := .fields #[.builtin id, .ref x] }, g, d, t, os⟩ → wpAny (model prog w) A (bg ⟨[.builtin id, .ref x, .ref 178], []⟩) Q E ⟨h, g, d, t, os⟩)
    (hq : Q (.done (.ret (.ref h.objs.size))) ⟨h.push { cls := .type bt, data := .fields #[.builtin id, .ref x] }, g, d, t, os⟩) :
    wpAny (model prog w) A (Builtin.«super.__getattribute__» ⟨[.ref so, .str name tk], []⟩) Q E ⟨h, g, d, t, os⟩ := by
  refine Mine.gk ?_
  intro Gz9 kz9
  obtain ⟨cd, hc, hm, _⟩ := C.cls
  refine kz9 ?_
  (try clear kz9 Gz9)
  have hxC : x ≠ 178 := ks_ne X I hc
  have hal : alongIn K name [.type "list", .type "object"] = some (some (.builtin id)) := by
    unfold ks_superIn at hf
    rw [hc, Option.bind_some, hm] at hf
    exact hf
  have hC : Looks (model prog w) h (mroOf (.ref 178)) cd.mro := (looks_clsIn X hc).andThen .now
  have hlk := hS.lookup
  have hno := looks_opaque (M := model prog w) (C := 178) X C.any
  have hne : (Value.ref x == Value.ref 178) = false := by simp [hxC]
  have hTf : (⟨h, g, d, t, os⟩ : Shared).TypeIs (.builtin id) TD := hT
  have hdt : (ks_superObj 178 x 178).data = .fields #[.ref 178, .ref x, .ref 178] := rfl
  have f0 : (#[.ref 178, .ref x, .ref 178] : Array Value)[0]? = some (.ref 178) := rfl
  have f1 : (#[.ref 178, .ref x, .ref 178] : Array Value)[1]? = some (.ref x) := rfl
  have f2 : (#[.ref 178, .ref x, .ref 178] : Array Value)[2]? = some (.ref 178) := rfl
  have hl : (cd.mro.dropWhile (· != .ref 178)).drop 1 = [.type "list", .type "object"] := by rw [hm]; rfl
  unfold Builtin.«super.__getattribute__»
  repeat (first
    | (with_reducible refine wpAny_field hso hdt f0 ?_) | (with_reducible refine wpAny_field hso hdt f1 ?_) | (with_reducible refine wpAny_field hso hdt f2 ?_)
    | (with_reducible refine ks_wpAny_notOpaque hno ?_)
    | (with_reducible refine Looks.at hC ?_; rw [hl])
    | (refine ks_forIn_along X (fun _ _ => rfl) rfl ?_ hal)
    | (with_reducible refine wpAny_typeOf hTf ?_)
    | (with_reducible refine wpAny_call_entry hS hTf hE ?_ (hA _ _ _))
    | (with_reducible refine hb _ _ _ ?_)
    | (with_reducible refine ⟨_, rfl, ?_⟩)
    | (simp only [hn, hne, Bool.or_false, Bool.false_eq_true, if_false])
    | wp_step
    | dsimp only)
  all_goals exact hq
theorem super_method {so : Addr} {id gid TD : String} {bg : Builtin} {name : Str} {bt : String} {pl : Sem Bool} {Q : Value × List Value → Shared → Prop} (C : AccF K) (X : K.In h) (I : InstAt h x ox 178 od)
    (hso : h.get? so = some (ks_superObj 178 x 178)) (hf : ks_superIn K 178 178 name = some (some (.builtin id))) (hT : typeOf (.builtin id) = pure (.type TD)) (hS : Slot TD "__get__" gid) (hE : entryFor table gid = some bg) (hA : ∀ a b c : Value, argsOk gid ⟨[a, b, c], []⟩) (hn : (name == ("__class__" : Str)) = false)
    (hb : ∀ (t : Nat) (A : Around) (E : Value → Shared → Prop) (Q : Fin → Shared → Prop), Q (.done (.ret (.ref h.objs.size))) ⟨h.push { cls := .type bt, data := .fields #[.builtin id, .ref x] }, g, d, t, os⟩ → wpAny (model prog w) A (bg ⟨[.builtin id, .ref x, .ref 178], []⟩) Q E ⟨h, g, d, t, os⟩)
    (hq : Q (.ref h.objs.size, []) ⟨h.push { cls := .type bt, data := .fields #[.builtin id, .ref x] }, g, d, t + 1, os⟩) :
    wpAny (model prog w) A (getMethod (.ref so) name pl) Q E ⟨h, g, d, t, os⟩ := by
  have hlk := PySem.F.ks_slot_super_ga.lookup
  have hcan := PySem.F.ks_canon_super_ga
  have hT' : ∀ t', (⟨h, g, d, t', os⟩ : Shared).TypeIs (.ref so) "super" := fun _ => ⟨_, hso, rfl⟩
  unfold getMethod
  refine wpAny_bind (wpAny_specialOf (hT' _) hlk ?_)
  show wpAny _ _ (if (Manifest.canonical "super.__getattribute__" != "object.__getattribute__") = true then _ else _) _ _ _
  rw [if_pos hcan]
  unfold getAttr getAttrBy
  refine wpAny_bind (wpAny_bind (wpAny_mkText (wpAny_holding (wpAny_bind (wpAny_typeOf (hT' _) (wpAny_bind (wpAny_of_eq hlk ?_)))))))
  show wpAny _ _ (getAttrByItsOwn (.ref so) (.str name t) (.type "super") (.builtin "super.__getattribute__") true false) _ _ _
  unfold getAttrByItsOwn hookBefore callGetattribute boundAndCalled
  refine wpAny_bind (wpAny_of_eq (show (if onTheHeap (.type "super") then typeLookup (.type "super") "__getattr__" else pure none) = pure none from rfl) ?_)
  refine wpAny_bind (wpAny_attempt (wpAny_holding ?_))
  show wpAny _ _ (bindSpecial (.builtin "super.__getattribute__") (.ref so) >>= _) _ _ _
  refine wpAny_bind (wpAny_of_eq (PySem.F.ks_slot_super_ga.bind _) ?_)
  refine wpAny_mono (Q := fun v s' => v = .ref h.objs.size ∧ s' = ⟨h.push { cls := .type bt, data := .fields #[.builtin id, .ref x] }, g, d, t + 1, os⟩) (E := fun _ _ => False)
    (wpAny_call_entry PySem.F.ks_slot_super_ga (hT' _) PySem.F.ks_entry_super_ga (super_ga C X I hso hf hT hS hE hA hn (hb _) ⟨_, rfl, rfl, rfl⟩) (PySem.F.ks_gaArgs_super _ _)) (fun v s' hv => ?_) fun _ _ z => z.elim
  obtain ⟨rfl, rfl⟩ := hv
  exact wpAny_pure (wpAny_pure hq)
end
theorem pop_check (x : Addr) : (match Manifest.signature? "list.pop" with | some sig => Bind.checkArgs "list.pop" { sig with full := toString (Str.ofString "_Accumulator").toString ++ toString "." ++ toString (Bind.lastOf "list.pop") } ⟨[.ref x], []⟩ | none => pure ()) = pure () := by
  rw [PySem.signature?_of (id := "list.pop") (n := ['p', 'o', 'p']) (o := ['t', 's', 'i', 'l']) (by kernel_rfl) PySem.F.owner_list]; kernel_rfl
end Mine
end TAcc2

section TAcc3
open PySem PySem.W PyProof.Rows PySem.Spec PySem.Calls
set_option Elab.async false
set_option maxRecDepth 100000
set_option maxHeartbeats 4000000
set_option linter.unusedVariables false
namespace Mine
section
variable {prog : Program} {w : World} {A : Around} {E : Value → Shared → Prop} {s : Shared} {K : Frag} {x q : Addr} {ox : Obj} {od : Option Obj} {parts : Array Value} {n : Nat}
theorem bound_call {id bt : String} {b : Builtin} {rest : List Value} {Q : Value → Shared → Prop} (hq : s.heap.get? q = some { cls := .type bt, data := .fields #[.builtin id, .ref x] }) (hbt : bt = "builtin_function_or_method" ∨ bt = "method-wrapper")
    (hc : ∀ (A : Around) (E : Value → Shared → Prop) (Q : Unit → Shared → Prop), Q () s → wpAny (model prog w) A (checkBoundCall id ⟨.ref x :: rest, []⟩) Q E s) (hp : plainId id = true) (hb : entryFor table id = some b)
    (h : wpAny (model prog w) A.in1 (b ⟨.ref x :: rest, []⟩) (fun fin s' => ∃ v, fin = .done (.ret v) ∧ Q v s') E s) : wpAny (model prog w) A (call (.ref q) rest) Q E s := by
  refine wpAny_call (codeAny_of_tree ?_)
  show wpAny _ A.in1 (callAny (.ref q) _) _ _ _
  unfold callAny
  refine wpAny_bind (wpAny_load hq ?_)
  show wpAny _ _ (if (Value.type bt == .type "method" || Value.type bt == .type "builtin_function_or_method" || Value.type bt == .type "method-wrapper") = true then _ else _) _ _ _
  rw [if_pos (by rcases hbt with rfl | rfl <;> decide)]
  show wpAny _ _ (if (Value.type bt != .type "method") = true then _ else _) _ _ _
  rw [if_pos (by rcases hbt with rfl | rfl <;> decide)]
  refine wpAny_bind (hc _ _ _ (wpAny_pure ⟨plainId_quiet hp _, codeAny_builtin hb ?_⟩))
  rw [Around.under_plainId hp _]
  refine wpAny_mono h (fun fin s' h' => ?_) fun _ _ z => z
  obtain ⟨v, rfl, hv⟩ := h'
  exact hv
theorem check_bound_slot {A : Around} {E : Value → Shared → Prop} {id : String} {self : Value} {rest : List Value} {Q : Unit → Shared → Prop} (hk : builtinKind id = some .slot) (ha : argsOk id ⟨self :: rest, []⟩) (h : Q () s) : wpAny (model prog w) A (checkBoundCall id ⟨self :: rest, []⟩) Q E s := by
  unfold checkBoundCall
  cases hsig : Manifest.signature? id with
  | none => exact wpAny_pure h
  | some sig =>
    simp only [argsOk, hsig] at ha
    have h2 : Bind.checkArgs id sig ⟨self :: rest, []⟩ = pure () := ha
    simp only [hk]
    rw [if_pos (by decide), h2]
    exact wpAny_pure h
theorem len_body {A : Around} {E : Value → Shared → Prop} {Q : Fin → Shared → Prop} (ho : s.heap.get? x = some ox) (hd : ox.data = .seq parts n) (h : Q (.done (.ret (.int parts.size s.toks))) { s with toks := s.toks + 1 }) : wpAny (model prog w) A (Builtin.«list.__len__» ⟨[.ref x], []⟩) Q E s := by
  unfold Builtin.«list.__len__»
  refine wpAny_bind (m := slotArgs "__len__" 0 _) (wpAny_pure ?_)
  dsimp only
  refine wpAny_bind ?_
  unfold seqSize
  refine wpAny_bind (wpAny_loadPart ho ?_)
  rw [hd]
  refine wpAny_pure ?_
  exact wpAny_bind (wpAny_mkInt (wpAny_pure h))
theorem pop_body {A : Around} {E : Value → Shared → Prop} {Q : Fin → Shared → Prop} {v : Value} (ho : s.heap.get? x = some ox) (hd : ox.data = .seq parts n) (hz : parts.size ≤ 100) (hv : parts.back? = some v) (h : Q (.done (.ret v)) { s with heap := s.heap.update x (Obj.mapSeq (·.eraseIdxIfInBounds (parts.size - 1))) }) :
    wpAny (model prog w) A (Builtin.«list.pop» ⟨[.ref x], []⟩) Q E s := by
  unfold Builtin.«list.pop»
  refine wpAny_bind (m := selfAndSome "list.pop" "pop" 0 1 _) (wpAny_pure ?_)
  dsimp only
  refine wpAny_bind (wpAny_pure ?_)
  rw [if_neg (by decide)]
  refine wpAny_bind (wpAny_listItems ho hd ?_)
  have hne : parts.size ≠ 0 := by
    intro e
    have : parts = #[] := Array.size_eq_zero_iff.mp e
    subst this
    simp at hv
  rw [if_neg (by simpa using hne)]
  have e : ((seqIndex? (-1) parts.size).bind fun k => Option.map (fun x => (k, x)) parts[k]?) = some (parts.size - 1, v) := by
    have e1 : seqIndex? (-1) parts.size = some (parts.size - 1) := by
      unfold seqIndex?
      rw [if_pos (show (-1 : Int) < 0 by decide)]
      have e2 : (decide (0 ≤ -1 + (parts.size : Int)) && decide (-1 + (parts.size : Int) < (parts.size : Int))) = true := by simp; kst_p2
      rw [if_pos e2]
      congr 1
      kst_p2
    rw [e1, Option.bind_some]
    have e3 : parts[parts.size - 1]? = some v := by rw [← hv, Array.back?_eq_getElem?]
    rw [e3]
    rfl
  rw [e]
  refine wpAny_bind ?_
  unfold Builtin.List.listUpdate
  refine wpAny_updateSeq ho hd ?_ (by rw [sizeLine_eq]; kst_p2) (by
    rw [sizeLine_eq]
    have : (parts.eraseIdxIfInBounds (parts.size - 1)).size ≤ parts.size := by
      unfold Array.eraseIdxIfInBounds
      split
      · rw [Array.size_eraseIdx]; kst_p2
      · exact Nat.le_refl _
    kst_p2)
  exact wpAny_pure h
theorem init_body {A : Around} {E : Value → Shared → Prop} {Q : Fin → Shared → Prop} (ho : s.heap.get? x = some ox) (hd : ox.data = .seq parts n) (hz : parts.size ≤ 100) (h : Q (.done (.ret .none)) { s with heap := s.heap.update x (Obj.mapSeq (fun _ => #[])) }) :
    wpAny (model prog w) A (Builtin.«list.__init__» ⟨[.ref x], []⟩) Q E s := by
  unfold Builtin.«list.__init__»
  dsimp only
  rw [if_neg (by decide), if_neg (by decide)]
  refine wpAny_bind (wpAny_listItems ho hd ?_)
  refine wpAny_bind ?_
  unfold Builtin.List.listUpdate
  refine wpAny_updateSeq ho hd ?_ (by rw [sizeLine_eq]; kst_p2) (by simp)
  refine wpAny_bind (wpAny_letGo ?_)
  exact wpAny_pure h
end
section
variable {prog : Program} {w : World} {s : Shared} {h₀ : Heap} {L : Addr} {m : Str → Option Value}
theorem enterS {Q E : Value → Shared → Prop} {K : Frag} {p : Program} {loose : List Str} {mean : ExcName → Option Value} {mg mb : Str → Option Value} {dp un : Nat} {gd : Option (List Code)} {cn : Str} {cs : Scope} {a : Addr} {ccd : Value} {cl : List (Str × Addr)} {outer : List Env} {A₀ : Around} {base : Heap} {news : List (Addr × Obj)}
    {name qual : Str} {params : Arguments} {body : List Stmt} {scope : Scope} {dV kV doc pm cdv ct oc : Value} {an od : Option Addr} {osl : Array (Option Value)} {f cc : Addr} {args : List Value} {binds : List (Str × Value)}
    (B : Below A₀ base outer h₀) (F : Fr h₀ L s.heap m) (X : K.In h₀) (N : News h₀ L s.heap news) (T : Top p loose mean mg mb h₀) (hk : cs.kind = .function)
    (ho : K.lookup f = some ⟨oc, od, .func (ksFn name qual params body scope dV kV doc pm an cdv ct cc), osl⟩) (hcd : codeIn K cdv qual = true) (hroom : dp < recursionLimit)
    (hbind : BindsTo s (ksFn name qual params body scope dV kV doc pm an cdv ct cc) ⟨args, []⟩ binds) (hloc : ∀ y ∈ binds, scope.names.lookup y.1 = some .local)
    (h : ∀ g L' h₁, Fr h₀ L g m → Fr g L' h₁ (kstB (fun _ => none) binds.reverse) → News g L' h₁ news → Below (ktrTop dp un gd cn cs L a ccd cl outer) base (envX cn cs L a ccd cl :: outer) g → K.In g → Top p loose mean mg mb g → (∀ q ∈ news, q.1 < L') →
      _root_.PySem.wpAt (model prog w) (ktrTop (dp + 1) (un + 3) gd qual scope L' f cdv [("__class__", cc)] (envX cn cs L a ccd cl :: outer)) (.func body (ksEnv qual scope L' f cdv cc)) (execs body (ksEnv qual scope L' f cdv cc))
        (fun fl s' => LeaveK h₀ L m g (fun r s' => match r with | .ok (.ret v) => Q v s' | .ok _ => False | .error _ => False) (match fl with | .ret v => v | _ => .none) s') (fun _ _ => False)
        { s with heap := h₁, toks := s.toks + binds.length })
    (hco : scope.isCoroutine = false) (hgen : scope.isGenerator = false) (hks : scope.kind = .function) (hcell : ∀ x ∈ scope.names, x.2 ≠ .cell) :
    wpAny (model prog w) (ktrTop dp un gd cn cs L a ccd cl outer) (call (.ref f) args) Q E s := by
  refine wpAny_mono (Q := Q) (E := fun _ _ => False) ?_ (fun _ _ x => x) fun _ _ x => x.elim
  refine wpAny_call ?_
  refine ks_code_super B F X N T rfl rfl hk ho hcd hroom hbind hloc (fun g L' h₁ FG F' N' B' X' T' l => ?_) hcell hco hgen hks
  rw [lookup_kst] at F'
  refine ks_wpAt_mono (h g L' h₁ FG F' N' B' X' T' l) (fun fl s' z => ?_) fun _ _ x => x.elim
  refine Mine.gk ?_
  intro Gz9 kz9
  obtain ⟨L2, m2, n2, F2, N2, k⟩ := z
  refine kz9 ?_
  (try clear kz9 Gz9)
  refine ⟨L2, m2, n2, F2, N2, fun a b => ?_⟩
  exact k a b
end
section
variable {prog : Program} {w : World} {A : Around} {E : Value → Shared → Prop} {s : Shared} {K : Frag} {x da : Addr} {parts : List Value} {n : Nat} {od : Obj} {h₀ : Heap} {L : Addr} {m : Str → Option Value} {news : List (Addr × Obj)}
theorem news_acc (N : News h₀ L s.heap news) (h1 : (x, accO da parts n) ∈ news) (h2 : (da, od) ∈ news) : InstAt s.heap x (accO da parts n) 178 (some od) := InstAt.ofAcc (N.get h1) (N.get h2)
theorem head_upd {o o' : Obj} {f : Obj → Obj} {rest : List (Addr × Obj)} (F : Fr h₀ L s.heap m) (N : News h₀ L s.heap ((x, o) :: rest)) (hap : ∀ p ∈ rest, p.1 ≠ x) (hf : f o = o') (hfr : (f o).isFreed = false) :
    Fr h₀ L (s.heap.update x f) m ∧ News h₀ L (s.heap.update x f) ((x, o') :: rest) := by
  have hs : Heap.SameBut x s.heap (s.heap.update x f) := Heap.SameBut.update ..
  have hg : (s.heap.update x f).get? x = some o' := by
    rw [Heap.get?_update_self f (N.get (.head _)) hfr, hf]
  exact ⟨F.change hs (N _ (.head _)).2.1 (N _ (.head _)).2.2, N.setHead hap hs hg⟩
theorem acc_append {rest : List (Addr × Obj)} {v : Value} {Q : Value → Shared → Prop} (C : AccF K) (X₀ : K.In h₀) (F : Fr h₀ L s.heap m) (N : News h₀ L s.heap ((x, accO da parts n) :: rest)) (hap : ∀ p ∈ rest, p.1 ≠ x) (hda : (da, od) ∈ rest) (hz : parts.length ≤ 100)
    (h : ∀ h', Fr h₀ L h' m → News h₀ L h' ((x, accO da (parts ++ [v]) (n + 1)) :: rest) → Q .none { s with heap := h' }) : wpAny (model prog w) A (call (.builtin "list.append") [.ref x, v]) Q E s := by
  have I := news_acc N (.head _) (.tail _ hda)
  refine acc_entry (n := "append") C (X₀.keeps F.keep) I (.inr (by decide +kernel)) (by decide +kernel) (by decide +kernel) PySem.F.entry_list_append (PySem.F.args_list_append_2 _ _) ?_
  show wpAny _ _ (updateSeq x (·.push v) >>= fun _ => ret .none) _ _ s
  refine wpAny_bind (wpAny_updateSeq I.at_ rfl ?_ (by rw [List.size_toArray, sizeLine_eq]; kst_p2) (by rw [Array.size_push, List.size_toArray, sizeLine_eq]; kst_p2))
  obtain ⟨F', N'⟩ := head_upd (f := Obj.mapSeq (·.push v)) (o' := accO da (parts ++ [v]) (n + 1)) F N hap (by unfold Obj.mapSeq; dsimp only; rw [List.push_toArray, if_neg (by simp)]) (by unfold Obj.mapSeq; rfl)
  exact wpAny_pure ⟨.none, rfl, h _ F' N'⟩
theorem push_upd {o : Obj} (hfr : o.isFreed = false) (F : Fr h₀ L s.heap m) (N : News h₀ L s.heap news) : Fr h₀ L (s.heap.push o) m ∧ News h₀ L (s.heap.push o) ((s.heap.objs.size, o) :: news) ∧ ∀ p ∈ news, p.1 < s.heap.objs.size := ⟨F.push _, N.push F _ hfr, fun p hp => Heap.lt_size (N p hp).1⟩
theorem sup_len {so : Addr} {pl : Sem Bool} {Q : Value × List Value → Shared → Prop} (C : AccF K) (X₀ : K.In h₀) (F : Fr h₀ L s.heap m) (N : News h₀ L s.heap news) (hx : (x, accO da parts n) ∈ news) (hda : (da, od) ∈ news) (hso : (so, ks_superObj 178 x 178) ∈ news)
    (h : ∀ q h', Fr h₀ L h' m → News h₀ L h' ((q, { cls := .type "method-wrapper", data := .fields #[.builtin "list.__len__", .ref x] }) :: news) → (∀ p ∈ news, p.1 < q) → Q (.ref q, []) { s with heap := h', toks := s.toks + 1 }) :
    wpAny (model prog w) A (getMethod (.ref so) "__len__" pl) Q E s := by
  have I := news_acc N hx hda
  have X := X₀.keeps F.keep
  obtain ⟨F', N', l'⟩ := push_upd (hfr := rfl) (o := { cls := .type "method-wrapper", data := .fields #[.builtin "list.__len__", .ref x] }) F N
  have z := h _ _ F' N' l'
  refine Mine.gk ?_
  intro Gz9 kz9
  obtain ⟨hh, g, d, t, os⟩ := s
  refine kz9 ?_
  (try clear kz9 Gz9)
  exact super_method C X I (N.get hso) C.sup_len (by show builtinType _ = _; rw [builtinType_eq_fast]; kernel_rfl) wd_slot wd_entry wd_args (by decide) (fun t A E Q hq => wd_len C X I hq) z
theorem sup_init {so : Addr} {pl : Sem Bool} {Q : Value × List Value → Shared → Prop} (C : AccF K) (X₀ : K.In h₀) (F : Fr h₀ L s.heap m) (N : News h₀ L s.heap news) (hx : (x, accO da parts n) ∈ news) (hda : (da, od) ∈ news) (hso : (so, ks_superObj 178 x 178) ∈ news)
    (h : ∀ q h', Fr h₀ L h' m → News h₀ L h' ((q, { cls := .type "method-wrapper", data := .fields #[.builtin "list.__init__", .ref x] }) :: news) → (∀ p ∈ news, p.1 < q) → Q (.ref q, []) { s with heap := h', toks := s.toks + 1 }) :
    wpAny (model prog w) A (getMethod (.ref so) "__init__" pl) Q E s := by
  have I := news_acc N hx hda
  have X := X₀.keeps F.keep
  obtain ⟨F', N', l'⟩ := push_upd (hfr := rfl) (o := { cls := .type "method-wrapper", data := .fields #[.builtin "list.__init__", .ref x] }) F N
  have z := h _ _ F' N' l'
  refine Mine.gk ?_
  intro Gz9 kz9
  obtain ⟨hh, g, d, t, os⟩ := s
  refine kz9 ?_
  (try clear kz9 Gz9)
  exact super_method C X I (N.get hso) C.sup_init (by show builtinType _ = _; rw [builtinType_eq_fast]; kernel_rfl) wd_slot wd_entry wd_args (by decide) (fun t A E Q hq => wd_init C X I hq) z
theorem sup_pop {so : Addr} {pl : Sem Bool} {Q : Value × List Value → Shared → Prop} (C : AccF K) (X₀ : K.In h₀) (F : Fr h₀ L s.heap m) (N : News h₀ L s.heap news) (hx : (x, accO da parts n) ∈ news) (hda : (da, od) ∈ news) (hso : (so, ks_superObj 178 x 178) ∈ news)
    (h : ∀ q h', Fr h₀ L h' m → News h₀ L h' ((q, { cls := .type "builtin_function_or_method", data := .fields #[.builtin "list.pop", .ref x] }) :: news) → (∀ p ∈ news, p.1 < q) → Q (.ref q, []) { s with heap := h', toks := s.toks + 1 }) :
    wpAny (model prog w) A (getMethod (.ref so) "pop" pl) Q E s := by
  have I := news_acc N hx hda
  have X := X₀.keeps F.keep
  obtain ⟨F', N', l'⟩ := push_upd (hfr := rfl) (o := { cls := .type "builtin_function_or_method", data := .fields #[.builtin "list.pop", .ref x] }) F N
  have z := h _ _ F' N' l'
  refine Mine.gk ?_
  intro Gz9 kz9
  obtain ⟨hh, g, d, t, os⟩ := s
  refine kz9 ?_
  (try clear kz9 Gz9)
  exact super_method C X I (N.get hso) C.sup_pop (PySem.F.type_list_pop) md_slot md_entry md_args (by decide) (fun t A E Q hq => md_pop C X I hq) z
theorem bound_len {q : Addr} {Q : Value → Shared → Prop} (N : News h₀ L s.heap news) (hx : (x, accO da parts n) ∈ news) (hq : (q, ({ cls := .type "method-wrapper", data := .fields #[.builtin "list.__len__", .ref x] } : Obj)) ∈ news)
    (h : Q (.int parts.length s.toks) { s with toks := s.toks + 1 }) : wpAny (model prog w) A (call (.ref q) []) Q E s := by
  refine' bound_call (id := "list.__len__") (bt := "method-wrapper") (N.get hq) (.inr rfl) ?c1 ?c2 ?c3 ?_
  case c3 => exact PySem.F.entry_list_len
  case c1 =>
    intro A E Q hq
    apply check_bound_slot (h := hq)
    · decide +kernel
    · exact PySem.F.args_list_len_1 _
  case c2 => decide +kernel
  refine len_body (N.get hx) rfl ⟨_, rfl, ?_⟩
  rw [List.size_toArray]
  exact h
theorem bound_init {q : Addr} {rest : List (Addr × Obj)} {Q : Value → Shared → Prop} (F : Fr h₀ L s.heap m) (N : News h₀ L s.heap ((x, accO da [] n) :: rest)) (hap : ∀ p ∈ rest, p.1 ≠ x) (hq : (q, ({ cls := .type "method-wrapper", data := .fields #[.builtin "list.__init__", .ref x] } : Obj)) ∈ rest)
    (h : ∀ h' n', Fr h₀ L h' m → News h₀ L h' ((x, accO da [] n') :: rest) → Q .none { s with heap := h' }) : wpAny (model prog w) A (call (.ref q) []) Q E s := by
  refine' bound_call (id := "list.__init__") (bt := "method-wrapper") (N.get (.tail _ hq)) (.inr rfl) ?c1 ?c2 ?c3 ?_
  case c3 => exact PySem.F.entry_list_init
  case c1 =>
    intro A E Q hq
    apply check_bound_slot (h := hq)
    · decide +kernel
    · exact PySem.F.args_list_init_1 _
  case c2 => decide +kernel
  refine init_body (N.get (.head _)) rfl (by simp) ⟨_, rfl, ?_⟩
  obtain ⟨F', N'⟩ := head_upd (f := Obj.mapSeq (fun _ => #[])) (o' := accO da [] n) F N hap (by unfold Obj.mapSeq; dsimp only; rw [if_pos (by rfl)]) (by unfold Obj.mapSeq; rfl)
  exact h _ _ F' N'
theorem check_bound_pop {parts : List Value} {Q : Unit → Shared → Prop} (C : AccF K) (X : K.In s.heap) (I : InstAt s.heap x (accO da parts n) 178 (some od)) (h : Q () s) : wpAny (model prog w) A (checkBoundCall "list.pop" ⟨[.ref x], []⟩) Q E s := by
  unfold checkBoundCall
  cases hsig : Manifest.signature? "list.pop" with
  | none => exact wpAny_pure h
  | some sig =>
    have hk : builtinKind "list.pop" = some .method := by decide +kernel
    simp only [hk]
    rw [if_neg (by decide)]
    refine Mine.gk ?_
    intro Gz9 kz9
    obtain ⟨cd, hc, hm, _, hqn⟩ := C.cls
    refine kz9 ?_
    (try clear kz9 Gz9)
    refine wpAny_bind ((I.type.andThen (acc_mro C X false (.type "module") (by decide))).here ?_)
    rw [if_neg (by decide +kernel)]
    refine Mine.gk ?_
    intro Gz9 kz9
    obtain ⟨hh, g, d, t, os⟩ := s
    refine kz9 ?_
    (try clear kz9 Gz9)
    refine wpAny_bind (ks_wpAny_isType_inst I.at_ (fun c e => by cases e) ?_)
    rw [if_neg (by decide)]
    refine wpAny_bind (I.type.here ?_)
    refine wpAny_bind ((looks_clsIn X hc).here (wpAny_bind ((looks_typeIn X C.tcls).here ?_)))
    have hpc := pop_check x
    rw [hsig] at hpc
    rw [if_pos (by decide), hqn]
    exact wpAny_of_eq hpc h
theorem bound_pop {q : Addr} {v : Value} {rest : List (Addr × Obj)} {Q : Value → Shared → Prop} (C : AccF K) (X₀ : K.In h₀) (F : Fr h₀ L s.heap m) (N : News h₀ L s.heap ((x, accO da (parts ++ [v]) n) :: rest)) (hap : ∀ p ∈ rest, p.1 ≠ x) (hda : (da, od) ∈ rest) (hq : (q, ({ cls := .type "builtin_function_or_method", data := .fields #[.builtin "list.pop", .ref x] } : Obj)) ∈ rest) (hz : parts.length ≤ 50)
    (h : ∀ h' n', Fr h₀ L h' m → News h₀ L h' ((x, accO da parts n') :: rest) → Q v { s with heap := h' }) : wpAny (model prog w) A (call (.ref q) []) Q E s := by
  have I := news_acc N (.head _) (.tail _ hda)
  refine bound_call (N.get (.tail _ hq)) (.inl rfl) (fun A E Q hq => check_bound_pop C (X₀.keeps F.keep) I hq) (by decide +kernel) PySem.F.entry_list_pop ?_
  refine pop_body (v := v) (N.get (.head _)) rfl (by simp; kst_p2) (by simp) ⟨_, rfl, ?_⟩
  have e : (parts ++ [v]).toArray.eraseIdxIfInBounds ((parts ++ [v]).toArray.size - 1) = parts.toArray := by
    simp [Array.eraseIdxIfInBounds]
    rw [List.eraseIdx_append_of_length_le (Nat.le_refl _)]
    simp
  obtain ⟨F', N'⟩ := head_upd (f := Obj.mapSeq (·.eraseIdxIfInBounds ((parts ++ [v]).toArray.size - 1))) (o' := accO da parts (n + 1)) F N hap (by unfold Obj.mapSeq; dsimp only; rw [e, if_neg (by simp)]) (by unfold Obj.mapSeq; rfl)
  exact h _ _ F' N'
theorem callWith_b0 {M : Model} {env : Env} {pos : Pos} {q x : Addr} {id bt : String} {Q : Value → Shared → Prop} (N : News h₀ L s.heap news) (hq : (q, ({ cls := .type bt, data := .fields #[.builtin id, .ref x] } : Obj)) ∈ news) (hbt : bt = "builtin_function_or_method" ∨ bt = "method-wrapper")
    (h : wpAny M A (call (.ref q) []) Q E s) : wpAny M A (callWith pos (.ref q) [] (backTo pos (starEach [] env)) []) Q E s := by
  refine callWith_of (P := fun h => h.get? q = some { cls := .type bt, data := .fields #[.builtin id, .ref x] }) rfl (fun h e => ⟨.machine, .inr (.inl rfl), ?_⟩) (evalArgs_nil3 ⟨N.get hq, h⟩)
  refine (Looks.ld (part := none) e).andThen ?_
  show Looks M h (if (Value.type bt != .type "method") = true then _ else _) _
  rw [if_pos (by rcases hbt with rfl | rfl <;> decide)]
  show Looks M h (pure (if (Value.type bt == .type "builtin_function_or_method" || Value.type bt == .type "method-wrapper") = true then _ else _)) _
  rw [if_pos (by rcases hbt with rfl | rfl <;> decide)]
  exact .now
end
end Mine
end TAcc3

section TGen1
open PySem PySem.W PyProof.Rows PySem.Spec PySem.Calls
set_option Elab.async false
set_option maxRecDepth 100000
set_option maxHeartbeats 4000000
set_option linter.unusedVariables false
namespace Mine
noncomputable def IsSeq (h : Heap) (a : Addr) (items : Array Value) : Prop := ∃ o n, h.get? a = some o ∧ o.data = .seq items n
theorem IsSeq.at' {h h' : Heap} {a : Addr} {items : Array Value} (x : IsSeq h a items) (k : ∀ o, h.get? a = some o → h'.get? a = some o) : IsSeq h' a items := by
  refine Mine.gk ?_
  intro Gz9 kz9
  obtain ⟨o, n, e, d⟩ := x
  refine kz9 ?_
  (try clear kz9 Gz9)
  exact ⟨o, n, k o e, d⟩
section
variable {prog : Program} {w : World} {A : Around} {E : Value → Shared → Prop} {s : Shared}
theorem seq_next {it l : Addr} {i : Nat} {items : Array Value} {x : Value} {Q : Option Value → Shared → Prop} (hit : s.heap.IsListIter it l i) (hl : IsSeq s.heap l items) (hx : items[i]? = some x)
    (hQ : ∀ h', h'.IsListIter it l (i + 1) → Heap.SameBut it s.heap h' → Q (some x) { s with heap := h' }) : wpAny (model prog w) A (pyNext (.ref it)) Q E s := by
  refine Mine.gk ?_
  intro Gz9 kz9
  obtain ⟨o, ho, hc, hd⟩ := id hit
  refine kz9 ?_
  (try clear kz9 Gz9)
  refine Mine.gk ?_
  intro Gz9 kz9
  obtain ⟨ol, nl, hol, hdl⟩ := hl
  refine kz9 ?_
  (try clear kz9 Gz9)
  unfold pyNext
  refine wpAny_bind (wpAny_attempt (wpAny_callSpecial?_slot (name := Str.ofString "__next__") hit.typeIs slot_listiter_next (wpAny_call_entry slot_listiter_next hit.typeIs entry_listiter_next ?_ (args_listiter_next _))))
  show wpAny _ _ (field (.ref it) 0 >>= _) _ _ s
  refine wpAny_bind (wpAny_field ho hd (x := .ref l) rfl ?_)
  show wpAny _ _ (if (Value.ref l == Value.none) = true then _ else _) _ _ s
  rw [if_neg (show ¬ ((Value.ref l == Value.none) = true) from Bool.false_ne_true)]
  show wpAny _ _ (field (.ref it) 1 >>= _) _ _ s
  refine wpAny_bind (wpAny_field ho hd (x := .int i 0) rfl ?_)
  show wpAny _ _ (seqItems? (.ref l) >>= _) _ _ s
  refine wpAny_bind (wpAny_seqItems hol hdl ?_)
  simp only [Int.toNat_natCast, hx]
  refine wpAny_bind (wpAny_setField ho hd (by simp) (wpAny_pure ⟨x, rfl, wpAny_pure (hQ _ ?_ (Heap.SameBut.update ..))⟩))
  exact ⟨_, Heap.get?_update_self _ ho (Obj.isFreed_of_fields (Obj.data_mapFields hd _)), (Obj.cls_mapFields ..).trans hc, by
    rw [Obj.data_mapFields hd]; simp [rawInt]⟩
theorem seq_end {it l : Addr} {i : Nat} {items : Array Value} {Q : Option Value → Shared → Prop} (hh : A.handled = none) (hit : s.heap.IsListIter it l i) (hl : IsSeq s.heap l items) (hx : items[i]? = none)
    (hQ : ∀ h', Heap.ExtBut it s.heap h' → Q none { s with heap := h' }) : wpAny (model prog w) A (pyNext (.ref it)) Q E s := by
  refine Mine.gk ?_
  intro Gz9 kz9
  obtain ⟨o, ho, hc, hd⟩ := id hit
  refine kz9 ?_
  (try clear kz9 Gz9)
  refine Mine.gk ?_
  intro Gz9 kz9
  obtain ⟨ol, nl, hol, hdl⟩ := hl
  refine kz9 ?_
  (try clear kz9 Gz9)
  unfold pyNext
  refine wpAny_bind (wpAny_attempt (wpAny_callSpecial?_slot (name := Str.ofString "__next__") hit.typeIs slot_listiter_next (wpAny_call_entry slot_listiter_next hit.typeIs entry_listiter_next ?_ (args_listiter_next _))))
  show wpAny _ _ (field (.ref it) 0 >>= _) _ _ s
  refine wpAny_bind (wpAny_field ho hd (x := .ref l) rfl ?_)
  show wpAny _ _ (if (Value.ref l == Value.none) = true then _ else _) _ _ s
  rw [if_neg (show ¬ ((Value.ref l == Value.none) = true) from Bool.false_ne_true)]
  show wpAny _ _ (field (.ref it) 1 >>= _) _ _ s
  refine wpAny_bind (wpAny_field ho hd (x := .int i 0) rfl ?_)
  show wpAny _ _ (seqItems? (.ref l) >>= _) _ _ s
  refine wpAny_bind (wpAny_seqItems hol hdl ?_)
  simp only [Int.toNat_natCast, hx]
  refine wpAny_bind (wpAny_rule (wpAny_bind (wpAny_setField ho hd (by simp) ?_)))
  show wpAny _ _ (newExc (.type "StopIteration") [] >>= _) _ _ _
  refine wpAny_bind ?_
  simp only [newExc, newTuple]
  refine wpAny_bind (wpAny_newObj_type ?_ (by size_fits))
  refine wpAny_bind (m := firstArgMember _ _) (wpAny_of_eq (a := Value.none) (by first | rfl | (simp only [firstArgMember]; rfl)) ?_)
  refine wpAny_newObj_type ?_ (by size_fits)
  simp only [raiseNew]
  refine wpAny_bind (wpAny_handled ?_)
  rw [show A.in1.handled = none from hh]
  refine wpAny_bind (wpAny_pure (wpAny_throw ?_))
  refine wpAny_bind (wpAny_isInstance (T := "StopIteration") (b := true) ⟨_, Heap.get?_push_size _ rfl, rfl⟩ isSubtype_stop ?_)
  exact wpAny_pure (hQ _ (((Heap.SameBut.update ..).extBut.push _).push _))
theorem acc_iter {K : Frag} {x : Addr} {ox : Obj} {od : Option Obj} {Q : Value → Shared → Prop} (C : AccF K) (X : K.In s.heap) (I : InstAt s.heap x ox 178 od)
    (h : Q (.ref s.heap.objs.size) { s with heap := s.heap.push { cls := .type "list_iterator", data := .fields #[.ref x, .int 0 0] } }) : wpAny (model prog w) A (pyIter (.ref x)) Q E s := by
  unfold pyIter
  refine wpAny_bind (m := specialOf (.ref x) "__iter__") (wpAny_bind (I.type.here ((looks_findIn X C.iter).here ?_)))
  dsimp only
  have c : wpAny (model prog w) A (call (.builtin "list.__iter__") [.ref x]) (fun v s' => v = .ref s.heap.objs.size ∧ s' = { s with heap := s.heap.push { cls := .type "list_iterator", data := .fields #[.ref x, .int 0 0] } }) (fun _ _ => False) s := by
    refine acc_entry (n := "__iter__") C X I (.inl (by decide +kernel)) (by decide +kernel) (by decide +kernel) PySem.F.entry_list_iter (PySem.F.args_list_iter_1 _) ?_
    show wpAny _ _ (do ret (← newFields "list_iterator" [.ref x, rawInt 0])) _ _ s
    exact wpAny_bind (wpAny_newObj_type (wpAny_pure ⟨_, rfl, rfl, rfl⟩))
  refine wpAny_bind (m := callSpecialIfBoundUnlessNone? (.ref x) "__iter__" _) ?_
  simp only [callSpecialIfBoundUnlessNone?, bindSpecialIfBound?]
  refine wpAny_holding (wpAny_bind (wpAny_bind (m := specialOf (.ref x) "__iter__") (wpAny_bind (I.type.here ((looks_findIn X C.iter).here ?_)))))
  simp only [PySem.F.slot_list_iter.bind]
  refine wpAny_bind (wpAny_askSetting (wpAny_ite ?_))
  have fin : wpAny (model prog w) A (if (Value.builtin "list.__iter__" == Value.none) = true then ((do rule "iter.none"; raiseError "TypeError" s!"'{← typeNameOf (.ref x)}' object is not iterable") >>= fun v => pure (some v)) else (call (.builtin "list.__iter__") [.ref x] >>= fun v => pure (some v))) (fun v s' => v = some (.ref s.heap.objs.size) ∧ s' = { s with heap := s.heap.push { cls := .type "list_iterator", data := .fields #[.ref x, .int 0 0] } }) (fun _ _ => False) s := by
    simp only [builtin_beq_none, Bool.false_eq_true, if_false]
    exact wpAny_bind (wpAny_mono c (fun v s' h' => wpAny_pure ⟨by rw [h'.1], h'.2⟩) fun _ _ h' => h')
  have last : ∀ v s', v = some (.ref s.heap.objs.size) ∧ s' = { s with heap := s.heap.push { cls := .type "list_iterator", data := .fields #[.ref x, .int 0 0] } } → wpAny (model prog w) A (match v with
      | some it => (do
        match ← specialOf it "__next__" with
        | none => rule "iter.non-iterator"; raiseError "TypeError" s!"iter() returned non-iterator of type '{← typeNameOf it}'"
        | some _ => pure it : Sem Value)
      | none => (do
        match ← bindSpecialIfBound? (.ref x) "__getitem__" with
        | none => rule "iter.not-iterable"; raiseError "TypeError" s!"'{← typeNameOf (.ref x)}' object is not iterable"
        | some _ => rule "iter.getitem-fallback"; newFields "iterator" [.ref x, ← mkInt 0] : Sem Value)) Q E s' := by
    rintro v s' ⟨rfl, rfl⟩
    exact wpAny_bind (wpAny_specialOf (T := "list_iterator") ⟨_, Heap.get?_push_size _ rfl, rfl⟩ slot_listiter_next.lookup (wpAny_pure h))
  split
  · exact wpAny_bind (wpAny_pure (wpAny_pure (wpAny_mono fin last fun _ _ z => z.elim)))
  · exact wpAny_tryCatch (wpAny_bind (wpAny_pure (wpAny_pure (wpAny_mono fin last fun _ _ z => z.elim))))
end
theorem seqTuples {prog : Program} {w : World} {A : Around} (hh : A.handled = none) (I ax : Addr) (hne : ax ≠ I) (items : Array Value) (Ts : Nat → Addr) (vals : Nat → Array Value)
    (hit : ∀ j, j < items.size → items[j]? = some (.ref (Ts j))) (hTI : ∀ j, j < items.size → Ts j ≠ I) :
    WalksU prog w A I (I :: ax :: (List.range items.size).map Ts) [I] items.size (fun j v => v = vals j)
      (fun j h => h.IsListIter I ax j ∧ IsSeq h ax items ∧ ∀ k, k < items.size → h.IsTuple (Ts k) (vals k))
      (fun j T h => (j < items.size ∧ T = Ts j) ∧ h.IsListIter I ax (j + 1) ∧ IsSeq h ax items ∧ ∀ k, k < items.size → h.IsTuple (Ts k) (vals k)) where
  sub := fun b hb => by simp at hb; simp [hb]
  frame := fun _ _ _ st hk => ⟨st.1.at fun o e => hk I (by simp) o e, st.2.1.at' fun o e => hk ax (by simp) o e,
    fun k hk' => (st.2.2 k hk').at fun o e => hk (Ts k) (List.mem_cons_of_mem _ (List.mem_cons_of_mem _ (List.mem_map.mpr ⟨k, List.mem_range.mpr hk', rfl⟩))) o e⟩
  item := fun i s Q E hi st hQ => by
    refine seq_next st.1 st.2.1 (x := .ref (Ts i)) (hit i hi) fun h' hit' hs' => ?_
    have tup : ∀ k, k < items.size → h'.IsTuple (Ts k) (vals k) := fun k hk' => (st.2.2 k hk').extBut hs'.extBut (hTI k hk')
    exact hQ (Ts i) (vals i) h' s.toks rfl (tup i hi) ⟨⟨hi, rfl⟩, hit', st.2.1.at' fun o e => hs'.extBut ax o hne e, tup⟩ fun b o hb e => hs'.extBut b o (fun h => hb (by simp [h])) e
  go := fun _ _ _ _ _ s Q _ hm hQ => wpAny_letOwnedTupleGo_listiter hm.2.1 (hQ s.heap hm.2 fun _ _ _ e => e)
  apart := fun j T _ hm hmem => by
    rcases List.mem_cons.mp hmem with e | e
    · exact hTI j hm.1.1 (hm.1.2 ▸ e)
    · cases e
  done := fun s Q E st hQ => seq_end hh st.1 st.2.1 (by simp) fun h' he' => hQ h' s.toks fun b o hb e => he' b o (fun h => hb (by simp [h])) e
  self := fun _ _ _ _ st hQ => wpAny_pyIter_listiter st.1 hQ
end Mine
end TGen1

section TGen2
open PySem PySem.W PyProof.Rows PySem.Spec PySem.Calls
set_option Elab.async false
set_option maxRecDepth 100000
set_option maxHeartbeats 4000000
set_option linter.unusedVariables false
namespace Mine
noncomputable abbrev plO (ps : Array Value) : Obj := { cls := .none, data := .fields ps }
noncomputable def PlOk (pos : Pos) (ps : Array Value) : Prop := ps = #[] ∨ ∃ c' : Addr, ps = #[rawInt pos.line, rawInt pos.col, .ref c']
structure CodeIs (o : Obj) (P : Addr) : Prop where
  cls : o.cls = .type "code"
  ex : ∃ vs file tf flags tg inF text tt, o.data = .fields vs ∧ vs[11]? = some (.ref P) ∧ vs.getD 18 .none = .str file tf ∧ vs.getD 7 .none = .int flags tg ∧ vs.getD 9 .none = .bool inF ∧ vs.getD 10 .none = .int text tt
theorem pl_triples {pos : Pos} {ps : Array Value} (h : PlOk pos ps) : TriplesOk ps.toList := by
  rcases h with rfl | ⟨c', rfl⟩
  · trivial
  · exact trivial
section
variable {M : Model} {A : Around} {E : Value → Shared → Prop} {s : Shared}
theorem isCode_of {h : Heap} {c P : Addr} {o : Obj} {pos : Pos} {ps : Array Value} (hc : h.get? c = some o) (ho : CodeIs o P) (hP : h.get? P = some (plO ps)) (hps : PlOk pos ps) : h.IsCode c P ps ∧ h.TableAt c P ps := by
  refine Mine.gk ?_
  intro Gz9 kz9
  obtain ⟨hcl, vs, file, tf, flags, tg, inF, text, tt, hd, h11, h18, h7, h9, h10⟩ := ho
  refine kz9 ?_
  (try clear kz9 Gz9)
  have hne : c ≠ P := by
    rintro rfl
    rw [hc] at hP
    cases hP
    cases hcl
  exact ⟨⟨o, vs, file, tf, flags, tg, inF, text, tt, _, hc, hd, by rw [Array.getD_eq_getD_getElem?, h11]; rfl, h18, h7, h9, h10, hP, rfl, pl_triples hps, hne⟩, ⟨o, vs, hc, hcl, hd, h11⟩, hP⟩
theorem code_any {env : Env} {c P : Addr} {ps : Array Value} {pos : Pos} {o : Obj} {qualname : Str} {scope : Scope} {Q : Value → Shared → Prop} (hc : env.code = .ref c) (hco : s.heap.get? c = some o) (ho : CodeIs o P) (hP : s.heap.get? P = some (plO ps)) (hps : PlOk pos ps)
    (hQ : ∀ c' ps' h' tk, Heap.ExtBut P s.heap h' → s.heap.objs.size ≤ h'.objs.size → h'.get? P = some (plO ps') → PlOk pos ps' → Q (.ref c') { s with heap := h', toks := tk }) :
    wpAny M A (genexprCode env pos qualname scope) Q E s := by
  obtain ⟨hok, htab⟩ := isCode_of hco ho hP hps
  rcases hps with rfl | ⟨c', rfl⟩
  · refine wpAny_genexprCodeX hc hok htab rfl fun c' h' tk hx hge hlt hcode _ htab' _ => ?_
    exact hQ c' _ h' tk hx (Nat.le_trans hge (Nat.le_of_lt hlt)) htab'.2 (.inr ⟨c', rfl⟩)
  · refine Mine.gk ?_
    intro Gz9 kz9
    obtain ⟨o1, vs, file, tf, flags, tg, inF, text, tt, op, ho1, hd, h11, h2, h7, h9, h10, hop, hpd, htr, hne⟩ := id hok
    refine kz9 ?_
    (try clear kz9 Gz9)
    unfold genexprCode codeAt
    rw [hc, if_neg (show ¬ ((Value.ref c == Value.none) = true) from Bool.false_ne_true)]
    refine wpAny_bind (wpAny_fieldsOf ho1 hd ?_)
    rw [h11]
    refine wpAny_bind (wpAny_fieldsOf hop hpd ?_)
    have e : codeAmong pos (#[rawInt pos.line, rawInt pos.col, Value.ref c'] : Array Value).toList = some (.ref c') := by
      show (if (((pos.line : Nat) : Int) == ((pos.line : Nat) : Int) && ((pos.col : Nat) : Int) == ((pos.col : Nat) : Int)) = true then some (Value.ref c') else _) = _
      rw [if_pos (by simp)]
    rw [e]
    exact wpAny_pure (hQ c' _ s.heap s.toks (fun b o _ e => e) (Nat.le_refl _) hP (.inr ⟨c', rfl⟩))
end
theorem passing_all (n : Nat) : passing (fun _ => true) n 0 = List.range n := by
  unfold passing
  rw [List.drop_zero]
  exact List.filter_eq_self.mpr fun _ _ => rfl
inductive PartIn (news : List (Addr × Obj)) (v : Value) (p : Str × Str) : Prop
  | mk (t tf tg) : v = .ref t → (t, tupO [.str p.1 tf, .str p.2 tg]) ∈ news → PartIn news v p
inductive PartsIn (news : List (Addr × Obj)) : List Value → List (Str × Str) → Prop where
  | nil : PartsIn news [] []
  | cons {v : Value} {p : Str × Str} {vs : List Value} {ps : List (Str × Str)} : PartIn news v p → PartsIn news vs ps → PartsIn news (v :: vs) (p :: ps)
theorem PartsIn.length {news : List (Addr × Obj)} {vs : List Value} {ps : List (Str × Str)} (h : PartsIn news vs ps) : vs.length = ps.length := by
  induction h with
  | nil => rfl
  | cons _ _ ih => simp [ih]
theorem PartsIn.mono {news news' : List (Addr × Obj)} {vs : List Value} {ps : List (Str × Str)} (h : PartsIn news vs ps) (hs : ∀ q ∈ news, q ∈ news') : PartsIn news' vs ps := by
  induction h with
  | nil => exact .nil
  | cons h1 _ ih =>
    refine Mine.gk ?_
    intro Gz9 kz9
    obtain ⟨t, tf, tg, e, h2⟩ := h1
    refine kz9 ?_
    (try clear kz9 Gz9)
    exact .cons ⟨t, tf, tg, e, hs _ h2⟩ ih
theorem PartsIn.at' {news : List (Addr × Obj)} {vs : List Value} {ps : List (Str × Str)} (h : PartsIn news vs ps) : ∀ i, i < vs.length → ∃ v p, vs[i]? = some v ∧ ps[i]? = some p ∧ PartIn news v p := by
  induction h with
  | nil => intro i hi; exact absurd hi (Nat.not_lt_zero _)
  | cons h1 _ ih =>
    intro i hi
    cases i with
    | zero => exact ⟨_, _, rfl, rfl, h1⟩
    | succ i => exact ih i (by simpa using hi)
theorem PartsIn.snoc {news : List (Addr × Obj)} {vs : List Value} {ps : List (Str × Str)} {v : Value} {p : Str × Str} (h : PartsIn news vs ps) (h1 : PartIn news v p) : PartsIn news (vs ++ [v]) (ps ++ [p]) := by
  induction h with
  | nil => exact .cons h1 .nil
  | cons g _ ih => exact .cons g ih
section
variable {prog : Program} {w : World} {A : Around} {E : Value → Shared → Prop} {s : Shared} {K : Frag} {x da P L c : Addr} {parts : List Value} {pps : List (Str × Str)} {n : Nat} {od oc : Obj} {h₀ : Heap} {m mg mb : Str → Option Value} {rest : List (Addr × Obj)} {p : Program} {loose : List Str} {mean : ExcName → Option Value} {ps : Array Value}
theorem gen_acc {env : Env} {elt iter : Expr} {xa xb : Str} {pa pb pt : Pos} {kt : Nat} {scope : Scope} {cl : List (Str × Addr)} {pos : Pos} {Q : Value → Shared → Prop} {FF : Str × Str → Value → Prop}
    (C : AccF K) (X₀ : K.In h₀) (T : Top p loose mean mg mb h₀) (F : Fr h₀ L s.heap m) (N : News h₀ L s.heap ((P, plO ps) :: rest)) (hap : ∀ q ∈ rest, q.1 ≠ P) (hx : (x, accO da parts n) ∈ rest) (hda : (da, od) ∈ rest) (hparts : PartsIn rest parts pps) (G : AllBare s.gens) (hps : PlOk pos ps)
    (hg : env.globals = mainGlobals) (hbi : env.builtins = builtinsNs) (hcode : env.code = .ref c) (hoc : h₀.get? c = some oc) (hci : CodeIs oc P)
    (hh : A.handled = none) (hco : scope.isCoroutine = false) (hclos : closureFor scope env = pure cl) (hcell : ∀ y ∈ scope.names, y.2 ≠ .cell) (h0 : scope.names.lookup (".0" : Str) = some NameKind.local)
    (hxa : scope.names.lookup xa = some .local) (hxb : scope.names.lookup xb = some .local) (hab : xa ≠ xb) (hkind : scope.kind = .function) (hroom : A.depth < recursionLimit)
    (hiter : ∀ (Q : Value → Shared → Prop) (E : Value → Shared → Prop), Q (.ref x) s → wpAny (model prog w) A (eval iter env) Q E s) (hs : ∀ x, genFold iter env x = pure x)
    (helt : ∀ (code : Value) (C : Addr) (A' : Around) (E' : Value → Shared → Prop) (q : Str × Str) (tf tg : Tok) (u : Shared) (m₂ : Str → Option Value), A'.handled = none → A'.depth ≤ A.depth + 1 → A'.units ≤ A.units + 8 → q ∈ pps → Fr h₀ C u.heap m₂ → m₂ xa = some (.str q.1 tf) → m₂ xb = some (.str q.2 tg) →
      wpAny (model prog w) A' (eval elt (genEnv scope cl C code builtinsNs env)) (fun y s₃ => FF q y ∧ Keeps u s₃) E' u)
    (hQ : ∀ a ps' s₅, PlOk pos ps' → Fr h₀ L s₅.heap m → News h₀ L s₅.heap ((P, plO ps') :: rest) → AllBare s₅.gens → s₅.os = s.os → s₅.drawn = s.drawn →
      Gen prog w A (s.heap.objs.size - 1) a parts.length (fun j y => ∃ q, pps[j]? = some q ∧ FF q y) s₅ → Q (.ref a) s₅) :
    wpAny (model prog w) A (eval (.GeneratorExp elt [⟨.Tuple [.Name xa pa, .Name xb pb] kt pt, iter, [], 0⟩] scope pos) env) Q E s := by
  have X := X₀.keeps F.keep
  have I := news_acc N (.tail _ hx) (.tail _ hda)
  have hlim : s.heap.NoLimit := T.nolimit.keeps F.keep
  have hpos : 0 < s.heap.objs.size := Nat.lt_of_le_of_lt (Nat.zero_le _) F.ns.lt
  refine wpAny_GeneratorExp_walksQTD hh hco hclos hcell h0 hxa hxb hab hkind hroom (hiter _ _ (acc_iter C X I ⟨hlim.push _, ?_⟩)) hs
  have hIlt : ∀ b o, s.heap.get? b = some o → b < s.heap.objs.size := fun b o e => Heap.lt_size e
  have F₂ : Fr h₀ L (s.heap.push { cls := .type "list_iterator", data := .fields #[.ref x, .int 0 0] }) m := F.push _
  have N₂ := N.push F { cls := .type "list_iterator", data := .fields #[.ref x, .int 0 0] } rfl
  generalize hH : s.heap.push { cls := .type "list_iterator", data := .fields #[.ref x, .int 0 0] } = H at F₂ N₂
  have hPH : H.get? P = some (plO ps) := N₂.get (.tail _ (.head _))
  refine code_any (s := { s with heap := H }) hcode (F₂.keep c oc hoc) hci hPH hps fun c' ps' h₃ tk₃ hx₃ hge hP₃ hps' => ?_
  have hPnew : h₀.get? P = none := (N _ (.head _)).2.2
  have hPL : P ≠ L := (N _ (.head _)).2.1
  have k₃ : ∀ b o, h₀.get? b = some o → h₃.get? b = some o := fun b o e => hx₃ b o (fun q => by rw [q, hPnew] at e; cases e) (F₂.keep b o e)
  have F₃ : Fr h₀ L h₃ m := ⟨F₂.ns.at' fun o e => hx₃ _ o (Ne.symm hPL) e, k₃, F₂.above⟩
  have N₃ : News h₀ L h₃ ((P, plO ps') :: rest) := fun q hq => by
    rcases List.mem_cons.mp hq with rfl | hq
    · exact ⟨hP₃, hPL, hPnew⟩
    · have z := N₂ q (.tail _ (.tail _ hq))
      exact ⟨hx₃ _ _ (hap q hq) z.1, z.2⟩
  obtain ⟨bm, ob, M⟩ := bmod_of_top T
  have M₃ : BMod h₃ mainGlobals mg bm ob := M.keeps k₃
  have hl₃ : h₃.NoLimit := T.nolimit.keeps k₃
  rw [hg, hbi]
  refine wpAny_builtinsFor M₃.ns M₃.name M₃.ne M₃.obj M₃.cls M₃.dict M₃.data ?_
  obtain ⟨TV, hTV⟩ : ∃ TV : Nat → Addr × Array Value, ∀ j, j < parts.length → parts[j]? = some (.ref (TV j).1) ∧ ∃ (q : Str × Str) (tf tg : Tok), pps[j]? = some q ∧ (TV j).2 = #[.str q.1 tf, .str q.2 tg] ∧ ((TV j).1, tupO [.str q.1 tf, .str q.2 tg]) ∈ rest := by
    refine Classical.axiomOfChoice (r := fun (j : Nat) (T : Addr × Array Value) => j < parts.length → parts[j]? = some (.ref T.1) ∧ ∃ (q : Str × Str) (tf tg : Tok), pps[j]? = some q ∧ T.2 = #[.str q.1 tf, .str q.2 tg] ∧ (T.1, tupO [.str q.1 tf, .str q.2 tg]) ∈ rest) fun j => ?_
    by_cases hj : j < parts.length
    · refine Mine.gk ?_
      intro Gz9 kz9
      obtain ⟨v, q, hv, hq, t, tf, tg, rfl, ht⟩ := hparts.at' j hj
      refine kz9 ?_
      (try clear kz9 Gz9)
      exact ⟨(t, #[.str q.1 tf, .str q.2 tg]), fun _ => ⟨hv, q, tf, tg, hq, rfl, ht⟩⟩
    · exact ⟨(0, #[]), fun h => absurd h hj⟩
  have hsz : parts.toArray.size = parts.length := by simp
  have hPlt : P < s.heap.objs.size := Heap.lt_size (N.get (.head _))
  have hxlt : x < s.heap.objs.size := Heap.lt_size (N.get (.tail _ hx))
  have hTlt : ∀ j, j < parts.toArray.size → (TV j).1 < s.heap.objs.size := fun j hj => by
    refine Mine.gk ?_
    intro Gz9 kz9
    obtain ⟨_, q, tf, tg, _, _, hm⟩ := hTV j (hsz ▸ hj)
    refine kz9 ?_
    (try clear kz9 Gz9)
    exact Heap.lt_size (N.get (.tail _ hm))
  have W := fun (A' : Around) (hA : A'.handled = none) => (seqTuples (prog := prog) (w := w) hA s.heap.objs.size x (Nat.ne_of_lt hxlt) parts.toArray (fun j => (TV j).1) (fun j => (TV j).2) (fun j hj => by
    obtain ⟨e, _⟩ := hTV j (hsz ▸ hj)
    simpa using e) fun j hj => Nat.ne_of_lt (hTlt j hj)).bound
  have hHsz : H.objs.size = s.heap.objs.size + 1 := by rw [← hH, Heap.size_push]
  have hge' : s.heap.objs.size < h₃.objs.size := Nat.lt_of_lt_of_le (by rw [hHsz]; exact Nat.lt_succ_self _) hge
  have hst : h₃.IsListIter s.heap.objs.size x 0 ∧ IsSeq h₃ x parts.toArray ∧ ∀ k, k < parts.toArray.size → h₃.IsTuple (TV k).1 (TV k).2 := by
    refine ⟨⟨_, hx₃ _ _ (Nat.ne_of_gt hPlt) (N₂.get (.head _)), rfl, rfl⟩, ⟨_, n, N₃.get (.tail _ hx), rfl⟩, fun k hk => ?_⟩
    refine Mine.gk ?_
    intro Gz9 kz9
    obtain ⟨_, q, tf, tg, _, e, hm⟩ := hTV k (hsz ▸ hk)
    refine kz9 ?_
    (try clear kz9 Gz9)
    exact ⟨_, N₃.get (.tail _ hm), rfl, 0, by rw [e]⟩
  have hcs : cStatics < s.heap.objs.size := let ⟨_, hn, _⟩ := hlim; hn.lt
  have hlen : pps.length = parts.length := hparts.length.symm
  refine ⟨s.heap.objs.size, _, _, _, _, _, _, fun _ => true, fun i y => ∃ q, pps[i]? = some q ∧ FF q y, rfl, W, ?_, hst, ?_, hl₃, ?_, ?_, ?_⟩
  · rintro i vals ⟨hi, rfl⟩
    refine Mine.gk ?_
    intro Gz9 kz9
    obtain ⟨_, q, tf, tg, _, e, _⟩ := hTV i (hsz ▸ hi)
    refine kz9 ?_
    (try clear kz9 Gz9)
    exact ⟨_, _, e⟩
  · refine Mine.fmc (hge') (Mine.fmc (Nat.lt_trans hxlt hge') (fun b hb => ?_))
    · obtain ⟨k, hk, rfl⟩ := List.mem_map.mp hb
      exact Nat.lt_trans (hTlt k (List.mem_range.mp hk)) hge'
  · intro hm
    rw [List.mem_singleton.mp hm] at hcs
    exact Nat.lt_irrefl _ hcs
  · intro href hhref
    refine ⟨fun A' E' i va vb u m₂ _ _ _ _ _ _ _ _ => wpAny_pure ⟨rfl, u.heap, u.toks, rfl, fun _ _ e => e⟩, ?_⟩
    rintro A' E' i va vb u m₂ hA hD hU ⟨hi, hv⟩ _ hn hma hmb hk
    refine Mine.gk ?_
    intro Gz9 kz9
    obtain ⟨_, q, tf, tg, hq, e, _⟩ := hTV i (hsz ▸ hi)
    refine kz9 ?_
    (try clear kz9 Gz9)
    rw [e] at hv
    obtain ⟨rfl, rfl⟩ : va = .str q.1 tf ∧ vb = .str q.2 tg := by simpa using congrArg Array.toList hv
    refine wpAny_mono (helt _ _ A' E' q tf tg u m₂ hA hD hU (List.mem_of_getElem? hq) ⟨hn, fun b o e => ?_, ?_⟩ hma hmb) (fun y s₃ r => ⟨⟨q, hq, r.1⟩, r.2⟩) fun _ _ z => z
    · have hb : b < L := Nat.lt_of_lt_of_le (Heap.lt_size e) F.above
      have hb2 : b < s.heap.objs.size := Nat.lt_trans hb F.ns.lt
      exact hk b (List.mem_range.mpr (Nat.lt_trans hb2 hge')) (fun hm => by rw [List.mem_singleton.mp hm] at hb2; exact Nat.lt_irrefl _ hb2) o (hhref b o (k₃ b o e))
    · exact Nat.le_trans F₃.above (Nat.le_of_lt F₃.ns.lt)
  · intro a h₅ tk gs hgb hag hsz₅ hk₅ W' hat
    have e1 : (passing (fun _ => true) parts.toArray.size 0).length = parts.length := by rw [passing_all]; simp
    have e2 : (fun (j : Nat) (y : Value) => ∃ i, (passing (fun _ => true) parts.toArray.size 0)[j]? = some i ∧ ∃ q, pps[i]? = some q ∧ FF q y) = (fun j y => ∃ q, pps[j]? = some q ∧ FF q y) := by
      funext j y
      apply propext
      rw [passing_all]
      constructor
      · first | (refine Mine.poxxxxxc ?_; intro i hi q hq hf) | (rintro ⟨i, hi, q, hq, hf⟩)
        have : i = j := by
          obtain ⟨h1, h2⟩ := List.getElem?_eq_some_iff.mp hi
          simpa using h2.symm
        subst this
        exact ⟨q, hq, hf⟩
      · first | (refine Mine.poxxxc ?_; intro q hq hf) | (rintro ⟨q, hq, hf⟩)
        have hj : j < parts.length := by
          have := (List.getElem?_eq_some_iff.mp hq).1
          kst_p2
        exact ⟨j, by simp [hj], q, hq, hf⟩
    rw [e1, e2] at W'
    refine hQ a ps' _ hps' (F₃.keeps hk₅) (fun q hq => ⟨hk₅ _ _ (N₃ q hq).1, (N₃ q hq).2⟩) (G.push hgb) rfl rfl ⟨_, _, _, _, W', hat, (fun i s' st => st.1.typeIs), List.mem_cons_self, ?_, ?_⟩
    · intro b hb
      show b < h₅.objs.size
      rw [hsz₅]
      rcases List.mem_cons.mp hb with rfl | hb
      · exact Nat.lt_succ_self _
      · rcases List.mem_cons.mp hb with rfl | hb
        · exact Nat.lt_succ_of_lt hag
        · exact Nat.lt_succ_of_lt (Nat.lt_trans (List.mem_range.mp hb) hag)
    · refine Mine.fmc (Nat.lt_of_le_of_lt (Nat.sub_le _ _) hge') (fun b hb => ?_)
      · rw [List.mem_singleton.mp hb]
        exact Nat.sub_lt hpos Nat.one_pos
end
end Mine
end TGen2

section TGen3
open PySem PySem.W PyProof.Rows PySem.Spec PySem.Calls
set_option Elab.async false
set_option maxRecDepth 100000
set_option maxHeartbeats 4000000
set_option linter.unusedVariables false
namespace Mine
theorem args_sum2 (a b : Value) : argsOk "sum" ⟨[a, b], []⟩ := by unfold argsOk; kernel_rfl
section
variable {prog : Program} {w : World} {A : Around} {E : Value → Shared → Prop} {s : Shared} {K : Addr} {a : Addr} {n : Nat} {F : Nat → Value → Prop} {Q : Value → Shared → Prop}
theorem gen_sum {tk : Tok} (G : AllBare s.gens) (X : Gen prog w A K a n F s) (val : Nat → Int) (hval : ∀ j v, F j v → ∃ t, v = .int (val j) t)
    (hQ : ∀ s' t', AllBare s'.gens → s'.os = s.os → s'.drawn = s.drawn → (∀ b o, b ≤ K → s.heap.get? b = some o → s'.heap.get? b = some o) → Q (.int (preSum val n) t') s') : wpAny (model prog w) A (call (.builtin "sum") [.ref a, .int 0 tk]) Q E s := by
  refine Mine.gk ?_
  intro Gz9 kz9
  obtain ⟨fp, wr, g, St, W, hst, _, _, hfp, hwr⟩ := X
  refine kz9 ?_
  (try clear kz9 Gz9)
  have W := W.in4_1
  refine call_function_tree PySem.F.kind_sum PySem.F.plain_sum PySem.F.entry_sum (args_sum2 _ _) ?_
  unfold Builtin.«sum»
  simp only [List.length_cons, List.length_nil]
  rw [if_neg (by decide)]
  refine wpAny_bind (wpAny_of_eq (show Builtin.Builtins.bindParams "sum" ["start"] 0 ⟨[.int 0 tk], []⟩ = pure [some (.int 0 tk)] from rfl) ?_)
  refine wpAny_bind (W.self 0 _ _ _ hst ?_)
  refine wpAny_bind ?_
  refine wpAny_rule (wpAny_bind (wpAny_mkInt (wpAny_bind (wpAny_pure ?_))))
  simp only [List.forIn_cons, List.forIn_nil]
  refine wpAny_bind (wpAny_bind (wpAny_bind (wpAny_isInstance (T := "int") (b := false) (typeIs_int _ _ _) PySem.sub_int_str ?_)))
  simp only [Bool.false_eq_true, if_false]
  refine wpAny_pure (wpAny_bind (wpAny_bind (wpAny_isInstance (T := "int") (b := false) (typeIs_int _ _ _) PySem.sub_int_bytes ?_)))
  simp only [Bool.false_eq_true, if_false]
  refine wpAny_pure (wpAny_bind (wpAny_bind (wpAny_isInstance (T := "int") (b := false) (typeIs_int _ _ _) PySem.sub_int_bytearray ?_)))
  simp only [Bool.false_eq_true, if_false]
  refine wpAny_pure (wpAny_pure ?_)
  refine wpAny_bind (wpAny_newObj_type ?_)
  have hSf : s.heap.objs.size ∉ fp := fun hm => Nat.lt_irrefl _ (hfp _ hm)
  refine wpAny_pure ⟨plainId_quiet PySem.F.plain_sum_loop _, codeAny_sum_loopAnyS W val hval s.heap.objs.size hSf n 0 _ s.toks 0 0 (.inl rfl) rfl (Nat.zero_le _)
    (W.frame 0 s _ _ hst (by first | exact Nat.le_refl _ | exact Nat.le_succ _ | kst_p2) fun b _ o e => Heap.get?_push_of_some _ e) (Heap.get?_push_size _ rfl) fun s' t' hm => ?_⟩
  have hm := hm.drop_new (by first | exact Nat.le_refl _ | exact Nat.le_succ _ | kst_p2)
  exact hQ s' t' (G.movedS hm) hm.os hm.drawn fun b o hb e => hm.heap b o (fun hmem => Nat.lt_irrefl _ (Nat.lt_of_lt_of_le (hwr b hmem) hb)) e
theorem gen_join {sep : Str} {t : Tok} (G : AllBare s.gens) (X : Gen prog w A K a n F s) (tx : Nat → Str) (htx : ∀ j v, F j v → ∃ u, v = .str (tx j) u) (hok : JoinOk sep ((List.range n).map tx) = true) (hsz : n ≤ 100)
    (hQ : ∀ s' t', AllBare s'.gens → s'.os = s.os → s'.drawn = s.drawn → (∀ b o, b ≤ K → s.heap.get? b = some o → s'.heap.get? b = some o) → Q (.str (Txt.join sep ((List.range n).map tx)) t') s') : wpAny (model prog w) A (call (.builtin "str.join") [.str sep t, .ref a]) Q E s := by
  refine Mine.gk ?_
  intro Gz9 kz9
  obtain ⟨fp, wr, g, St, W, hst, hT, ha, hfp, hwr⟩ := X
  refine kz9 ?_
  (try clear kz9 Gz9)
  have W := W.in4_2
  refine SC.joinGen W hT hst hfp ha (fun j v hv => let ⟨u, e⟩ := htx j v hv; ⟨_, u, e⟩) (fun s' lt hm hacc => ?_) (by rw [sizeLine_eq]; kst_p2)
  have hl : lt.map (·.1) = (List.range n).map tx := by
    apply List.ext_getElem?
    intro j
    have hsz : lt.length = n := by simpa [strValues] using hacc.1
    by_cases hj : j < n
    · have hj' : j < lt.length := hsz ▸ hj
      obtain ⟨u, hv⟩ := htx j _ (hacc.2 j (.str lt[j].1 lt[j].2) (by simp [strValues, List.getElem?_eq_getElem hj']))
      injection hv with h1 _
      simp [List.getElem?_eq_getElem hj', hj, h1]
    · rw [List.getElem?_eq_none (by simpa [hsz] using Nat.le_of_not_lt hj), List.getElem?_eq_none (by simpa using Nat.le_of_not_lt hj)]
  rw [hl]
  have g1 := G.movedS hm
  exact ⟨hok, fun t' k => hQ { s' with toks := k } t' g1 hm.os hm.drawn fun b o hb e => hm.heap b o (fun hmem => Nat.lt_irrefl _ (Nat.lt_of_lt_of_le (hwr b hmem) hb)) e⟩
end
section
variable {M : Model} {A : Around} {E : Value → Shared → Prop} {s : Shared} {K : Frag} {h₀ : Heap} {L a : Addr} {m mg mb : Str → Option Value} {p : Program} {loose : List Str} {x : Str} {pos : Pos} {v : Value} {Q : Value → Shared → Prop} {scope : Scope} {cl : List (Str × Addr)} {C : Addr} {code : Value} {env : Env}
theorem nameG_L (F : Fr h₀ C s.heap m) (hv : m x = some v) (h : Q v s) (hk : scope.kind = .function) (hx : scope.names.lookup x = some .local) (hd : (x == ("__debug__" : Str)) = false) :
    wpAny M A (eval (.Name x pos) (genEnv scope cl C code builtinsNs env)) Q E s := wpAny_Name (wpAny_loadName_local (env := genEnv scope cl C code builtinsNs env) hk hx F.ns hv h) hd
theorem nameG_B (F : Fr h₀ C s.heap m) (X : K.In h₀) (T : TopRead p loose mg mb h₀) (e : nsIn K mainGlobals x = some none) (hv : bootBuiltins x = some v) (hn : x ≠ "__name__") (h : Q v s) (hg : env.globals = mainGlobals)
    (hk : scope.kind = .function) (hx : scope.names.lookup x = some .globalImplicit) (hd : (x == ("__debug__" : Str)) = false) :
    wpAny M A (eval (.Name x pos) (genEnv scope cl C code builtinsNs env)) Q E s := by
  refine Name_function_global (env := genEnv scope cl C code builtinsNs env) hk hx ?_ hd
  refine loadGlobal_builtin (env := genEnv scope cl C code builtinsNs env) ?_ (mg_none_of X T.g e) (T.b.keeps F.keep) ((T.builtins x hn).trans hv) h
  show s.heap.Ns env.globals mg
  rw [hg]
  exact T.g.keeps F.keep
theorem nameG_K (F : Fr h₀ C s.heap m) (X : K.In h₀) (T : TopRead p loose mg mb h₀) (e : nsIn K mainGlobals x = some (some v)) (h : Q v s) (hg : env.globals = mainGlobals)
    (hk : scope.kind = .function) (hx : scope.names.lookup x = some .globalImplicit) (hd : (x == ("__debug__" : Str)) = false) :
    wpAny M A (eval (.Name x pos) (genEnv scope cl C code builtinsNs env)) Q E s := by
  refine Name_function_global (env := genEnv scope cl C code builtinsNs env) hk hx ?_ hd
  refine loadGlobal_global (env := genEnv scope cl C code builtinsNs env) ?_ (mg_of X T.g e) h
  show s.heap.Ns env.globals mg
  rw [hg]
  exact T.g.keeps F.keep
end
theorem keep_news {h₀ h h' : Heap} {L K : Addr} {m : Str → Option Value} {news : List (Addr × Obj)} (F : Fr h₀ L h m) (N : News h₀ L h news) (hL : L ≤ K) (hN : ∀ q ∈ news, q.1 ≤ K) (hk : ∀ b o, b ≤ K → h.get? b = some o → h'.get? b = some o) : Fr h₀ L h' m ∧ News h₀ L h' news :=
  ⟨⟨F.ns.at' fun o e => hk _ o hL e, fun b o e => hk b o (Nat.le_of_lt (Nat.lt_of_lt_of_le (Nat.lt_of_lt_of_le (Heap.lt_size e) F.above) hL)) (F.keep b o e), F.above⟩, fun q hq => ⟨hk _ _ (hN q hq) (N q hq).1, (N q hq).2⟩⟩
theorem up_to {h₀ h : Heap} {L : Addr} {m : Str → Option Value} {news : List (Addr × Obj)} (F : Fr h₀ L h m) (N : News h₀ L h news) : L ≤ h.objs.size - 1 ∧ ∀ q ∈ news, q.1 ≤ h.objs.size - 1 :=
  ⟨Nat.le_sub_one_of_lt F.ns.lt, fun q hq => Nat.le_sub_one_of_lt (Heap.lt_size (N.get hq))⟩
theorem gen_toks {prog : Program} {w : World} {A : Around} {K a : Addr} {n : Nat} {F : Nat → Value → Prop} {s : Shared} {tk : Nat} (X : Gen prog w A K a n F s) (h : s.toks ≤ tk) : Gen prog w A K a n F { s with toks := tk } := by
  refine Mine.gk ?_
  intro Gz9 kz9
  obtain ⟨fp, wr, g, St, W, hst, hT, ha, hfp, hwr⟩ := X
  refine kz9 ?_
  (try clear kz9 Gz9)
  exact ⟨fp, wr, g, St, W, W.frame 0 s s.heap tk hst h fun _ _ _ e => e, hT, ha, hfp, hwr⟩
end Mine
end TGen3

section TClen
open PySem PySem.W PyProof.Rows PySem.Spec PySem.Calls
set_option Elab.async false
set_option maxRecDepth 100000
set_option maxHeartbeats 4000000
set_option linter.unusedVariables false
set_option linter.unusedSimpArgs false

namespace Mine
noncomputable def lenOf (pps : List (Str × Str)) : Nat := (pps.map fun q => q.1.length + q.2.length).sum
theorem len_cast : ∀ pps : List (Str × Str), (pps.map fun q => ((q.1.length + q.2.length : Nat) : Int)).sum = ((lenOf pps : Nat) : Int) := by
  intro pps
  induction pps with
  | nil => rfl
  | cons q r this =>
    simp only [List.map_cons, List.sum_cons, lenOf] at this ⊢
    rw [this]
    exact (Int.natCast_add _ _).symm
noncomputable def lenPos : Pos := { line := 93, col := 19, endLine := 93, endCol := 63 }
section
variable {w : World} {mean : ExcName → Option Value} {mg mb : Str → Option Value} {dp un : Nat} {gd : Option (List Code)} {cn : Str} {cs : Scope} {a : Addr} {ccd : Value} {cl : List (Str × Addr)} {outer : List Env} {A₀ : Around} {base h₀ : Heap} {L : Addr} {m : Str → Option Value} {news : List (Addr × Obj)} {s : Shared} {Q E : Value → Shared → Prop}

theorem len_spec {rest : List (Addr × Obj)} {ps : Array Value} (C : Cx w mean mg mb cs outer A₀ base h₀ L m ((140, plO ps) :: rest) s) (hd1 : dp + 20 < recursionLimit) (hu : un + 100 < cLine) {ac da : Addr} {parts : List Value} {pps : List (Str × Str)} {n : Nat} {t1 t2 : Tok} (hap : ∀ q ∈ rest, q.1 ≠ 140) (hac : (ac, accO da parts n) ∈ rest) (hda : (da, accD w 0 t1 t2) ∈ rest) (hparts : PartsIn rest parts pps) (hb : ∀ q ∈ pps, q.1.length ≤ 100 ∧ q.2.length ≤ 100) (G : AllBare s.gens) (hps : PlOk lenPos ps)
    (hret : ∀ ps' h' g' tk' t', PlOk lenPos ps' → AllBare g' → Fr h₀ L h' m → News h₀ L h' ((140, plO ps') :: rest) → Q (.int (lenOf pps) t') { s with heap := h', gens := g', toks := tk' }) :
    wpAny (model PySem.Challenge.rw_ti0073_01.row.prog w) (ktrTop dp un gd cn cs L a ccd cl outer) (call (.ref 145) [.ref ac]) Q E s := by
  w_top off
  obtain ⟨B, F, X, N, T, hk⟩ := C
  revert X
  k_fill
  intro X
  k_dflt (refine' enter (binds := [(Str.ofString "self", .ref ac)]) B F X N T hk ?k6 ?k7 ?k8 ?k9 ?kB ?_ ?c2 ?c3 ?c4 ?c5; (case k6 => k_is); (case k7 => k_is); (case k8 => kst_p2); (case k9 => exact BindsTo.of_eq rfl); (case c5 => decide); (case kB => exact locs rfl); (case c2 => exact rfl); (case c3 => exact rfl); (case c4 => exact rfl))
  intro gH LF hF FG F1 N1 B1 X1 T1 lL
  simp only [List.reverse_cons, List.reverse_nil, List.nil_append, List.cons_append] at F1
  (try k_fold)
  (try (with_reducible refine (let A9 : PySem.Around := _; let e9 : PySem.Env := _; (?_ : PySem.wpAny _ A9 (PySem.execs _ e9) _ _ _))))
  w_strict repeat' ((fail_if_success (with_reducible show wpAny _ _ (eval (Expr.GeneratorExp _ _ _ _) _) _ _ _)); kla_enter)
  (try k_fold)
  obtain ⟨oc, hoc, hci⟩ : ∃ oc, gH.get? 144 = some oc ∧ CodeIs oc 140 := ⟨_, X1 144 _ (by k_is), rfl, _, _, _, _, _, _, _, _, rfl, rfl, rfl, rfl, rfl, rfl⟩
  refine' gen_acc (FF := fun q y => ∃ t, y = .int ((q.1.length + q.2.length : Nat) : Int) t) (accF w rfl) X1 T1 F1 N1 hap hac hda hparts G hps rfl rfl rfl hoc hci rfl rfl ?hcl ?hce ?h0 ?hxa ?hxb ?hab ?hki ?hro ?hit ?hfo ?hel ?hqq
  case hcl => with_unfolding_all rfl
  case hce => decide
  case h0 => rfl
  case hxa => rfl
  case hxb => rfl
  case hab => decide
  case hki => rfl
  case hro => show dp + 1 < recursionLimit; kst_p2
  case hfo => intro _; with_unfolding_all rfl
  case hit =>
    intro Q' E' h'
    exact nameX_L F1 rfl h'
  case hel =>
    intro code Cc A' E' q tf tg u m₂ hA hD hU hq Fu hma hmb
    obtain ⟨hb1, hb2⟩ := hb q hq
    refine wpAny_mono (Q := fun y s₃ => Hold ((∃ t, y = .int ((q.1.length + q.2.length : Nat) : Int) t) ∧ Keeps u s₃)) ?_ (fun y s₃ z => z.out) fun _ _ z => z
    w_strict repeat' (first | (k_here; (with_reducible show wpAny _ _ (call (Value.builtin "len") [Value.str _ _]) _ _ _); k_dflt (refine len_str (by kst_p2) ?_)) | (k_here; (with_reducible show wpAny _ _ (eval (Expr.Name _ _) (PySem.genEnv _ _ _ _ _ _)) _ _ _); k_dflt (first | (refine' Mine.nameG_L ?k1 ?k2 ?_ rfl rfl ?k3; (case k1 => k_asm); (case k2 => assumption); (case k3 => decide)) | (refine' Mine.nameG_B ?k1 ?k2 ?k3 ?k4 ?k5 ?k6 ?_ rfl rfl rfl ?k7; (case k1 => k_asm); (case k2 => assumption); (case k3 => exact topRead_of (by assumption)); (case k4 => k_is); (case k5 => first | boot_by_name | rfl | kernel_rfl); (case k6 => decide); (case k7 => decide)) | (refine' Mine.nameG_K ?k1 ?k2 ?k3 ?k4 ?_ rfl rfl rfl ?k7; (case k1 => k_asm); (case k2 => assumption); (case k3 => exact topRead_of (by assumption)); (case k4 => k_is); (case k7 => decide)))) | kla_enter)
    exact ⟨⟨⟨_, rfl⟩, u.heap, _, rfl, fun _ _ e => e⟩⟩
  case hqq =>
    intro a ps' s₅ hps' F5 N5 G5 ho hd X5
    (try k_fold)
    refine Mine.gk ?_
    intro Gz9 kz9
    obtain ⟨h5, g5, d5, t5, o5⟩ := s₅
    refine kz9 ?_
    (try clear kz9 Gz9)
    (try k_fold)
    refine Mine.gk ?_
    intro Gz9 kz9
    (try k_fold)
    cases ho
    all_goals (try (refine kz9 ?_; (try clear kz9 Gz9)))
    (try k_fold)
    refine Mine.gk ?_
    intro Gz9 kz9
    (try k_fold)
    cases hd
    all_goals (try (refine kz9 ?_; (try clear kz9 Gz9)))
    dsimp only at F5 N5 G5
    w_strict repeat' ((fail_if_success (with_reducible show wpAny _ _ (call (.builtin "sum") _) _ _ _)); first | (k_here; (with_reducible show wpAny _ _ (PySem.getAttr (Value.ref _) _ _) _ _ _); k_dflt (refine' Mine.acc_get (attr := none) (Mine.accF _ rfl) ?k1 ?k2 ?k3 ?k4 ?_; (case k1 => exact Frag.In.keeps (by assumption) (Fr.keep (by k_asm))); (case k2 => exact Mine.news_acc (by k_asm) (by k_mem) (by k_mem)); (case k3 => exact findObj_own (Mine.accF _ rfl).hdct (Mine.accF _ rfl).size rfl rfl); (case k4 => rfl))) | kla_enter)
    have hup := up_to F1 N1
    refine gen_sum G5 (gen_toks X5 (Nat.le_succ _)) (fun j => ((pps.map fun q => ((q.1.length + q.2.length : Nat) : Int)).getD j 0)) ?hv1 ?hq1
    case hv1 =>
      rintro j v h9Q1
      (try k_fold)
      refine Mine.gk ?_
      intro Gz9 kz9
      (try k_fold)
      obtain ⟨q, hq, t, rfl⟩ := h9Q1
      refine kz9 ?_
      (try clear kz9 Gz9)
      exact ⟨t, by simp [List.getD_eq_getElem?_getD, hq]⟩
    case hq1 =>
      intro s₆ t₆ G6 ho hd hk6
      (try k_fold)
      refine Mine.gk ?_
      intro Gz9 kz9
      obtain ⟨h6, g6, d6, t6, o6⟩ := s₆
      refine kz9 ?_
      (try clear kz9 Gz9)
      (try k_fold)
      refine Mine.gk ?_
      intro Gz9 kz9
      (try k_fold)
      cases ho
      all_goals (try (refine kz9 ?_; (try clear kz9 Gz9)))
      (try k_fold)
      refine Mine.gk ?_
      intro Gz9 kz9
      (try k_fold)
      cases hd
      all_goals (try (refine kz9 ?_; (try clear kz9 Gz9)))
      dsimp only at G6 hk6
      obtain ⟨F6, N6⟩ := keep_news F5 N5 hup.1 (fun q hq => by
        (try k_fold)
        rcases List.mem_cons.mp hq with rfl | hq
        · exact hup.2 (140, plO ps) (.head _)
        · exact hup.2 q (.tail _ hq)) hk6
      w_strict repeat' kla_enter
      have e9 : preSum (fun j => ((pps.map fun q => ((q.1.length + q.2.length : Nat) : Int)).getD j 0)) parts.length = ((lenOf pps : Nat) : Int) := by
        rw [preSum_getD, List.take_of_length_le (by rw [List.length_map, hparts.length]; exact Nat.le_refl _)]
        exact len_cast pps
      rw [e9]
      exact hret ps' _ _ _ _ hps' G6 (by assumption) (by assumption)
end
end Mine
end TClen

section TCstr
open PySem PySem.W PyProof.Rows PySem.Spec PySem.Calls
set_option Elab.async false
set_option maxRecDepth 100000
set_option maxHeartbeats 4000000
set_option linter.unusedVariables false
set_option linter.unusedSimpArgs false

namespace Mine
theorem sum_le200 : ∀ l : List Nat, (∀ x ∈ l, x ≤ 200) → l.sum ≤ 200 * l.length
  | [], _ => by simp
  | a :: r, h => by
    have := sum_le200 r fun x hx => h x (.tail _ hx)
    have := h a (.head _)
    simp only [List.sum_cons, List.length_cons]
    kst_p2
theorem join_fits (pps : List (Str × Str)) (hb : ∀ q ∈ pps, q.1.length ≤ 100 ∧ q.2.length ≤ 100) (hpl : pps.length ≤ 10) : JoinOk (Str.ofString "") (pps.map fun q => Txt.join (Str.ofString "") [q.1, q.2]) = true := by
  refine joinOk_of ?_
  have e : (Str.ofString "").length = 0 := by decide +kernel
  rw [e, Nat.mul_zero, Nat.add_zero]
  have := sum_le200 ((pps.map fun q => Txt.join (Str.ofString "") [q.1, q.2]).map (·.length)) (by
    intro x hx
    simp only [List.map_map, List.mem_map, Function.comp] at hx
    (try k_fold)
    obtain ⟨q, hq, rfl⟩ := hx
    have := hb q hq
    have e2 : (Txt.join (Str.ofString "") [q.1, q.2]).length = q.1.length + q.2.length := by
      show (Builtin.Str.glued (Str.ofString "") [q.1, q.2]).length = _
      rw [PySem.size_glued, e]
      simp
    kst_p2)
  simp only [List.length_map] at this
  kst_p2
noncomputable def strOf (pps : List (Str × Str)) : Str := Txt.join (Str.ofString "") (pps.map fun q => Txt.join (Str.ofString "") [q.1, q.2])
noncomputable def strPos : Pos := { line := 96, col := 32, endLine := 96, endCol := 85 }
section
variable {w : World} {mean : ExcName → Option Value} {mg mb : Str → Option Value} {dp un : Nat} {gd : Option (List Code)} {cn : Str} {cs : Scope} {a : Addr} {ccd : Value} {cl : List (Str × Addr)} {outer : List Env} {A₀ : Around} {base h₀ : Heap} {L : Addr} {m : Str → Option Value} {news : List (Addr × Obj)} {s : Shared} {Q E : Value → Shared → Prop}

theorem str_spec {rest : List (Addr × Obj)} {ps : Array Value} (C : Cx w mean mg mb cs outer A₀ base h₀ L m ((147, plO ps) :: rest) s) (hd1 : dp + 20 < recursionLimit) (hu : un + 100 < cLine) {ac da : Addr} {parts : List Value} {pps : List (Str × Str)} {n : Nat} {od : Obj} (hap : ∀ q ∈ rest, q.1 ≠ 147) (hac : (ac, accO da parts n) ∈ rest) (hda : (da, od) ∈ rest) (hparts : PartsIn rest parts pps) (hb : ∀ q ∈ pps, q.1.length ≤ 100 ∧ q.2.length ≤ 100) (hpl : pps.length ≤ 10) (G : AllBare s.gens) (hps : PlOk strPos ps)
    (hret : ∀ ps' h' g' tk' t', PlOk strPos ps' → AllBare g' → Fr h₀ L h' m → News h₀ L h' ((147, plO ps') :: rest) → Q (.str (strOf pps) t') { s with heap := h', gens := g', toks := tk' }) :
    wpAny (model PySem.Challenge.rw_ti0073_01.row.prog w) (ktrTop dp un gd cn cs L a ccd cl outer) (call (.ref 152) [.ref ac]) Q E s := by
  w_top off
  obtain ⟨B, F, X, N, T, hk⟩ := C
  revert X
  k_fill
  intro X
  k_dflt (refine' enter (binds := [(Str.ofString "self", .ref ac)]) B F X N T hk ?k6 ?k7 ?k8 ?k9 ?kB ?_ ?c2 ?c3 ?c4 ?c5; (case k6 => k_is); (case k7 => k_is); (case k8 => kst_p2); (case k9 => exact BindsTo.of_eq rfl); (case c5 => decide); (case kB => exact locs rfl); (case c2 => exact rfl); (case c3 => exact rfl); (case c4 => exact rfl))
  intro gH LF hF FG F1 N1 B1 X1 T1 lL
  simp only [List.reverse_cons, List.reverse_nil, List.nil_append, List.cons_append] at F1
  (try k_fold)
  (try (with_reducible refine (let A9 : PySem.Around := _; let e9 : PySem.Env := _; (?_ : PySem.wpAny _ A9 (PySem.execs _ e9) _ _ _))))
  w_strict repeat' ((fail_if_success (with_reducible show wpAny _ _ (eval (Expr.GeneratorExp _ _ _ _) _) _ _ _)); kla_enter)
  (try k_fold)
  obtain ⟨oc, hoc, hci⟩ : ∃ oc, gH.get? 151 = some oc ∧ CodeIs oc 147 := ⟨_, X1 151 _ (by k_is), rfl, _, _, _, _, _, _, _, _, rfl, rfl, rfl, rfl, rfl, rfl⟩
  refine' gen_acc (pos := strPos) (FF := fun q y => ∃ t, y = .str (Txt.join (Str.ofString "") [q.1, q.2]) t) (accF w rfl) X1 T1 F1 N1 hap hac hda hparts G hps rfl rfl rfl hoc hci rfl rfl ?hcl ?hce ?h0 ?hxa ?hxb ?hab ?hki ?hro ?hit ?hfo ?hel ?hqq
  case hcl => with_unfolding_all rfl
  case hce => decide
  case h0 => rfl
  case hxa => rfl
  case hxb => rfl
  case hab => decide
  case hki => rfl
  case hro => show dp + 1 < recursionLimit; kst_p2
  case hfo => intro _; with_unfolding_all rfl
  case hit =>
    intro Q' E' h'
    exact nameX_L F1 rfl h'
  case hel =>
    intro code Cc A' E' q tf tg u m₂ hA hD hU hq Fu hma hmb
    obtain ⟨hb1, hb2⟩ := hb q hq
    have Nu : News gH Cc u.heap [] := News.nil
    refine wpAny_mono (Q := fun y s₃ => Hold ((∃ t, y = .str (Txt.join (Str.ofString "") [q.1, q.2]) t) ∧ Keeps u s₃)) ?_ (fun y s₃ z => z.out) fun _ _ z => z
    w_strict repeat' ((fail_if_success (with_reducible show wpAny _ _ (newTuple _) _ _ _)); first | (k_here; (with_reducible show wpAny _ _ (eval (Expr.Name _ _) (PySem.genEnv _ _ _ _ _ _)) _ _ _); k_dflt (first | (refine' Mine.nameG_L ?k1 ?k2 ?_ rfl rfl ?k3; (case k1 => k_asm); (case k2 => assumption); (case k3 => decide)) | (refine' Mine.nameG_B ?k1 ?k2 ?k3 ?k4 ?k5 ?k6 ?_ rfl rfl rfl ?k7; (case k1 => k_asm); (case k2 => assumption); (case k3 => exact topRead_of (by assumption)); (case k4 => k_is); (case k5 => first | boot_by_name | rfl | kernel_rfl); (case k6 => decide); (case k7 => decide)) | (refine' Mine.nameG_K ?k1 ?k2 ?k3 ?k4 ?_ rfl rfl rfl ?k7; (case k1 => k_asm); (case k2 => assumption); (case k3 => exact topRead_of (by assumption)); (case k4 => k_is); (case k7 => decide)))) | kla_enter)
    unfold newTuple
    refine wpAny_newObj_type ?_ (by size_fits)
    have Fv := Fu.push (Obj.mk (.type "tuple") none (.seq (List.toArray [.str q.1 tf, .str q.2 tg]) 0) #[])
    have Nv := Nu.push Fu (Obj.mk (.type "tuple") none (.seq (List.toArray [.str q.1 tf, .str q.2 tg]) 0) #[]) rfl
    w_strict repeat' ((fail_if_success (with_reducible show wpAny _ _ (call (.builtin "str.join") _) _ _ _)); kla_enter)
    refine join_tupleC (ys := [q.1, q.2]) ⟨_, Heap.get?_push_size _ rfl, rfl, 0, rfl⟩ (.cons _ _ (.cons _ _ .nil)) (by decide +kernel) (by simp; kst_p2) ?_
    intro t8 k8
    w_strict repeat' kla_enter
    exact ⟨⟨⟨_, rfl⟩, _, _, rfl, fun _ _ e => Heap.get?_push_of_some _ e⟩⟩
  case hqq =>
    intro a ps' s₅ hps' F5 N5 G5 ho hd X5
    (try k_fold)
    refine Mine.gk ?_
    intro Gz9 kz9
    obtain ⟨h5, g5, d5, t5, o5⟩ := s₅
    refine kz9 ?_
    (try clear kz9 Gz9)
    (try k_fold)
    refine Mine.gk ?_
    intro Gz9 kz9
    (try k_fold)
    cases ho
    all_goals (try (refine kz9 ?_; (try clear kz9 Gz9)))
    (try k_fold)
    refine Mine.gk ?_
    intro Gz9 kz9
    (try k_fold)
    cases hd
    all_goals (try (refine kz9 ?_; (try clear kz9 Gz9)))
    dsimp only at F5 N5 G5
    w_strict repeat' ((fail_if_success (with_reducible show wpAny _ _ (call (.builtin "str.join") _) _ _ _)); kla_enter)
    have hup := up_to F1 N1
    have htx : (List.range parts.length).map (fun j => (pps.map fun q => Txt.join (Str.ofString "") [q.1, q.2]).getD j (Str.ofString "")) = pps.map fun q => Txt.join (Str.ofString "") [q.1, q.2] := by
      rw [hparts.length]
      apply List.ext_getElem?
      intro j
      by_cases hj : j < pps.length
      · simp [hj]
      · simp [hj]
    refine gen_join G5 X5 (fun j => (pps.map fun q => Txt.join (Str.ofString "") [q.1, q.2]).getD j (Str.ofString "")) ?hv1 ?hok (by rw [hparts.length]; kst_p2) ?hq1
    case hv1 =>
      rintro j v h9Q1
      (try k_fold)
      refine Mine.gk ?_
      intro Gz9 kz9
      (try k_fold)
      obtain ⟨q, hq, t, rfl⟩ := h9Q1
      refine kz9 ?_
      (try clear kz9 Gz9)
      exact ⟨t, by simp [List.getD_eq_getElem?_getD, hq]⟩
    case hok =>
      rw [htx]
      exact join_fits pps hb hpl
    case hq1 =>
      rw [htx]
      intro s₆ t₆ G6 ho hd hk6
      (try k_fold)
      refine Mine.gk ?_
      intro Gz9 kz9
      obtain ⟨h6, g6, d6, t6, o6⟩ := s₆
      refine kz9 ?_
      (try clear kz9 Gz9)
      (try k_fold)
      refine Mine.gk ?_
      intro Gz9 kz9
      (try k_fold)
      cases ho
      all_goals (try (refine kz9 ?_; (try clear kz9 Gz9)))
      (try k_fold)
      refine Mine.gk ?_
      intro Gz9 kz9
      (try k_fold)
      cases hd
      all_goals (try (refine kz9 ?_; (try clear kz9 Gz9)))
      dsimp only at G6 hk6
      obtain ⟨F6, N6⟩ := keep_news F5 N5 hup.1 (fun q hq => by
        (try k_fold)
        rcases List.mem_cons.mp hq with rfl | hq
        · exact hup.2 (147, plO ps) (.head _)
        · exact hup.2 q (.tail _ hq)) hk6
      w_strict repeat' kla_enter
      exact hret ps' _ _ _ _ hps' G6 (by assumption) (by assumption)
end
end Mine
end TCstr

section TCmeth
open PySem PySem.W PyProof.Rows PySem.Spec PySem.Calls
set_option Elab.async false
set_option maxRecDepth 100000
set_option maxHeartbeats 4000000
set_option linter.unusedVariables false
set_option linter.unusedSimpArgs false

namespace Mine
section
variable {w : World} {mean : ExcName → Option Value} {mg mb : Str → Option Value} {dp un : Nat} {gd : Option (List Code)} {cn : Str} {cs : Scope} {a : Addr} {ccd : Value} {cl : List (Str × Addr)} {outer : List Env} {A₀ : Around} {base h₀ : Heap} {L : Addr} {m : Str → Option Value} {news : List (Addr × Obj)} {s : Shared} {Q E : Value → Shared → Prop}

theorem count_spec (C : Cx w mean mg mb cs outer A₀ base h₀ L m news s) (hd1 : dp + 5 < recursionLimit) (hu : un + 100 < cLine) {ac da : Addr} {parts : List Value} {n : Nat} {od : Obj} (hac : (ac, accO da parts n) ∈ news) (hda : (da, od) ∈ news)
    (hret : ∀ h' tk' t', Fr h₀ L h' m → News h₀ L h' news → Q (.int parts.length t') { s with heap := h', toks := tk' }) :
    wpAny (model PySem.Challenge.rw_ti0073_01.row.prog w) (ktrTop dp un gd cn cs L a ccd cl outer) (call (.ref 175) [.ref ac]) Q E s := by
  w_top off
  obtain ⟨B, F, X, N, T, hk⟩ := C
  revert X
  k_fill
  intro X
  k_dflt (refine' enterS (binds := [(Str.ofString "self", .ref ac)]) B F X N T hk ?k6 ?k7 ?k8 ?k9 ?kB ?_ ?c2 ?c3 ?c4 ?c5; (case k6 => k_is); (case k7 => k_is); (case k8 => kst_p2); (case k9 => exact BindsTo.of_eq rfl); (case c5 => decide); (case kB => exact locs rfl); (case c2 => exact rfl); (case c3 => exact rfl); (case c4 => exact rfl))
  intro gH LF hF FG F1 N1 B1 X1 T1 lL
  simp only [List.reverse_cons, List.reverse_nil, List.nil_append, List.cons_append] at F1
  (try k_fold)
  (try (with_reducible refine (let A9 : PySem.Around := _; let e9 : PySem.Env := _; (?_ : PySem.wpAny _ A9 (PySem.execs _ e9) _ _ _))))
  w_strict repeat' (first | (k_here; (with_reducible show wpAny _ _ (PySem.callWith _ (Value.ref _) _ _ _) _ _ _); k_dflt (first | (refine' Mine.callWith_b0 ?k1 ?k2 (.inr rfl) ?_; (case k1 => k_asm); (case k2 => k_mem)) | (refine' Mine.callWith_b0 ?k1 ?k2 (.inl rfl) ?_; (case k1 => k_asm); (case k2 => k_mem)))) | (k_here; (with_reducible show wpAny _ _ (call (Value.ref _) []) _ _ _); k_dflt (refine' Mine.bound_len ?k1 ?k2 ?k3 ?_; (case k1 => k_asm); (case k3 => k_mem); (case k2 => k_mem))) | (k_here; (with_reducible show wpAny _ _ (getMethod (Value.ref _) (PySem.Str.ofString "__len__") _) _ _ _); k_dflt (refine' Mine.sup_len (Mine.accF _ rfl) ?k1 ?k2 ?k3 ?k4 ?k5 ?k6 ?_; (case k1 => k_asm); (case k2 => k_asm); (case k3 => k_asm); (case k6 => k_mem); (case k4 => k_mem); (case k5 => k_mem)); intro _ _ _ _ l1; (try k_lt l1)) | (ks_step "attributeBase Call"; k_here; k_dflt (refine ks_node (by k_asm) (by k_asm) (by k_asm) (by k_asm) (by k_is) (by rfl) (by rfl) (Mine.news_acc (by k_asm) (by k_mem) (by k_mem)) (by k_is) (by rfl) (by first | rfl | decide +kernel) (by k_is) (by k_is) (by k_is) (by k_is) (by decide) (by rfl) (by rfl) (by rfl) (by rfl) (by decide +kernel) (by first | boot_by_name | rfl | kernel_rfl) ?_; intro _ _ _ _ l1; (try k_lt l1))) | kla_enter)
  exact hret _ _ _ (by assumption) (nsub (by assumption) (by kst_allIn))
end
section
variable {w : World} {mean : ExcName → Option Value} {mg mb : Str → Option Value} {dp un : Nat} {gd : Option (List Code)} {cn : Str} {cs : Scope} {a : Addr} {ccd : Value} {cl : List (Str × Addr)} {outer : List Env} {A₀ : Around} {base h₀ : Heap} {L : Addr} {m : Str → Option Value} {news : List (Addr × Obj)} {s : Shared} {Q E : Value → Shared → Prop}

theorem pop_spec {rest : List (Addr × Obj)} {ac da : Addr} {parts : List Value} {v : Value} {n : Nat} {t1 t2 : Tok} (C : Cx w mean mg mb cs outer A₀ base h₀ L m ((ac, accO da (parts ++ [v]) n) :: rest) s) (hd1 : dp + 20 < recursionLimit) (hu : un + 200 < cLine) (hap : ∀ q ∈ rest, q.1 ≠ ac) (hda : (da, accD w 0 t1 t2) ∈ rest) (hpl : parts.length ≤ 20)
    (hret : ∀ h' tk' n', Fr h₀ L h' m → News h₀ L h' ((ac, accO da parts n') :: rest) → Q v { s with heap := h', toks := tk' }) :
    wpAny (model PySem.Challenge.rw_ti0073_01.row.prog w) (ktrTop dp un gd cn cs L a ccd cl outer) (call (.ref 138) [.ref ac]) Q E s := by
  w_top off
  obtain ⟨B, F, X, N, T, hk⟩ := C
  revert X
  k_fill
  intro X
  k_dflt (refine' enterS (binds := [(Str.ofString "self", .ref ac)]) B F X N T hk ?k6 ?k7 ?k8 ?k9 ?kB ?_ ?c2 ?c3 ?c4 ?c5; (case k6 => k_is); (case k7 => k_is); (case k8 => kst_p2); (case k9 => exact BindsTo.of_eq rfl); (case c5 => decide); (case kB => exact locs rfl); (case c2 => exact rfl); (case c3 => exact rfl); (case c4 => exact rfl))
  intro gH LF hF FG F1 N1 B1 X1 T1 lL
  simp only [List.reverse_cons, List.reverse_nil, List.nil_append, List.cons_append] at F1
  (try k_fold)
  (try (with_reducible refine (let A9 : PySem.Around := _; let e9 : PySem.Env := _; (?_ : PySem.wpAny _ A9 (PySem.execs _ e9) _ _ _))))
  have hne : (parts ++ [v]).length = parts.length + 1 := by simp
  w_strict repeat' ((fail_if_success (with_reducible show wpAny _ _ (compareOp _ _ _) _ _ _)); first | (k_here; (with_reducible show wpAny _ _ (call (Value.ref 175) _) _ _ _); k_dflt (refine' count_spec ⟨?k1, ?k2, ?k3, ?k4, ?k5, ?kK⟩ ?kd ?ku ?q1 ?q2 ?_; (case k2 => k_asm); (case k1 => k_asm); (case k3 => k_asm); (case k4 => k_asm); (case k5 => k_asm); (case kK => first | exact rfl | assumption); (case kd => kst_p2); (case ku => kst_p2); (case q1 => k_mem); (case q2 => k_mem)); intro _ _ _ _ _; (try dsimp only); (try k_fold)) | (k_here; (with_reducible show wpAny _ _ (PySem.getMethod (Value.ref _) _ _) _ _ _); k_dflt (first | (refine' Mine.acc_method (Mine.accF _ rfl) ?k1 ?k2 ?k3 ?k4 ?k5 ?_; (case k1 => exact Frag.In.keeps (by assumption) (Fr.keep (by k_asm))); (case k2 => exact Mine.news_acc (by k_asm) (by k_mem) (by k_mem)); (case k3 => k_is); (case k4 => k_is); (case k5 => rfl)) | (refine' Mine.acc_methodB (Mine.accF _ rfl) ?k1 ?k2 ?k3 ?k4 ?k5 ?_; (case k1 => exact Frag.In.keeps (by assumption) (Fr.keep (by k_asm))); (case k2 => exact Mine.news_acc (by k_asm) (by k_mem) (by k_mem)); (case k3 => k_is); (case k4 => k_is); (case k5 => rfl)))) | kla_enter)
  (try k_unfold)
  (try dsimp only)
  rw [hne]
  w_strict repeat' ((fail_if_success (with_reducible show wpAny _ _ (execs [] _) _ _ _)); kla_enter)
  · exfalso
    kst_p2
  walk1
  walk1
  (try dsimp only)
  walk1
  walk1
  refine ks_wpAt_MethodCall ?_
  w_strict repeat' ((fail_if_success (with_reducible show wpAny _ _ (call (Value.ref _) []) _ _ _)); first | (k_here; (with_reducible show wpAny _ _ (getMethod (Value.ref _) (PySem.Str.ofString "pop") _) _ _ _); k_dflt (refine' Mine.sup_pop (Mine.accF _ rfl) ?k1 ?k2 ?k3 ?k4 ?k5 ?k6 ?_; (case k1 => k_asm); (case k2 => k_asm); (case k3 => k_asm); (case k6 => k_mem); (case k4 => k_mem); (case k5 => k_mem)); intro _ _ _ _ l1; (try k_lt l1)) | (k_here; (with_reducible show wpAny _ _ (PySem.callWith _ (Value.ref _) _ _ _) _ _ _); k_dflt (first | (refine' Mine.callWith_b0 ?k1 ?k2 (.inr rfl) ?_; (case k1 => k_asm); (case k2 => k_mem)) | (refine' Mine.callWith_b0 ?k1 ?k2 (.inl rfl) ?_; (case k1 => k_asm); (case k2 => k_mem)))) | (ks_step "attributeBase Call"; k_here; k_dflt (refine ks_node (by k_asm) (by k_asm) (by k_asm) (by k_asm) (by k_is) (by rfl) (by rfl) (Mine.news_acc (by k_asm) (by k_mem) (by k_mem)) (by k_is) (by rfl) (by first | rfl | decide +kernel) (by k_is) (by k_is) (by k_is) (by k_is) (by decide) (by rfl) (by rfl) (by rfl) (by rfl) (by decide +kernel) (by first | boot_by_name | rfl | kernel_rfl) ?_; intro _ _ _ _ l1; (try k_lt l1))) | kla_enter)
  rename Fr gH LF _ _ => F2
  rename News gH LF _ _ => N2
  rename_i so _ _ _ lso qa _
  refine bound_pop (od := accD w 0 t1 t2) (parts := parts) (v := v) (n := n) (rest := (qa, { cls := .type "builtin_function_or_method", data := .fields #[.builtin "list.pop", .ref ac] }) :: (so, ks_superObj 178 ac 178) :: rest) (accF w rfl) X1 F2 (nsub N2 ?s9) ?h9 (.tail _ (.tail _ hda)) (.head _) (by kst_p2) ?_
  case s9 => kst_allIn
  case h9 =>
    refine Mine.fmc (Nat.ne_of_gt l1.2.1) (Mine.fmc (Nat.ne_of_gt lso.1) (fun q hq => ?_))
    · exact hap q hq
  intro h9 n9 F9 N9
  w_strict repeat' kla_enter
  exact hret _ _ n9 (by assumption) (nsub (by assumption) (by kst_allIn))
end
end Mine
end TCmeth

section TAcc4
open PySem PySem.W PyProof.Rows PySem.Spec PySem.Calls PySem.Builtin PySem.Builtin.ObjectAttr
set_option Elab.async false
set_option maxRecDepth 100000
set_option maxHeartbeats 4000000
set_option linter.unusedVariables false
namespace Mine
theorem acc_noseq (w : World) : PySem.Challenge.rw_ti0073_01 = PySem.Challenge.rw_ti0073_01 → noSeq (hd.heap_1 w.params) 178 = true := by
  k_fill
  intro _
  k_is
section
variable {prog : Program} {w : World} {A : Around} {E : Value → Shared → Prop} {s : Shared} {K : Frag} {x da sl : Addr} {ox : Obj} {od : Option Obj} {parts : Array Value} {n : Nat}
theorem acc_key {name : Str} {v : Value} {Q : Value → Shared → Prop} (X : K.In s.heap) (I : InstAt s.heap x ox 178 od) (hq : noSeq K 178 = true) (h : Q v s) : wpAny (model prog w) A (sequenceKey (.ref x) v name) Q E s := by
  unfold sequenceKey
  refine wpAny_bind (I.type.here ?_)
  refine wpAny_bind ((anyM_none X hq).here ?_)
  rw [if_pos (show (!false) = true from rfl)]
  exact wpAny_pure h
theorem acc_itemZ {k : Int} {u : Tok} {v : Value} {Q : Value → Shared → Prop} (C : AccF K) (X : K.In s.heap) (I : InstAt s.heap x ox 178 od) (hq : noSeq K 178 = true) (hd : ox.data = .seq parts n) (h0 : 0 ≤ k) (hfit : k < 2 ^ 63) (hv : parts[k.toNat]? = some v) (h : Q v s) : wpAny (model prog w) A (getItem (.ref x) (.int k u)) Q E s := by
  unfold getItem
  try with_reducible refine wpAny_holding ?_
  first | refine wpAny_bind (wpAny_pure ?_) | skip
  refine wpAny_bind (acc_key X I hq ?_)
  refine wpAny_bind (kfo_special X I C.getitem PySem.F.slot_list_getitem.bind ?_)
  refine acc_entry (n := "__getitem__") C X I (.inr (by decide +kernel)) (by decide +kernel) (by decide +kernel) PySem.F.entry_list_getitem (PySem.F.args_list_getitem_2 _ _) ?_
  show wpAny _ _ (Builtin.List.listSubscript? (.int k u) >>= _) _ _ s
  refine wpAny_bind (wpAny_listSubscript_int (fitsIndex_of h0 hfit) ?_)
  clear hfit
  obtain ⟨j, rfl⟩ := Int.eq_ofNat_of_zero_le h0
  have hv' : parts[j]? = some v := hv
  show wpAny _ _ ((seqItemAt x j >>= fun r => pure (r.map (j, ·))) >>= _) _ _ s
  refine wpAny_bind (wpAny_bind (wpAny_seqItemAt I.at_ hd (wpAny_pure ?_)))
  rw [hv']
  first
    | exact wpAny_bind (wpAny_pure (wpAny_pure ⟨v, rfl, wpAny_pure h⟩))
    | exact wpAny_pure ⟨v, rfl, wpAny_pure h⟩
theorem acc_slice {vl : Value} {lo : Option Int} {Q : Value → Shared → Prop} (C : AccF K) (X : K.In s.heap) (I : InstAt s.heap x ox 178 od) (hq : noSeq K 178 = true) (hd : ox.data = .seq parts n) (hs : s.heap.IsSliceOf sl vl .none .none) (pl : IsPart vl lo)
    (h : Q (.ref s.heap.objs.size) { s with heap := s.heap.push { cls := .type "list", data := .seq (slicePick parts lo none none) } }) (hsz : parts.size ≤ 100) : wpAny (model prog w) A (getItem (.ref x) (.ref sl)) Q E s := by
  refine Mine.gk ?_
  intro Gz9 kz9
  obtain ⟨os, hos, hcs, hds⟩ := id hs
  refine kz9 ?_
  (try clear kz9 Gz9)
  have hTs : s.TypeIs (.ref sl) "slice" := ⟨os, hos, hcs⟩
  unfold getItem
  try with_reducible refine wpAny_holding ?_
  first | refine wpAny_bind (wpAny_pure ?_) | skip
  refine wpAny_bind (acc_key X I hq ?_)
  refine wpAny_bind (kfo_special X I C.getitem PySem.F.slot_list_getitem.bind ?_)
  refine acc_entry (n := "__getitem__") C X I (.inr (by decide +kernel)) (by decide +kernel) (by decide +kernel) PySem.F.entry_list_getitem (PySem.F.args_list_getitem_2 _ _) ?_
  show wpAny _ _ (Builtin.List.listSubscript? (.ref sl) >>= _) _ _ s
  refine wpAny_bind ?_
  unfold Builtin.List.listSubscript?
  refine wpAny_bind (wpAny_specialOf hTs slice_no_index ?_)
  simp only [Option.isNone_none, if_true]
  refine wpAny_pure ?_
  show wpAny _ _ (typeOf (.ref sl) >>= _) _ _ s
  refine wpAny_bind (wpAny_typeOf hTs ?_)
  rw [if_neg (by decide), listSliceParts_eq]
  refine wpAny_bind (wpAny_bind (wpAny_field hos hds (x := .none) rfl (wpAny_bind (wpAny_listPart .none ?_))))
  rw [if_neg (show ¬ ((rawPart none == rawInt 0) = true) from Bool.false_ne_true)]
  refine wpAny_bind (wpAny_field hos hds (x := vl) rfl (wpAny_bind (wpAny_listPart pl ?_)))
  refine wpAny_bind (wpAny_field hos hds (x := .none) rfl (wpAny_bind (wpAny_listPart .none (wpAny_pure ?_))))
  refine wpAny_bind (m := Builtin.List.listItems (.ref x)) ?_
  unfold Builtin.List.listItems
  refine wpAny_bind (wpAny_seqItems I.at_ hd (wpAny_pure ?_))
  refine wpAny_bind (wpAny_of_eq (sliceIndices_raw lo none none parts.size (by simp)) ?_)
  exact wpAny_bind (wpAny_newObj_type (wpAny_pure ⟨_, rfl, wpAny_pure h⟩) (Nat.le_trans (slicePick_size_le parts lo none none) (by rw [sizeLine_eq]; kst_p2)))
theorem acc_tail {value slice : Expr} {i : Value} {Q : Value → Shared → Prop} (C : AccF K) (X : K.In s.heap) (I : InstAt s.heap x ox 178 od) (h : wpAny (model prog w) A (getItem (.ref x) i) Q E s)
    (hs : subscripted slice false (.ref x) i = operate [.ref x, i] (getItem (.ref x) i) ∨ subscripted slice false (.ref x) i = operate [i, .ref x] (getItem (.ref x) i)) : wpAny (model prog w) A (subscriptTail value slice (.ref x) i) Q E s := by
  unfold subscriptTail getitemInPython
  refine wpAny_bind (wpAny_bind (wpAny_bind (I.type.here ((looks_findIn X C.getitem).here ?_))))
  refine wpAny_pure (wpAny_bind ?_)
  rcases hs with hs | hs <;>
  · rw [hs]
    exact wpAny_operating (wpAny_mono h (fun r s₃ h₃ => wpAny_bind (wpAny_letTemporaryGo (wpAny_pure h₃))) fun _ _ z => z)
theorem acc_setslice {vl v : Value} {lo : Option Int} {b : Nat} {items : Array Value} {l : Addr} {Q : Unit → Shared → Prop} (C : AccF K) (X : K.In s.heap) (I : InstAt s.heap x ox 178 od) (hq : noSeq K 178 = true) (hd : ox.data = .seq parts n) (hs : s.heap.IsSliceOf sl vl .none .none) (pl : IsPart vl lo) (hlo : lo = none ∧ b = 0 ∨ lo = some (b : Int) ∧ b ≤ parts.size)
    (hl : s.heap.IsList l items) (hne : l ≠ x) (hsz : parts.size ≤ 100) (hiz : items.size ≤ 100)
    (h : Q () { s with heap := s.heap.update x (Obj.mapSeq fun xs => xs.extract 0 b ++ items ++ xs.extract parts.size xs.size) }) : wpAny (model prog w) A (setItem (.ref x) (.ref sl) (.ref l)) Q E s := by
  refine Mine.gk ?_
  intro Gz9 kz9
  obtain ⟨os, hos, hcs, hds⟩ := id hs
  refine kz9 ?_
  (try clear kz9 Gz9)
  have hTs : s.TypeIs (.ref sl) "slice" := ⟨os, hos, hcs⟩
  refine Mine.gk ?_
  intro Gz9 kz9
  obtain ⟨ol, hol, hcl, nl, hdl⟩ := id hl
  refine kz9 ?_
  (try clear kz9 Gz9)
  unfold setItem
  try with_reducible refine wpAny_holding ?_
  first | refine wpAny_bind (wpAny_pure ?_) | skip
  refine wpAny_bind (acc_key X I hq ?_)
  refine wpAny_bind (kfo_special X I C.setitem PySem.F.slot_list_setitem.bind ?_)
  refine acc_entry (n := "__setitem__") C X I (.inl (by decide +kernel)) (by decide +kernel) (by decide +kernel) PySem.F.entry_list_setitem (PySem.F.args_list_setitem_3 _ _ _) ?_
  show wpAny _ _ (Builtin.List.listSubscript? (.ref sl) >>= _) _ _ s
  refine wpAny_bind ?_
  unfold Builtin.List.listSubscript?
  refine wpAny_bind (wpAny_specialOf hTs slice_no_index ?_)
  simp only [Option.isNone_none, if_true]
  refine wpAny_pure ?_
  show wpAny _ _ (typeOf (.ref sl) >>= _) _ _ s
  refine wpAny_bind (wpAny_typeOf hTs ?_)
  rw [if_neg (by decide), listSliceParts_eq]
  refine wpAny_bind (wpAny_bind (wpAny_field hos hds (x := .none) rfl (wpAny_bind (wpAny_listPart .none ?_))))
  rw [if_neg (show ¬ ((rawPart none == rawInt 0) = true) from Bool.false_ne_true)]
  refine wpAny_bind (wpAny_field hos hds (x := vl) rfl (wpAny_bind (wpAny_listPart pl ?_)))
  refine wpAny_bind (wpAny_field hos hds (x := .none) rfl (wpAny_bind (wpAny_listPart .none (wpAny_pure ?_))))
  rw [if_neg (show ¬ (Builtin.List.listSameRef (.ref x) (.ref l) = true) from fun z => hne (beq_iff_eq.mp z).symm)]
  unfold Builtin.List.listAllItems
  refine wpAny_bind (wpAny_bind (wpAny_typeOf hl.typeIs ?_))
  rw [if_pos (by decide)]
  unfold Builtin.List.listItems
  refine wpAny_bind (wpAny_seqItems hol hdl (wpAny_pure ?_))
  have hb : sliceBounds lo none none parts.size = ((b : Int), (parts.size : Int), 1) := by
    rcases hlo with ⟨rfl, rfl⟩ | ⟨rfl, hb⟩
    · rfl
    · have h1 : ¬ ((b : Int) < 0) := by kst_p2
      have h2 : min (b : Int) (parts.size : Int) = b := by kst_p2
      have h3 : max 0 (b : Int) = b := by kst_p2
      unfold sliceBounds
      simp only [Option.getD_none, if_neg h1, h2, h3, show ((1 : Int) > 0) = True from by simp, if_true]
  refine wpAny_bind (wpAny_bind (wpAny_seqItems I.at_ hd (wpAny_pure ?_)))
  refine wpAny_bind (wpAny_of_eq ((sliceIndices_raw lo none none parts.size (by simp)).trans (congrArg pure hb)) ?_)
  dsimp only
  have hbs : b ≤ parts.size := by rcases hlo with ⟨_, rfl⟩ | ⟨_, hb⟩ <;> kst_p2
  have hmx : (max (b : Int) (parts.size : Int)).toNat = parts.size := by kst_p2
  have hbn : (b : Int).toNat = b := by kst_p2
  rw [if_pos (by decide)]
  refine wpAny_bind (wpAny_rule ?_)
  rw [if_neg (by unfold Builtin.List.listTooLong; rw [sizeLine_eq]; simp; kst_p2)]
  rw [hmx, hbn]
  refine wpAny_bind (m := Builtin.List.listUpdate (.ref x) _) ?_
  unfold Builtin.List.listUpdate
  refine wpAny_updateSeq I.at_ hd ?_ (by rw [sizeLine_eq]; kst_p2) (by simp; rw [sizeLine_eq]; kst_p2)
  refine wpAny_bind (wpAny_letGo ?_)
  exact wpAny_pure ⟨_, rfl, wpAny_pure h⟩
theorem refuse_acc (self : Value) : refuseLoop self "__setattr__" [.ref 178, .type "list", .type "object"] = pure () := by
  rw [refuseLoop_ref]
  have e : refuseLoop self "__setattr__" [.type "list", .type "object"] = refuseLoop self "__setattr__" [.type "object"] := by
    unfold refuseLoop
    simp only [List.forIn_cons]
    rfl
  rw [e]
  exact PySem.F.store_object.passes self
theorem osa_accOpen {name : Str} {tk : Tok} {v : Value} {r : Option Value} {R : Except Value Flow → Shared → Prop} (C : AccF K) (X : K.In s.heap) (I : InstAt s.heap x ox 178 od) (ht : takerIn K 178 name = some r)
    (h : ∀ b, wpAny (model prog w) A.in1 (match r with | some a => setByDescriptor a (.ref x) v | none => storeInOwnDict (.ref x) (.ref 178) (.str name tk) name v b)
      (fun fin s' => match fin with | .done f => R (.ok f) s' | .again c' => c'.quiet = true ∧ codeAny (model prog w) A c' R s') (fun e s' => R (.error e) s') s) :
    codeAny (model prog w) A (.call (.builtin "object.__setattr__") ⟨[.ref x, .str name tk, v], []⟩) R s := by
  have SF := PySem.F.store_object
  refine Mine.gk ?_
  intro Gz9 kz9
  obtain ⟨cd, hc, ho, _⟩ := C.cls
  refine kz9 ?_
  (try clear kz9 Gz9)
  refine codeAny_call_builtin SF.slot.plain SF.entry (@check_slot (model prog w) _ _ s "object.__setattr__" "object" "__setattr__" (.ref x) [.str name tk, v] [] _ SF.kind SF.split (acc_isObj C X I) (SF.args (.ref x) (.str name tk) v) ?_)
  obtain ⟨attr, ha, hr⟩ := Option.bind_eq_some_iff.mp ht
  have hm : Looks (model prog w) s.heap (mroOf (.ref 178)) cd.mro := (looks_clsIn X hc).andThen .now
  have L3 : Looks (model prog w) s.heap (storeTaker? attr) r := by
    cases attr with
    | none => cases hr; exact .now
    | some a =>
      obtain ⟨b, hb, rfl⟩ := Option.map_eq_some_iff.mp hr
      refine (looks_takesIn X hb).andThen ?_
      cases b <;> exact .now
  rw [osa_eq, refuse_eq]
  refine wpAny_bind (wpAny_bind (I.type.here (wpAny_bind (hm.here ?_))))
  rw [ho, refuse_acc]
  refine wpAny_pure (wpAny_bind (I.type.here (wpAny_bind ((looks_findIn X ha).here (wpAny_bind (L3.here ?_))))))
  exact h _
theorem osa_accDict {h₀ : Heap} {L : Addr} {m : Str → Option Value} {dx : Addr} {name : Str} {tk : Tok} {v : Value} {pre post : List (Addr × Obj)} {od od' : Obj} {es : List DictEntry} {n : Nat} {R : Except Value Flow → Shared → Prop} (C : AccF K) (F : Fr h₀ L s.heap m) (N : News h₀ L s.heap (pre ++ (dx, od) :: post)) (X : K.In s.heap)
    (I : InstAt s.heap x ox 178 (some od)) (hd : ox.dict = some dx) (ht : takerIn K 178 name = some none)
    (hl : (lookIn name od).isSome = true) (h1 : ∀ p ∈ pre, p.1 ≠ dx) (h2 : ∀ p ∈ post, p.1 ≠ dx)
    (e : Obj.putName name (PyData.keyHash w.params name) (.str name s.toks) v od = od') (e' : od'.data = .dict es.toArray n) (hz : es.length ≤ 1000)
    (h : ∀ h', Fr h₀ L h' m → News h₀ L h' (pre ++ (dx, od') :: post) → R (.ok (.ret .none)) { s with heap := h', toks := s.toks + 1 }) :
    codeAny (model prog w) A (.call (.builtin "object.__setattr__") ⟨[.ref x, .str name tk, v], []⟩) R s := by
  refine osa_accOpen C X I ht fun b => ?_
  refine Mine.gk ?_
  intro Gz9 kz9
  obtain ⟨cd, hc, _, hd', _⟩ := C.cls
  refine kz9 ?_
  (try clear kz9 Gz9)
  obtain ⟨U1, U2⟩ := news_upd (f := Obj.putName name (PyData.keyHash w.params name) (.str name s.toks) v) F N h1 h2 e (by obtain ⟨_, _, dd, _⟩ := od'; cases e'; rfl)
  have D := (N (dx, od) (by simp)).1
  have D' := (U2 (dx, od') (by simp)).1
  refine Mine.gk ?_
  intro Gz9 kz9
  obtain ⟨hx, hcl, hn, -⟩ := I
  refine kz9 ?_
  (try clear kz9 Gz9)
  refine Mine.gk ?_
  intro Gz9 kz9
  obtain ⟨oc, odi, oda, osl⟩ := ox
  refine kz9 ?_
  (try clear kz9 Gz9)
  dsimp only at hcl hd
  subst hcl hd
  refine wpAny_bind (wpAny_pure (wpAny_bind (wpAny_bind (wpAny_loadPart hx (wpAny_bind ((looks_clsIn X hc).here ?_))))))
  rw [hd']
  refine wpAny_pure (a := some dx) (wpAny_bind (wpAny_pure (wpAny_bind ?_)))
  unfold nsSet
  refine wpAny_bind (wpAny_bind (wpAny_askSetting (wpAny_pure (wpAny_bind (wpAny_mkText (wpAny_bind (wpAny_loadPart D ?_)))))))
  unfold lookIn at hl
  split at hl
  · rename_i es₀ n₀ q
    rw [q]
    dsimp only
    have c : (!es₀.any (·.key.isStr name) && es₀.any (·.refKey)) = false := by
      rw [← Array.any_toList, ← Array.any_toList]
      split at hl
      · rename_i en he
        rw [List.any_eq_true.mpr ⟨en, List.mem_of_find?_eq_some he, List.find?_some he⟩]; rfl
      · split at hl
        · cases hl
        · rename_i z; rw [Bool.not_eq_true] at z; rw [z, Bool.and_false]
    rw [aRefKeyMayBeTheName_at, c]
    refine wpAny_updatePart D ?_
    refine wpAny_bind (wpAny_lookBehind D' (by rw [e']; exact pastItsLine_dict (by rw [List.size_toArray, sizeLine_eq]; kst_p2)) ?_)
    exact wpAny_pure (h _ U1 U2)
  · cases hl
theorem acc_store {h₀ : Heap} {L : Addr} {m : Str → Option Value} {dx : Addr} {name : Str} {v : Value} {pre post : List (Addr × Obj)} {od od' : Obj} {es : List DictEntry} {n : Nat} {Q : Unit → Shared → Prop} (C : AccF K) (F : Fr h₀ L s.heap m) (N : News h₀ L s.heap (pre ++ (dx, od) :: post)) (X : K.In s.heap)
    (I : InstAt s.heap x ox 178 (some od)) (hd : ox.dict = some dx) (ht : takerIn K 178 name = some none)
    (hl : (lookIn name od).isSome = true) (h1 : ∀ p ∈ pre, p.1 ≠ dx) (h2 : ∀ p ∈ post, p.1 ≠ dx)
    (e : Obj.putName name (PyData.keyHash w.params name) (.str name (s.toks + 1)) v od = od') (e' : od'.data = .dict es.toArray n) (hz : es.length ≤ 1000)
    (h : ∀ h', Fr h₀ L h' m → News h₀ L h' (pre ++ (dx, od') :: post) → Q () { s with heap := h', toks := s.toks + 1 + 1 }) :
    wpAny (model prog w) A (setAttr (.ref x) name v) Q E s :=
  set_plain X I C.sa (osa_accDict (s := { s with toks := s.toks + 1 }) C F N X I hd ht hl h1 h2 e e' hz h)
end
end Mine
end TAcc4

section TCpop
open PySem PySem.W PyProof.Rows PySem.Spec PySem.Calls
set_option Elab.async false
set_option maxRecDepth 100000
set_option maxHeartbeats 4000000
set_option linter.unusedVariables false
set_option linter.unusedSimpArgs false

namespace Mine
section
variable {prog : Program} {w : World} {A : Around} {E : Value → Shared → Prop} {s : Shared} {K : Frag} {x da : Addr} {parts : List Value} {n : Nat} {od : Obj} {h₀ : Heap} {L : Addr} {m : Str → Option Value} {news : List (Addr × Obj)}
theorem acc_sliceK {value slice : Expr} {vl : Value} {lo : Option Int} {zs : List Value} {Q : Value → Shared → Prop} (C : AccF K) (hq : noSeq K 178 = true) (X₀ : K.In h₀) (F : Fr h₀ L s.heap m) (N : News h₀ L s.heap news) (hx : (x, accO da parts n) ∈ news) (hda : (da, od) ∈ news) (pl : IsPart vl lo) (hz : parts.length ≤ 100) (e : slicePick parts.toArray lo none none = zs.toArray)
    (hs : subscripted slice false (.ref x) (.ref s.heap.objs.size) = operate [.ref s.heap.objs.size, .ref x] (getItem (.ref x) (.ref s.heap.objs.size)))
    (h : ∀ D h', Fr h₀ L h' m → News h₀ L h' ((D, listOf zs.toArray 0) :: news) → (∀ p ∈ news, p.1 < D) → Q (.ref D) { s with heap := h' }) :
    wpAny (model prog w) A (subscriptTail value slice (.ref x) (.ref s.heap.objs.size)) Q E { s with heap := s.heap.push { cls := .type "slice", data := .fields #[vl, .none, .none] } } := by
  have F1 : Fr h₀ L (s.heap.push { cls := .type "slice", data := .fields #[vl, .none, .none] }) m := F.push _
  have N1 : News h₀ L (s.heap.push { cls := .type "slice", data := .fields #[vl, .none, .none] }) news := News.pushKeep N _
  have hsl := Heap.IsSliceOf.new s.heap vl .none .none
  have hlt : ∀ p ∈ news, p.1 < s.heap.objs.size := fun p hp => Heap.lt_size (N p hp).1
  generalize eT : s.heap.push { cls := .type "slice", data := .fields #[vl, .none, .none] } = H at F1 N1 hsl ⊢
  refine acc_tail (s := { s with heap := H }) C (X₀.keeps F1.keep) (news_acc (s := { s with heap := H }) N1 hx hda) ?_ (.inr hs)
  refine acc_slice (s := { s with heap := H }) (parts := parts.toArray) (n := n) C (X₀.keeps F1.keep) (news_acc (s := { s with heap := H }) N1 hx hda) hq rfl hsl pl ?_ (by simpa using hz)
  rw [e]
  refine h _ _ (F1.push _) (News.push F1 N1 _ rfl) fun p hp => ?_
  exact Heap.lt_size (N1 p hp).1
theorem acc_setK {vl : Value} {lo : Option Int} {b : Nat} {items zs : List Value} {l : Addr} {k : Nat} {rest : List (Addr × Obj)} {Q : Unit → Shared → Prop} (C : AccF K) (hq : noSeq K 178 = true) (X₀ : K.In h₀) (F : Fr h₀ L s.heap m) (N : News h₀ L s.heap ((x, accO da parts n) :: rest)) (hap : ∀ q ∈ rest, q.1 ≠ x) (hda : (da, od) ∈ rest) (hl : (l, listOf items.toArray k) ∈ rest) (pl : IsPart vl lo) (hlo : lo = none ∧ b = 0 ∨ lo = some (b : Int) ∧ b ≤ parts.length) (hz : parts.length ≤ 100) (hz' : items.length ≤ 100) (e : parts.take b ++ items = zs)
    (h : ∀ n' h', Fr h₀ L h' m → News h₀ L h' ((x, accO da zs n') :: rest) → Q () { s with heap := h' }) :
    wpAny (model prog w) A (setItem (.ref x) (.ref s.heap.objs.size) (.ref l)) Q E { s with heap := s.heap.push { cls := .type "slice", data := .fields #[vl, .none, .none] } } := by
  have F1 : Fr h₀ L (s.heap.push { cls := .type "slice", data := .fields #[vl, .none, .none] }) m := F.push _
  have N1 : News h₀ L (s.heap.push { cls := .type "slice", data := .fields #[vl, .none, .none] }) ((x, accO da parts n) :: rest) := News.pushKeep N _
  have hsl := Heap.IsSliceOf.new s.heap vl .none .none
  generalize eT : s.heap.push { cls := .type "slice", data := .fields #[vl, .none, .none] } = H at F1 N1 hsl ⊢
  refine acc_setslice (s := { s with heap := H }) (v := .none) (parts := parts.toArray) (n := n) (b := b) (items := items.toArray) C (X₀.keeps F1.keep) (news_acc (s := { s with heap := H }) N1 (.head _) (.tail _ hda)) hq rfl hsl pl (by simpa using hlo) (N1.isList (.tail _ hl)) (hap _ hl) (by simpa using hz) (by simpa using hz') ?_
  obtain ⟨F', N'⟩ := head_upd (s := { s with heap := H }) (f := Obj.mapSeq fun xs => xs.extract 0 b ++ items.toArray ++ xs.extract parts.toArray.size xs.size) (o' := accO da zs (if zs.toArray.size == parts.toArray.size then n else n + 1)) F1 N1 hap (by
    unfold Obj.mapSeq
    dsimp only
    have ea : parts.toArray.extract 0 b ++ items.toArray ++ parts.toArray.extract parts.toArray.size parts.toArray.size = zs.toArray := by
      rw [← e]
      apply Array.ext'
      simp
    rw [ea]) (by unfold Obj.mapSeq; rfl)
  exact h _ _ F' N'
theorem pick21 (v1 v2 : Value) : slicePick #[v1, v2] (some 1) none none = #[v2] := by
  have e : sliceRange (sliceBounds (some 1) none none 2).1 (sliceBounds (some 1) none none 2).2.1 (sliceBounds (some 1) none none 2).2.2 = [1] := by decide +kernel
  unfold slicePick
  show ((sliceRange (sliceBounds (some 1) none none 2).1 (sliceBounds (some 1) none none 2).2.1 (sliceBounds (some 1) none none 2).2.2).filterMap (#[v1, v2][·]?)).toArray = _
  rw [e]
  rfl
end
section
variable {w : World} {mean : ExcName → Option Value} {mg mb : Str → Option Value} {dp un : Nat} {gd : Option (List Code)} {cn : Str} {cs : Scope} {a : Addr} {ccd : Value} {cl : List (Str × Addr)} {outer : List Env} {A₀ : Around} {base h₀ : Heap} {L : Addr} {m : Str → Option Value} {news : List (Addr × Obj)} {s : Shared} {Q E : Value → Shared → Prop}

theorem popf_spec {rest : List (Addr × Obj)} {ac da : Addr} {v1 v2 : Value} {n : Nat} {t1 t2 t3 : Tok} (C : Cx w mean mg mb cs outer A₀ base h₀ L m ((ac, accO da [v1, v2] n) :: rest) s) (hd1 : dp + 5 < recursionLimit) (hu : un + 100 < cLine) (hap : ∀ q ∈ rest, q.1 ≠ ac) (hda : (da, accD w 0 t1 t2) ∈ rest)
    (hret : ∀ h' tk' p n', Fr h₀ L h' m → News h₀ L h' ((ac, accO da [v1] n') :: (p, listOf #[v2] 0) :: rest) → (∀ q ∈ rest, q.1 < p) → ac < p → Q (.ref p) { s with heap := h', toks := tk' }) :
    wpAny (model PySem.Challenge.rw_ti0073_01.row.prog w) (ktrTop dp un gd cn cs L a ccd cl outer) (call (.ref 130) [.ref ac, .int 1 t3]) Q E s := by
  w_top off
  obtain ⟨B, F, X, N, T, hk⟩ := C
  revert X
  k_fill
  intro X
  k_dflt (refine' enter (binds := [(Str.ofString "self", .ref ac), (Str.ofString "i", .int 1 t3)]) B F X N T hk ?k6 ?k7 ?k8 ?k9 ?kB ?_ ?c2 ?c3 ?c4 ?c5; (case k6 => k_is); (case k7 => k_is); (case k8 => kst_p2); (case k9 => first | exact BindsTo.of_eq rfl | exact binds_K (by k_in) rfl (by k_is) rfl rfl rfl); (case c5 => decide); (case kB => exact locs rfl); (case c2 => exact rfl); (case c3 => exact rfl); (case c4 => exact rfl))
  intro gH LF hF FG F1 N1 B1 X1 T1 lL
  simp only [List.reverse_cons, List.reverse_nil, List.nil_append, List.cons_append] at F1
  (try k_fold)
  (try (with_reducible refine (let A9 : PySem.Around := _; let e9 : PySem.Env := _; (?_ : PySem.wpAny _ A9 (PySem.execs _ e9) _ _ _))))
  w_strict repeat' ((fail_if_success (with_reducible show wpAny _ _ (subscriptTail _ _ _ _) _ _ _)); (fail_if_success (with_reducible show wpAny _ _ (compareOp _ _ _) _ _ _)); kla_enter)
  rename Fr gH LF _ _ => F2
  rename News gH LF _ _ => N2
  refine acc_sliceK (zs := [v2]) (parts := [v1, v2]) (n := n) (accF w rfl) (acc_noseq w rfl) X1 F2 N2 (.head _) (.tail _ hda) (.int 1 _) (by simp) (pick21 _ _) rfl ?_
  intro pA hA FA NA lA
  w_strict repeat' ((fail_if_success (with_reducible show wpAny _ _ (setItem _ _ _) _ _ _)); kla_enter)
  rename Fr gH LF _ _ => F3
  rename News gH LF _ _ => N3
  rename_i _ lB _ lB1
  have hap2 : ∀ q ∈ (lB, listOf #[] 0) :: (pA, listOf #[v2] 0) :: rest, q.1 ≠ ac := by
    refine Mine.fmc (Nat.ne_of_gt lB1.2.1) (fun q hq => ?_)
    · (try k_fold)
      rcases List.mem_cons.mp hq with rfl | hq
      · exact Nat.ne_of_gt (lA _ (.head _))
      · exact hap q hq
  refine acc_setK (parts := [v1, v2]) (n := n) (b := 1) (items := []) (k := 0) (lo := some 1) (zs := [v1]) (rest := (lB, listOf #[] 0) :: (pA, listOf #[v2] 0) :: rest) (accF w rfl) (acc_noseq w rfl) X1 F3 (nsub N3 ?s9) hap2 (.tail _ (.tail _ hda)) (.head _) (.int 1 _) (.inr ⟨rfl, by simp⟩) (by simp) (by simp) rfl ?_
  case s9 => kst_allIn
  intro nC hC FC NC
  w_strict repeat' kla_enter
  exact hret _ _ pA nC (by assumption) (nsub (by assumption) (by kst_allIn)) (fun q hq => lA q (.tail _ hq)) (lA _ (.head _))
end
end Mine
end TCpop

section TCreset
open PySem PySem.W PyProof.Rows PySem.Spec PySem.Calls
set_option Elab.async false
set_option maxRecDepth 100000
set_option maxHeartbeats 4000000
set_option linter.unusedVariables false
set_option linter.unusedSimpArgs false

namespace Mine
section
variable {w : World} {mean : ExcName → Option Value} {mg mb : Str → Option Value} {dp un : Nat} {gd : Option (List Code)} {cn : Str} {cs : Scope} {a : Addr} {ccd : Value} {cl : List (Str × Addr)} {outer : List Env} {A₀ : Around} {base h₀ : Heap} {L : Addr} {m : Str → Option Value} {news : List (Addr × Obj)} {s : Shared} {Q E : Value → Shared → Prop}

theorem reset_spec {rest : List (Addr × Obj)} {ac da l : Addr} {parts items : List Value} {n k : Nat} {t1 t2 : Tok} (C : Cx w mean mg mb cs outer A₀ base h₀ L m ((ac, accO da parts n) :: (da, accD w 0 t1 t2) :: rest) s) (hd1 : dp + 5 < recursionLimit) (hu : un + 100 < cLine) (hne : da ≠ ac) (hap : ∀ q ∈ rest, q.1 ≠ ac) (hap2 : ∀ q ∈ rest, q.1 ≠ da) (hl : (l, listOf items.toArray k) ∈ rest) (hz : parts.length ≤ 100) (hz' : items.length ≤ 100)
    (hret : ∀ h' tk' n' t2', Fr h₀ L h' m → News h₀ L h' ((ac, accO da items n') :: (da, accD w 0 t1 t2') :: rest) → Q .none { s with heap := h', toks := tk' }) :
    wpAny (model PySem.Challenge.rw_ti0073_01.row.prog w) (ktrTop dp un gd cn cs L a ccd cl outer) (call (.ref 160) [.ref ac, .ref l]) Q E s := by
  w_top off
  obtain ⟨B, F, X, N, T, hk⟩ := C
  revert X
  k_fill
  intro X
  k_dflt (refine' enter (binds := [(Str.ofString "self", .ref ac), (Str.ofString "startval", .ref l)]) B F X N T hk ?k6 ?k7 ?k8 ?k9 ?kB ?_ ?c2 ?c3 ?c4 ?c5; (case k6 => k_is); (case k7 => k_is); (case k8 => kst_p2); (case k9 => first | exact BindsTo.of_eq rfl | exact binds_K (by k_in) rfl (by k_is) rfl rfl rfl); (case c5 => decide); (case kB => exact locs rfl); (case c2 => exact rfl); (case c3 => exact rfl); (case c4 => exact rfl))
  intro gH LF hF FG F1 N1 B1 X1 T1 lL
  simp only [List.reverse_cons, List.reverse_nil, List.nil_append, List.cons_append] at F1
  (try k_fold)
  (try (with_reducible refine (let A9 : PySem.Around := _; let e9 : PySem.Env := _; (?_ : PySem.wpAny _ A9 (PySem.execs _ e9) _ _ _))))
  w_strict repeat' ((fail_if_success (with_reducible show wpAny _ _ (setItem _ _ _) _ _ _)); kla_enter)
  rename Fr gH LF _ _ => F3
  rename News gH LF _ _ => N3
  have hap3 : ∀ q ∈ (da, accD w 0 t1 t2) :: rest, q.1 ≠ ac := by
    refine Mine.fmc (hne) (fun q hq => ?_)
    · exact hap q hq
  refine acc_setK (parts := parts) (n := n) (b := 0) (items := items) (k := k) (lo := none) (zs := items) (rest := (da, accD w 0 t1 t2) :: rest) (accF w rfl) (acc_noseq w rfl) X1 F3 (nsub N3 ?s9) hap3 (.head _) (.tail _ hl) .none (.inl ⟨rfl, rfl⟩) hz hz' rfl ?_
  case s9 => kst_allIn
  intro nC hC FC NC
  w_strict repeat' ((fail_if_success (with_reducible show wpAny _ _ (setAttr _ _ _) _ _ _)); kla_enter)
  (try dsimp only)
  refine acc_store (accF w rfl) (pre := [(ac, accO da items nC)]) (post := rest) (dx := da) (od := accD w 0 t1 t2) (od' := accD w 0 t1 _) (n := 1) FC (nsub NC ?s9) (X1.keeps FC.keep) (news_acc NC (.head _) (.tail _ (.head _))) rfl (accF w rfl).taker rfl ?p1 hap2 rfl rfl (by simp) ?_
  case s9 => kst_allIn
  case p1 =>
    refine Mine.fmc (fun z => hne z.symm) (fun q hq => ?_)
    · (try k_fold)
      cases hq
  intro hD FD ND
  w_strict repeat' kla_enter
  exact hret _ _ nC _ (by assumption) (by assumption)
theorem reset0_spec {rest : List (Addr × Obj)} {ac da : Addr} {parts : List Value} {n : Nat} {t1 t2 : Tok} (C : Cx w mean mg mb cs outer A₀ base h₀ L m ((ac, accO da parts n) :: (da, accD w 0 t1 t2) :: rest) s) (hd1 : dp + 5 < recursionLimit) (hu : un + 100 < cLine) (hne : da ≠ ac) (hap : ∀ q ∈ rest, q.1 ≠ ac) (hap2 : ∀ q ∈ rest, q.1 ≠ da) (hz : parts.length ≤ 100)
    (hret : ∀ h' tk' n' t2', Fr h₀ L h' m → News h₀ L h' ((ac, accO da [] n') :: (da, accD w 0 t1 t2') :: rest) → Q .none { s with heap := h', toks := tk' }) :
    wpAny (model PySem.Challenge.rw_ti0073_01.row.prog w) (ktrTop dp un gd cn cs L a ccd cl outer) (call (.ref 160) [.ref ac]) Q E s := by
  w_top off
  obtain ⟨B, F, X, N, T, hk⟩ := C
  revert X
  k_fill
  intro X
  k_dflt (refine' enter (binds := [(Str.ofString "self", .ref ac), (Str.ofString "startval", .none)]) B F X N T hk ?k6 ?k7 ?k8 ?k9 ?kB ?_ ?c2 ?c3 ?c4 ?c5; (case k6 => k_is); (case k7 => k_is); (case k8 => kst_p2); (case k9 => first | exact BindsTo.of_eq rfl | exact binds_K (by k_in) rfl (by k_is) rfl rfl rfl); (case c5 => decide); (case kB => exact locs rfl); (case c2 => exact rfl); (case c3 => exact rfl); (case c4 => exact rfl))
  intro gH LF hF FG F1 N1 B1 X1 T1 lL
  simp only [List.reverse_cons, List.reverse_nil, List.nil_append, List.cons_append] at F1
  (try k_fold)
  (try (with_reducible refine (let A9 : PySem.Around := _; let e9 : PySem.Env := _; (?_ : PySem.wpAny _ A9 (PySem.execs _ e9) _ _ _))))
  w_strict repeat' ((fail_if_success (with_reducible show wpAny _ _ (setItem _ _ _) _ _ _)); kla_enter)
  rename Fr gH LF _ _ => F3
  rename News gH LF _ _ => N3
  rename_i lB _ lB1 _
  have hap3 : ∀ q ∈ (da, accD w 0 t1 t2) :: (lB, listOf #[] 0) :: rest, q.1 ≠ ac := by
    refine Mine.fmc (hne) (fun q hq => ?_)
    · (try k_fold)
      rcases List.mem_cons.mp hq with rfl | hq
      · exact Nat.ne_of_gt lB1.1
      · exact hap q hq
  refine acc_setK (parts := parts) (n := n) (b := 0) (items := []) (k := 0) (lo := none) (zs := []) (rest := (da, accD w 0 t1 t2) :: (lB, listOf #[] 0) :: rest) (accF w rfl) (acc_noseq w rfl) X1 F3 (nsub N3 ?s9) hap3 (.head _) (.tail _ (.head _)) .none (.inl ⟨rfl, rfl⟩) hz (by simp) rfl ?_
  case s9 => kst_allIn
  intro nC hC FC NC
  w_strict repeat' ((fail_if_success (with_reducible show wpAny _ _ (setAttr _ _ _) _ _ _)); kla_enter)
  (try dsimp only)
  refine acc_store (accF w rfl) (pre := [(ac, accO da [] nC)]) (post := (lB, listOf #[] 0) :: rest) (dx := da) (od := accD w 0 t1 t2) (od' := accD w 0 t1 _) (n := 1) FC (nsub NC ?s9) (X1.keeps FC.keep) (news_acc NC (.head _) (.tail _ (.head _))) rfl (accF w rfl).taker rfl ?p1 ?p2 rfl rfl (by simp) ?_
  case s9 => kst_allIn
  case p1 =>
    refine Mine.fmc (fun z => hne z.symm) (fun q hq => ?_)
    · (try k_fold)
      cases hq
  case p2 =>
    refine Mine.fmc (Nat.ne_of_gt lB1.2.1) (fun q hq => ?_)
    · exact hap2 q hq
  intro hD FD ND
  w_strict repeat' kla_enter
  rename News h₀ L _ _ => N9
  obtain ⟨tK, N9'⟩ : ∃ tK, News h₀ L _ ((ac, accO da [] nC) :: (da, accD w 0 t1 tK) :: (lB, listOf #[] 0) :: rest) := ⟨_, N9⟩
  exact hret _ _ nC tK (by assumption) (nsub N9' (by kst_allIn))
end
end Mine
end TCreset

section TCows
open PySem PySem.W PyProof.Rows PySem.Spec PySem.Calls
set_option Elab.async false
set_option maxRecDepth 100000
set_option maxHeartbeats 4000000
set_option linter.unusedVariables false
set_option linter.unusedSimpArgs false

namespace Mine
section
variable {prog : Program} {w : World} {A : Around} {E : Value → Shared → Prop} {s : Shared} {K : Frag} {x da : Addr} {parts : List Value} {n : Nat} {od : Obj} {h₀ : Heap} {L : Addr} {m : Str → Option Value} {news : List (Addr × Obj)}
theorem lenOf_le : ∀ pps : List (Str × Str), (∀ q ∈ pps, q.1.length ≤ 100 ∧ q.2.length ≤ 100) → lenOf pps ≤ 200 * pps.length := by
  intro pps
  induction pps with
  | nil => exact fun _ => Nat.zero_le _
  | cons p r ih =>
    intro h
    have h1 := h p (.head _)
    have h2 := ih fun q hq => h q (.tail _ hq)
    unfold lenOf at h2 ⊢
    rw [List.map_cons, List.sum_cons, List.length_cons]
    kst_p2
noncomputable def TruthBack (Q : Bool → Shared → Prop) (v : Value) (s' : Shared) : Prop := match v with
  | .int n _ => (0 ≤ n ∧ n < 2 ^ 63) ∧ Q (n != 0) { s' with toks := s'.toks + 1 }
  | _ => False
theorem truthy_accL {Q : Bool → Shared → Prop} (C : AccF K) (X₀ : K.In h₀) (F : Fr h₀ L s.heap m) (N : News h₀ L s.heap news) (hx : (x, accO da parts n) ∈ news) (hda : (da, od) ∈ news)
    (h : wpAny (model prog w) A.in1 (call (.ref 145) [.ref x]) (TruthBack Q) E s) : wpAny (model prog w) A (truthy (.ref x)) Q E s := by
  have I := news_acc N hx hda
  have X := X₀.keeps F.keep
  unfold truthy
  refine wpAny_bind (m := callSpecial? (.ref x) (Str.ofString "__bool__")) (wpAny_bind (wpAny_bind (I.type.here ((looks_findIn X C.nobool).here (wpAny_pure ?_)))))
  refine wpAny_bind (wpAny_bind (I.type.here ((looks_findIn X C.len).here ?_)))
  rw [if_neg (by simp)]
  have key : wpAny (model prog w) A (runValue (.builtin "len" ⟨[.ref x], []⟩)) (fun r s' => ∃ n u, r = .int n u ∧ Q (n != 0) s') E s := by
    refine wpAny_runValue (codeAny_builtin entry_len ?_)
    rw [Around.under_plainId plain_len _]
    unfold Builtin.«len»
    refine wpAny_bind (m := oneArg "len" _) (wpAny_pure ?_)
    refine wpAny_bind (m := callSpecial? (.ref x) (Str.ofString "__len__")) (special_fn X I C.len (beq_iff_eq.mp C.f145) (wpAny_mono h (fun r s' hr => ?_) fun _ _ y => y))
    (try k_fold)
    cases r <;> first | exact hr.elim | skip
    rename_i n u
    obtain ⟨⟨h0, h1⟩, hq⟩ := hr
    refine wpAny_bind (wpAny_holding (wpAny_pure ?_))
    refine wpAny_bind (wpAny_letGo ?_)
    show wpAny _ _ (if n < 0 then _ else _) _ _ _
    rw [if_neg (by kst_p2)]
    show wpAny _ _ (if n ≥ 2 ^ 63 then _ else _) _ _ _
    rw [if_neg (by kst_p2)]
    exact wpAny_bind (wpAny_mkInt (wpAny_pure ⟨_, _, rfl, hq⟩))
  refine wpAny_bind (wpAny_mono key (fun r s' hr => ?_) fun _ _ z => z)
  (try k_fold)
  first | (refine Mine.ex_2 hr ?_; (try clear hr); rintro n u h9E; refine Mine.cj_2 h9E ?_; clear h9E; rintro rfl hq) | (obtain ⟨n, u, rfl, hq⟩ := hr)
  exact wpAny_pure hq
theorem len_acc {Q : Value → Shared → Prop} (C : AccF K) (X₀ : K.In h₀) (F : Fr h₀ L s.heap m) (N : News h₀ L s.heap news) (hx : (x, accO da parts n) ∈ news) (hda : (da, od) ∈ news)
    (h : wpAny (model prog w) A.in1 (call (.ref 145) [.ref x]) (W.LenBack Q) E s) : wpAny (model prog w) A (call (.builtin "len") [.ref x]) Q E s :=
  len_K F X₀ (news_acc N hx hda) C.len C.f145 h
theorem str_acc {Q : Value → Shared → Prop} (hu : A.in1.in1.units < cLine) (C : AccF K) (X₀ : K.In h₀) (F : Fr h₀ L s.heap m) (N : News h₀ L s.heap news) (hx : (x, accO da parts n) ∈ news) (hda : (da, od) ∈ news)
    (h : wpAny (model prog w) A.in1.in1 (call (.ref 152) [.ref x]) (W.StrBack Q) E s) : wpAny (model prog w) A (call (.type "str") [.ref x]) Q E s :=
  kso_call hu (X₀.keeps F.keep) (news_acc N hx hda) C.str C.f152 h
end
section
variable {w : World} {mean : ExcName → Option Value} {mg mb : Str → Option Value} {dp un : Nat} {gd : Option (List Code)} {cn : Str} {cs : Scope} {a : Addr} {ccd : Value} {cl : List (Str × Addr)} {outer : List Env} {A₀ : Around} {base h₀ : Heap} {L : Addr} {m : Str → Option Value} {news : List (Addr × Obj)} {s : Shared} {Q E : Value → Shared → Prop}

theorem onlyws_spec {rest : List (Addr × Obj)} {ps ps2 : Array Value} (C : Cx w mean mg mb cs outer A₀ base h₀ L m ((140, plO ps) :: (147, plO ps2) :: rest) s) (hd1 : dp + 25 < recursionLimit) (hu : un + 200 < cLine) {ac da : Addr} {parts : List Value} {pps : List (Str × Str)} {n : Nat} {t1 t2 : Tok} (hap : ∀ q ∈ rest, q.1 ≠ 140) (hap2 : ∀ q ∈ rest, q.1 ≠ 147) (hac : (ac, accO da parts n) ∈ rest) (hda : (da, accD w 0 t1 t2) ∈ rest) (hparts : PartsIn rest parts pps) (hb : ∀ q ∈ pps, q.1.length ≤ 100 ∧ q.2.length ≤ 100) (hpl : pps.length ≤ 10) (G : AllBare s.gens) (hps : PlOk lenPos ps) (hps2 : PlOk strPos ps2)
    (hpos : 0 < lenOf pps) (hsp : Txt.isspace (strOf pps) = false)
    (hret : ∀ ps' ps2' h' g' tk', PlOk lenPos ps' → PlOk strPos ps2' → AllBare g' → Fr h₀ L h' m → News h₀ L h' ((140, plO ps') :: (147, plO ps2') :: rest) → Q (.bool false) { s with heap := h', gens := g', toks := tk' }) :
    wpAny (model PySem.Challenge.rw_ti0073_01.row.prog w) (ktrTop dp un gd cn cs L a ccd cl outer) (call (.ref 167) [.ref ac]) Q E s := by
  w_top off
  obtain ⟨B, F, X, N, T, hk⟩ := C
  revert X
  k_fill
  intro X
  k_dflt (refine' enter (binds := [(Str.ofString "self", .ref ac)]) B F X N T hk ?k6 ?k7 ?k8 ?k9 ?kB ?_ ?c2 ?c3 ?c4 ?c5; (case k6 => k_is); (case k7 => k_is); (case k8 => kst_p2); (case k9 => exact BindsTo.of_eq rfl); (case c5 => decide); (case kB => exact locs rfl); (case c2 => exact rfl); (case c3 => exact rfl); (case c4 => exact rfl))
  intro gH LF hF FG F1 N1 B1 X1 T1 lL
  simp only [List.reverse_cons, List.reverse_nil, List.nil_append, List.cons_append] at F1
  (try k_fold)
  (try (with_reducible refine (let A9 : PySem.Around := _; let e9 : PySem.Env := _; (?_ : PySem.wpAny _ A9 (PySem.execs _ e9) _ _ _))))
  w_strict repeat' ((fail_if_success (with_reducible show wpAny _ _ (truthy (Value.ref _)) _ _ _)); (fail_if_success (with_reducible show wpAny _ _ (call (.type "str") _) _ _ _)); first | (k_here; (with_reducible show wpAny _ _ (PySem.getAttr (Value.ref _) _ _) _ _ _); k_dflt (refine' Mine.acc_get (attr := none) (Mine.accF _ rfl) ?k1 ?k2 ?k3 ?k4 ?_; (case k1 => exact Frag.In.keeps (by assumption) (Fr.keep (by k_asm))); (case k2 => exact Mine.news_acc (by k_asm) (by k_mem) (by k_mem)); (case k3 => exact findObj_own (Mine.accF _ rfl).hdct (Mine.accF _ rfl).size rfl rfl); (case k4 => rfl))) | kla_enter)
  rename Fr gH LF _ _ => F2
  rename News gH LF _ _ => N2
  refine truthy_accL (accF w rfl) X1 F2 N2 (.tail _ (.tail _ hac)) (.tail _ (.tail _ hda)) ?_
  refine len_spec (dp := dp + 1) (un := un + 3 + 1) (rest := (147, plO ps2) :: rest) ⟨by assumption, F2, X1, nsub N2 ?s9, T1, ?kK⟩ (by kst_p2) (by kst_p2) ?h140 (.tail _ hac) (.tail _ hda) (hparts.mono ?pm) hb G hps ?_
  case kK => first | exact rfl | assumption
  case s9 => kst_allIn
  case pm => exact fun q hq => .tail _ hq
  case h140 =>
    refine Mine.fmc (show (147 : Addr) ≠ 140 by decide) (fun q hq => ?_)
    · exact hap q hq
  intro ps' h3 g3 tk3 t3 P3 G3 F3 N3
  have hle := lenOf_le pps hb
  refine ⟨⟨by kst_p2, by kst_p2⟩, ?_⟩
  have e0 : ((lenOf pps : Int) != 0) = true := bne_iff_ne.mpr (by kst_p2)
  rw [e0]
  w_strict repeat' ((fail_if_success (with_reducible show wpAny _ _ (call (.type "str") _) _ _ _)); kla_enter)
  refine str_acc (s := { s with heap := h3, gens := g3, toks := _ }) (show un + 3 + 1 + 1 < cLine by kst_p2) (accF w rfl) X1 F3 N3 (.tail _ (.tail _ hac)) (.tail _ (.tail _ hda)) ?_
  refine str_spec (dp := dp + 1) (un := un + 3 + 1 + 1) (rest := (140, plO ps') :: rest) ⟨by assumption, F3, X1, nsub N3 ?s9, T1, ?kK⟩ (by kst_p2) (by kst_p2) ?h147 (.tail _ hac) (.tail _ hda) (hparts.mono ?pm) hb hpl G3 hps2 ?_
  case kK => first | exact rfl | assumption
  case s9 => kst_allIn
  case pm => exact fun q hq => .tail _ hq
  case h147 =>
    refine Mine.fmc (show (140 : Addr) ≠ 147 by decide) (fun q hq => ?_)
    · exact hap2 q hq
  intro ps4 h4 g4 tk4 t4 P4 G4 F4 N4
  dsimp only [W.StrBack]
  w_strict repeat' kla_enter
  rw [hsp]
  exact hret ps' ps4 _ _ _ P3 P4 G4 (by assumption) (nsub (by assumption) (by kst_allIn))
end
end Mine
end TCows

section TAccNew
open PySem PySem.W PyProof.Rows PySem.Spec PySem.Calls PySem.Builtin PySem.Builtin.ObjectAttr
set_option Elab.async false
set_option maxRecDepth 100000
set_option maxHeartbeats 4000000
set_option linter.unusedVariables false
namespace Mine
structure AccMk (K : Frag) : Prop where
  obj : ∃ oc od cd sl, K.lookup 178 = some ⟨oc, od, .cls cd, sl⟩ ∧ cd.hasDel = false ∧ cd.mro = [.ref 178, .type "list", .type "object"] ∧ sl.toList[4]? = some (some (.builtin "list.__new__"))
  call : specialIn K (.ref 178) "__call__" = some (some (.builtin "type.__call__"))
  typ : instIn K (.ref 178) (.type "type") = some true
  init : findIn K (.ref 178) "__init__" = some (some (.ref 115))
  f115 : isFn K (.ref 115) = true
theorem accMk (w : World) : PySem.Challenge.rw_ti0073_01 = PySem.Challenge.rw_ti0073_01 → AccMk (hd.heap_1 w.params) := by
  k_fill
  intro _
  refine' ⟨?obj, ?_, ?_, ?_, ?_⟩
  case obj => exact ⟨_, _, _, _, by k_is, rfl, rfl, rfl⟩
  all_goals k_is
structure MakesL (M : Model) (h : Heap) : Prop where
  obj : ∃ oc od cd sl, h.get? 178 = some ⟨oc, od, .cls cd, sl⟩ ∧ cd.hasDel = false ∧ cd.mro.isEmpty = false
  made : Looks M h (Bind.madeBy (.ref 178)) (some "list.__new__")
  base : Looks M h (Bind.staticBase (.ref 178)) (.ref 178)
  self : Looks M h (isSubtype (.ref 178) (.ref 178)) true
  top : Looks M h (isSubtype (.ref 178) (.type "list")) true
  call : Looks M h (specialOf (.ref 178) "__call__") (some (.builtin "type.__call__"))
  typ : Looks M h (isInstance (.ref 178) (.type "type")) true
theorem makesL_of {K : Frag} {M : Model} {h : Heap} (X : K.In h) (Y : AccMk K) : MakesL M h := by
  refine Mine.gk ?_
  intro Gz9 kz9
  obtain ⟨⟨oc, od, cd, sl, ho, e2, em, e3⟩, e7, e8, _, _⟩ := Y
  refine kz9 ?_
  (try clear kz9 Gz9)
  have hc : clsIn K 178 = some cd := by unfold clsIn; rw [ho]
  have hm : Looks M h (mroOf (.ref 178)) cd.mro := (looks_clsIn X hc).andThen .now
  have e4 : cd.mro.isEmpty = false := by rw [em]; rfl
  have made : Looks M h (Bind.madeBy (.ref 178)) (some "list.__new__") := by
    intro A Q E s k q
    unfold Bind.madeBy
    refine wpAny_bind (hm A _ E s k ?_)
    rw [em, List.forIn_cons]
    refine wpAny_bind (wpAny_bind (wpAny_bind (wpAny_bind (wpAny_loadPart (k _ _ (X _ _ ho)) (wpAny_pure ?_)))))
    dsimp only
    rw [← Array.getElem?_toList, e3]
    exact wpAny_pure (wpAny_pure (wpAny_pure q))
  refine ⟨⟨oc, od, cd, sl, X _ _ ho, e2, e4⟩, made, ?_, looks_mroIn X ?_, looks_mroIn X ?_, looks_specialIn X e7, looks_instIn X e8⟩
  · intro A Q E s k q
    unfold Bind.staticBase
    refine wpAny_bind (hm A _ E s k ?_)
    rw [em, List.forIn_cons]
    exact wpAny_bind (wpAny_bind (wpAny_bind (made A _ E s k (wpAny_pure (wpAny_pure (wpAny_pure q))))))
  · unfold mroIn; rw [hc, Option.bind_some, if_neg (by rw [e4]; decide), em]; rfl
  · unfold mroIn; rw [hc, Option.bind_some, if_neg (by rw [e4]; decide), em]; rfl
noncomputable abbrev accNewO (dx : Addr) : Obj := { cls := .ref 178, dict := some dx, data := .seq #[] }
theorem lnew_kind : builtinKind "list.__new__" = some .builtinFn := by decide +kernel
theorem lnew_split : splitId "list.__new__" = some ("list", "__new__") := by decide +kernel
section
variable {prog : Program} {w : World} {A : Around} {K : Frag} {R : Result → Shared → Prop} {h : Heap} {g : Array GenState} {d : Drawn} {t : Nat} {os : OsState}
theorem new_L {v : Value} (Y : MakesL (model prog w) h)
    (hq : R (.ok (.ret (.ref (h.objs.size + 1)))) ⟨(h.push emptyDict).push (accNewO h.objs.size), g, d, t, os⟩) :
    codeAny (model prog w) A (.call (.builtin "list.__new__") ⟨[.ref 178, v], []⟩) R ⟨h, g, d, t, os⟩ := by
  refine Mine.gk ?_
  intro Gz9 kz9
  obtain ⟨⟨oc, od, cd, sl, hC, e2, e4⟩, made, base, self, top, call, typ⟩ := Y
  refine kz9 ?_
  (try clear kz9 Gz9)
  refine codeAny_call_builtin_code (plainId_quiet F.plain_list_new _) ?_
  simp only [checkBuiltinCall, lnew_kind, lnew_split]
  rw [if_pos (by decide)]
  have ty2 : Looks (model prog w) h (PySem.isType (.ref 178)) true := (Looks.ld hC).andThen .now
  refine wpAny_bind (m := PySem.isType (.ref 178)) (ty2.here ?_)
  rw [if_neg (by decide)]
  refine wpAny_bind (top.here ?_)
  rw [if_neg (by decide)]
  refine wpAny_bind (base.here (wpAny_bind (made.here ?_)))
  dsimp only
  rw [if_neg (by simp)]
  refine wpAny_of_eq (a := ()) (by kernel_rfl) ?_
  refine codeAny_builtin_stack F.entry_list_new rfl fun p st => ?_
  have hown := owner_list_new
  simp only [hown]
  refine wpAny_bind (m := PySem.isType (.ref 178)) (ty2.here ?_)
  rw [if_neg (by decide)]
  refine wpAny_bind (top.here ?_)
  rw [if_neg (by decide)]
  refine wpAny_bind (wpAny_pure ?_)
  rw [if_neg (show ¬ ((!typeHasDict (.ref 178)) = true) by decide)]
  show wpAny _ _ ((alloc emptyDict >>= fun x => pure (Value.ref x)) >>= _) _ _ _
  refine wpAny_bind (wpAny_bind (wpAny_alloc (wpAny_pure ?_)))
  show wpAny _ _ (newObj _ _ _ >>= _) _ _ _
  refine wpAny_bind ?_
  unfold newObj
  dsimp only
  rw [if_neg (by rw [sizeLine_eq]; simp)]
  show wpAny _ _ (newObjAsIs _ _ _) _ _ _
  unfold newObjAsIs classHasDel
  refine wpAny_bind (wpAny_alloc (wpAny_bind (wpAny_bind (wpAny_load (Heap.get?_push_of_some _ (Heap.get?_push_of_some _ hC)) (wpAny_pure ?_)))))
  rw [e2]
  refine wpAny_pure (wpAny_pure ?_)
  show R _ _
  rw [Heap.size_push]
  exact hq
theorem make_L {v : Value} {init : Value} (Y : MakesL (model prog w) h) (hi : Looks (model prog w) h (typeLookup (.ref 178) "__init__") (some init))
    (hb : ∀ self, Looks (model prog w) h (bindSpecial init self) (init, [self]))
    (hq : codeAny (model prog w) (A.under (.builtin "type.__call__" ⟨[.ref 178, v], []⟩)) (.call init ⟨[.ref (h.objs.size + 1), v], []⟩) (InitBack (h.objs.size + 1) R) ⟨(h.push emptyDict).push (accNewO h.objs.size), g, d, t, os⟩) :
    codeAny (model prog w) A (.call (.ref 178) ⟨[v], []⟩) R ⟨h, g, d, t, os⟩ := by
  have Y' := Y
  refine Mine.gk ?_
  intro Gz9 kz9
  obtain ⟨⟨oc, od, cd, sl, hC, e2, e4⟩, made, base, self, top, call, typ⟩ := Y
  refine kz9 ?_
  (try clear kz9 Gz9)
  refine codeAny_of_tree ?_
  show wpAny _ _ (callAny (.ref 178) _) _ _ _
  refine nd_load hC ?_
  show wpAny _ _ (callAny.viaDunder (.ref 178) _) _ _ _
  unfold callAny.viaDunder
  refine wpAny_bind (call.at ?_)
  dsimp only
  rw [tc_bind]
  refine wpAny_bind (wpAny_pure (wpAny_bind (wpAny_pure ?_)))
  refine wpAny_pure (a := Fin.again (.call (.builtin "type.__call__") ⟨[.ref 178, v], []⟩)) (And.intro rfl ?_)
  refine' codeAny_call_builtin_at (Code.quiet_builtin _ (by decide +kernel)) entry_typeCall ?_
  refine' check_slot (i := "type.__call__") (owner := "type") (n := "__call__") ?k1 ?k2 ?k3 ?k4 ?_
  case k1 => exact tc_kind
  case k2 => exact tc_split
  case k3 => exact typ
  case k4 => apply tc_args
  unfold Builtin.«type.__call__»
  have hm : Looks (model prog w) h (mroOf (.ref 178)) cd.mro := ((Looks.ld (part := none) hC).andThen .now).andThen .now
  repeat (first | simp only [e4, Bool.false_eq_true, if_false] | with_reducible refine wpAny_call ?_ | lk)
  refine new_L Y' ?_
  have k : ∀ b o, h.get? b = some o → ((h.push emptyDict).push (accNewO h.objs.size)).get? b = some o := fun b o e => Heap.get?_push_of_some _ (Heap.get?_push_of_some _ e)
  have hx : ((h.push emptyDict).push (accNewO h.objs.size)).get? (h.objs.size + 1) = some (accNewO h.objs.size) := by heap_get
  have t1 : Looks (model prog w) ((h.push emptyDict).push (accNewO h.objs.size)) (typeOf (.ref (h.objs.size + 1))) (.ref 178) := (Looks.ld hx).andThen .now
  have s1 := self.keeps k
  have i1 := hi.keeps k
  have b1 := (hb (.ref (h.objs.size + 1))).keeps k
  unfold isInstance callSpecial? specialOf
  repeat (first | with_reducible refine wpAny_call ?_ | lk)
  refine codeAny_mono hq fun r s' z => ?_
  rcases r with e | (v | _ | _ | _) <;> first | exact z | exact z.elim | skip
  obtain ⟨rfl, z⟩ := z
  exact wpAny_pure (wpAny_pure z)
end
section
variable {prog : Program} {w : World} {A : Around} {K : Frag} {s : Shared} {h₀ : Heap} {L : Addr} {m : Str → Option Value} {news : List (Addr × Obj)} {R : Result → Shared → Prop}
theorem make_LK {v : Value} (F : Fr h₀ L s.heap m) (N : News h₀ L s.heap news) (X : K.In s.heap) (Y : AccMk K)
    (h : ∀ x dx h', Fr h₀ L h' m → News h₀ L h' ((x, accO dx [] 0) :: (dx, emptyDict) :: news) → (∀ p ∈ news, p.1 < dx) → dx < x →
      codeAny (model prog w) (A.under (.builtin "type.__call__" ⟨[.ref 178, v], []⟩)) (.call (.ref 115) ⟨[.ref x, v], []⟩) (InitBack x R) { s with heap := h' }) :
    codeAny (model prog w) A (.call (.ref 178) ⟨[v], []⟩) R s := by
  refine Mine.gk ?_
  intro Gz9 kz9
  obtain ⟨hh, g, d, t, os⟩ := s
  refine kz9 ?_
  (try clear kz9 Gz9)
  refine make_L (makesL_of X Y) (looks_findIn X Y.init) (fun self => bind_fn X self (beq_iff_eq.mp Y.f115)) (h _ hh.objs.size _ ((F.push _).push _) ?_ (fun p hp => Heap.lt_size (N p hp).1) (Nat.lt_succ_self _))
  have := (N.push F emptyDict).push (F.push _) (accNewO hh.objs.size)
  rwa [Heap.size_push] at this
end
end Mine
end TAccNew

section TCaccinit
open PySem PySem.W PyProof.Rows PySem.Spec PySem.Calls
set_option Elab.async false
set_option maxRecDepth 100000
set_option maxHeartbeats 4000000
set_option linter.unusedVariables false
set_option linter.unusedSimpArgs false

namespace Mine
section
variable {prog : Program} {w : World} {s : Shared} {h₀ : Heap} {L : Addr} {m : Str → Option Value} {news : List (Addr × Obj)}
theorem enterL {Q E : Value → Shared → Prop} {K : Frag} {p : Program} {loose : List Str} {mean : ExcName → Option Value} {mg mb : Str → Option Value} {dp un : Nat} {gd : Option (List Code)} {cn : Str} {cs : Scope} {a : Addr} {ccd : Value} {cl : List (Str × Addr)} {outer : List Env} {A₀ : Around} {base : Heap}
    {name qual : Str} {params : Arguments} {body : List Stmt} {scope : Scope} {dV kV doc pm cdv ct oc : Value} {an od : Option Addr} {osl : Array (Option Value)} {cc : Addr} {v : Value} {binds : Addr → List (Str × Value)}
    (Y : AccMk K) (B : Below A₀ base outer h₀) (F : Fr h₀ L s.heap m) (X : K.In h₀) (N : News h₀ L s.heap news) (T : Top p loose mean mg mb h₀) (hk : cs.kind = .function)
    (ho : K.lookup 115 = some ⟨oc, od, .func (ksFn name qual params body scope dV kV doc pm an cdv ct cc), osl⟩) (hcd : codeIn K cdv qual = true) (hroom : dp + 1 < recursionLimit)
    (hbind : ∀ x h', K.In h' → BindsTo { s with heap := h' } (ksFn name qual params body scope dV kV doc pm an cdv ct cc) ⟨[.ref x, v], []⟩ (binds x)) (hloc : ∀ x, ∀ y ∈ binds x, scope.names.lookup y.1 = some .local)
    (h : ∀ x dx g L' h₁, (∀ p ∈ news, p.1 < dx) → dx < x → Fr h₀ L g m → Fr g L' h₁ (kstB (fun _ => none) (binds x).reverse) → News g L' h₁ ((x, accO dx [] 0) :: (dx, dictOf [] 0) :: news) → Below (ktrTop dp un gd cn cs L a ccd cl outer) base (envX cn cs L a ccd cl :: outer) g → K.In g → Top p loose mean mg mb g → (∀ q ∈ (x, accO dx [] 0) :: (dx, dictOf [] 0) :: news, q.1 < L') →
      _root_.PySem.wpAt (model prog w) (ktrTop (dp + 2) (un + 4) gd qual scope L' 115 cdv [("__class__", cc)] (envX cn cs L a ccd cl :: outer)) (.func body (ksEnv qual scope L' 115 cdv cc)) (execs body (ksEnv qual scope L' 115 cdv cc))
        (fun fl s' => LeaveK h₀ L m g (InitBack x fun r s' => match r with | .ok (.ret v) => Q v s' | .ok _ => False | .error _ => False) (match fl with | .ret v => v | _ => .none) s') (fun _ _ => False)
        { s with heap := h₁, toks := s.toks + (binds x).length })
    (hco : scope.isCoroutine = false) (hgen : scope.isGenerator = false) (hks : scope.kind = .function) (hcell : ∀ x ∈ scope.names, x.2 ≠ .cell) :
    wpAny (model prog w) (ktrTop dp un gd cn cs L a ccd cl outer) (call (.ref 178) [v]) Q E s := by
  refine wpAny_mono (Q := Q) (E := fun _ _ => False) ?_ (fun _ _ x => x) fun _ _ x => x.elim
  refine wpAny_call ?_
  refine make_LK F N (X.keeps F.keep) Y fun x dx h' F' N' l1 l2 => ?_
  rw [under_type]
  refine ks_code_super B F' X N' T rfl rfl hk ho hcd hroom (hbind x h' (X.keeps F'.keep)) (hloc x) (fun g L' h₁ FG F'' N'' B' X' T' l => ?_) hcell hco hgen hks
  rw [lookup_kst] at F''
  refine ks_wpAt_mono (h x dx g L' h₁ l1 l2 FG F'' N'' ⟨B'.stack, B'.stays, B'.frames⟩ X' T' l) (fun fl s' z => ?_) fun _ _ x => x.elim
  (try k_fold)
  first | (refine Mine.ex_3 z ?_; (try clear z); rintro L2 m2 n2 h9E; refine Mine.cj_3 h9E ?_; clear h9E; rintro F2 N2 k) | (obtain ⟨L2, m2, n2, F2, N2, k⟩ := z)
  refine ⟨L2, m2, n2, F2, N2, fun a b => ?_⟩
  exact k a b
end
section
variable {w : World} {mean : ExcName → Option Value} {mg mb : Str → Option Value} {dp un : Nat} {gd : Option (List Code)} {cn : Str} {cs : Scope} {a : Addr} {ccd : Value} {cl : List (Str × Addr)} {outer : List Env} {A₀ : Around} {base h₀ : Heap} {L : Addr} {m : Str → Option Value} {news : List (Addr × Obj)} {s : Shared} {Q E : Value → Shared → Prop}

theorem acc_spec (C : Cx w mean mg mb cs outer A₀ base h₀ L m news s) (hd1 : dp + 20 < recursionLimit) (hu : un + 100 < cLine) {t0 : Tok}
    (hret : ∀ h' tk' x dx n t1 t2, Fr h₀ L h' m → News h₀ L h' ((x, accO dx [] n) :: (dx, accD w 0 t1 t2) :: news) → (∀ q ∈ news, q.1 < dx) → dx < x → Q (.ref x) { s with heap := h', toks := tk' }) :
    wpAny (model PySem.Challenge.rw_ti0073_01.row.prog w) (ktrTop dp un gd cn cs L a ccd cl outer) (call (.ref 178) [.int 0 t0]) Q E s := by
  obtain ⟨B, F, X, N, T, hk⟩ := C
  revert X
  k_fill
  intro X
  k_dflt (refine' enterL (binds := fun x => [(Str.ofString "self", .ref x), (Str.ofString "initial_size", .int 0 t0)]) (accMk w rfl) B F X N T hk ?k6 ?k7 ?k8 ?k9 ?kB ?_ ?c2 ?c3 ?c4 ?c5; (case k6 => k_is); (case k7 => k_is); (case k8 => kst_p2); (case k9 => intro x h' hX; exact binds_K hX rfl (by k_is) rfl rfl rfl); (case c5 => decide); (case kB => exact fun x => locs rfl); (case c2 => exact rfl); (case c3 => exact rfl); (case c4 => exact rfl))
  intro x dx gH LF hF lN lX FG F1 N1 B1 X1 T1 lL
  simp only [List.reverse_cons, List.reverse_nil, List.nil_append, List.cons_append] at F1
  (try k_fold)
  w_strict repeat' ((fail_if_success (with_reducible show wpAny _ _ (setAttr _ _ _) _ _ _)); first | (k_unfold; (try dsimp only)) | (k_end; wrow_close) | walk1 | (dsimp only; walk1) | (leave1; walk_say "STEP leave1"; try dsimp only) | fail "no step")
  have hne : dx ≠ x := Nat.ne_of_lt lX
  (try dsimp only)
  refine acc_store (accF w rfl) (pre := [(x, accO dx [] 0)]) (post := news) (dx := dx) (od := dictOf [] 0) (od' := accD w 0 _ _) (n := 1) F1 (nsub N1 ?s9) (X1.keeps F1.keep) (news_acc N1 (.head _) (.tail _ (.head _))) rfl (accF w rfl).taker rfl ?p1 ?p2 rfl rfl (by simp) ?_
  case s9 => kst_allIn
  case p1 =>
    refine Mine.fmc (fun z => hne z.symm) (fun q hq => ?_)
    · (try k_fold)
      cases hq
  case p2 => exact fun q hq => Nat.ne_of_lt (lN q hq)
  intro hD FD ND
  obtain ⟨tA, NE⟩ : ∃ tA, News gH LF hD ((x, accO dx [] 0) :: (dx, accD w 0 tA t0) :: news) := ⟨_, ND⟩
  clear ND
  (try dsimp only)
  walk1
  refine ks_wpAt_Expr_any ?_
  refine ks_wpAt_MethodCall ?_
  w_strict repeat' ((fail_if_success (with_reducible show wpAny _ _ (getMethod _ _ _) _ _ _)); first | (ks_step "attributeBase Call"; k_here; k_dflt (refine ks_node (by k_asm) (by k_asm) (by k_asm) (by k_asm) (by k_is) (by rfl) (by rfl) (Mine.news_acc (by k_asm) (by k_mem) (by k_mem)) (by k_is) (by rfl) (by first | rfl | decide +kernel) (by k_is) (by k_is) (by k_is) (by k_is) (by decide) (by rfl) (by rfl) (by rfl) (by rfl) (by decide +kernel) (by first | boot_by_name | rfl | kernel_rfl) ?_; intro _ _ _ _ l1; (try k_lt l1))) | kla_enter)
  rename Fr gH LF _ _ => F2
  rename News gH LF _ _ => N2
  rename_i so _
  have lso := l1
  refine sup_init (da := dx) (od := accD w 0 _ _) (parts := []) (n := 0) (accF w rfl) X1 F2 N2 (by k_mem) (by k_mem) (.head _) ?_
  intro qa h5 F5 N5 l5
  dsimp only
  w_strict repeat' ((fail_if_success (with_reducible show wpAny _ _ (call (Value.ref _) []) _ _ _)); first | (k_here; (with_reducible show wpAny _ _ (PySem.callWith _ (Value.ref _) _ _ _) _ _ _); k_dflt (first | (refine' Mine.callWith_b0 ?k1 ?k2 (.inr rfl) ?_; (case k1 => k_asm); (case k2 => k_mem)) | (refine' Mine.callWith_b0 ?k1 ?k2 (.inl rfl) ?_; (case k1 => k_asm); (case k2 => k_mem)))) | kla_enter)
  refine bound_init (x := x) (da := dx) (n := 0) (rest := (qa, { cls := .type "method-wrapper", data := .fields #[.builtin "list.__init__", .ref x] }) :: (so, ks_superObj 178 x 178) :: (dx, accD w 0 tA t0) :: news) F5 (nsub N5 ?s9) ?h9 (.head _) ?_
  case s9 => kst_allIn
  case h9 =>
    refine Mine.fmc (Nat.ne_of_gt (l5 _ (.tail _ (.head _)))) (Mine.fmc (Nat.ne_of_gt (lso.1)) (Mine.fmc (hne) (fun q hq => ?_)))
    · exact Nat.ne_of_lt (Nat.lt_trans (lN q hq) lX)
  intro h6 n6 F6 N6
  w_strict repeat' kla_enter
  exact hret _ _ x dx n6 tA t0 (by assumption) (nsub (by assumption) (by kst_allIn)) lN lX
end
end Mine
end TCaccinit

section TCfold
open PySem PySem.W PyProof.Rows PySem.Spec PySem.Calls
set_option Elab.async false
set_option maxRecDepth 100000
set_option maxHeartbeats 4000000
set_option linter.unusedVariables false
set_option linter.unusedSimpArgs false

namespace Mine
noncomputable def foD (w : World) (wd : Int) (ls ac : Addr) (t1 t2 t3 t4 t5 t6 u1 u2 u3 u4 : Tok) : Obj :=
  dictOf [{ hash := PyData.keyHash w.params (Str.ofString "_maxlen"), key := .str (Str.ofString "_maxlen") t1, val := .int wd u1 },
    { hash := PyData.keyHash w.params (Str.ofString "_continuation_ws"), key := .str (Str.ofString "_continuation_ws") t2, val := .str (Str.ofString " ") u2 },
    { hash := PyData.keyHash w.params (Str.ofString "_continuation_ws_len"), key := .str (Str.ofString "_continuation_ws_len") t3, val := .int 1 u3 },
    { hash := PyData.keyHash w.params (Str.ofString "_splitchars"), key := .str (Str.ofString "_splitchars") t4, val := .str (Str.ofString ";") u4 },
    { hash := PyData.keyHash w.params (Str.ofString "_lines"), key := .str (Str.ofString "_lines") t5, val := .ref ls },
    { hash := PyData.keyHash w.params (Str.ofString "_current_line"), key := .str (Str.ofString "_current_line") t6, val := .ref ac }] 6
inductive FoldIn (w : World) (news : List (Addr × Obj)) (fo : Addr) (wd : Int) (ls ac : Addr) : Prop
  | mk (df t1 t2 t3 t4 t5 t6 u1 u2 u3 u4) : (fo, instObj 94 df) ∈ news → (df, foD w wd ls ac t1 t2 t3 t4 t5 t6 u1 u2 u3 u4) ∈ news → FoldIn w news fo wd ls ac
section
variable {w : World} {mean : ExcName → Option Value} {mg mb : Str → Option Value} {dp un : Nat} {gd : Option (List Code)} {cn : Str} {cs : Scope} {a : Addr} {ccd : Value} {cl : List (Str × Addr)} {outer : List Env} {A₀ : Around} {base h₀ : Heap} {L : Addr} {m : Str → Option Value} {news : List (Addr × Obj)} {s : Shared} {Q E : Value → Shared → Prop}

theorem fold_toks {h : Heap} {x dx x' dx' l' : Addr} {n' : Nat} {t1' t2' k1 k2 k3 k4 k5 k6 u1 u2 u3 u4 : Tok} {wd : Int}
    (N8 : News h₀ L h ((x', accO dx' [] n') :: (dx', accD w 0 t1' t2') :: (l', listOf #[] 0) :: (x, instObj 94 dx) :: (dx, foD w wd l' x' k1 k2 k3 k4 k5 k6 u1 u2 u3 u4) :: news)) :
    ∃ k1 k2 k3 k4 k5 k6 u1 u2 u3 u4, News h₀ L h ((x', accO dx' [] n') :: (dx', accD w 0 t1' t2') :: (l', listOf #[] 0) :: ([(x, instObj 94 dx), (dx, foD w wd l' x' k1 k2 k3 k4 k5 k6 u1 u2 u3 u4)] ++ news)) := ⟨_, _, _, _, _, _, _, _, _, _, N8⟩
theorem fold_spec (C : Cx w mean mg mb cs outer A₀ base h₀ L m news s) (hd1 : dp + 40 < recursionLimit) (hu : un + 200 < cLine) {wd : Int} {t0 t1 t2 t3 : Tok}
    (hret : ∀ h' tk' fo ls ac da n u1 u2 tl, Fr h₀ L h' m → News h₀ L h' ((ac, accO da [] n) :: (da, accD w 0 u1 u2) :: (ls, listOf #[] 0) :: (tl ++ news)) → FoldIn w tl fo wd ls ac → (∀ p ∈ tl, ∀ q ∈ news, q.1 < p.1) → (∀ p ∈ tl, p.1 < ls) → ls < da → da < ac → (∀ q ∈ news, q.1 < ls) → Q (.ref fo) { s with heap := h', toks := tk' }) :
    wpAny (model PySem.Challenge.rw_ti0073_01.row.prog w) (ktrTop dp un gd cn cs L a ccd cl outer) (call (.ref 94) [.int 0 t0, .int wd t1, .str (Str.ofString " ") t2, .str (Str.ofString ";") t3]) Q E s := by
  w_top off
  obtain ⟨B, F, X, N, T, hk⟩ := C
  revert X
  k_fill
  intro X
  k_dflt (refine' enterC (binds := fun x => [(Str.ofString "self", .ref x), (Str.ofString "headerlen", .int 0 t0), (Str.ofString "maxlen", .int wd t1), (Str.ofString "continuation_ws", .str (Str.ofString " ") t2), (Str.ofString "splitchars", .str (Str.ofString ";") t3)]) B F X N T hk ?k1 ?k2 ?k3 ?k6 ?k7 ?k8 ?k9 ?kB ?_ ?c2 ?c3 ?c4 ?c5; (case k1 => k_is); (case k2 => k_is); (case k3 => k_is); (case k6 => k_is); (case k7 => k_is); (case k8 => kst_p2); (case k9 => exact fun x h9 => BindsTo.of_eq rfl); (case c5 => decide); (case kB => exact fun x => locs rfl); (case c2 => exact rfl); (case c3 => exact rfl); (case c4 => exact rfl))
  intro x dx gH LF hF lN lX FG F1 N1 B1 X1 T1 lL
  simp only [List.reverse_cons, List.reverse_nil, List.nil_append, List.cons_append] at F1
  (try k_fold)
  have lX2 := ltN lX
  (try (with_reducible refine (let A9 : PySem.Around := _; let e9 : PySem.Env := _; (?_ : PySem.wpAny _ A9 (PySem.execs _ e9) _ _ _))))
  w_strict repeat' (first | (k_here; (with_reducible show wpAny _ _ (call (Value.ref 178) _) _ _ _); k_dflt (refine' Mine.acc_spec ⟨?k1, ?k2, ?k3, ?k4, ?k5, ?kK⟩ ?kd ?ku  ?_; (case k2 => k_asm); (case k1 => k_asm); (case k3 => k_asm); (case k4 => k_asm); (case k5 => k_asm); (case kK => first | exact rfl | assumption); (case kd => kst_p2); (case ku => kst_p2)); intro _ _ _ _ _ _ _ _ _ l1 l2;(k_lt l1); have l2n := ltN l2; (try dsimp only); (try k_fold)) | kla_enter)
  rename News h₀ L _ _ => N8
  rename _ ∧ _ ∧ _ ∧ AllLt _ _ => l1
  rename _ ∧ _ ∧ AllLt _ _ => l1a
  rename @LT.lt Nat _ _ _ => l2
  (try k_fold)
  first | (refine Mine.ex_10 (fold_toks N8) ?_; rintro k1 k2 k3 k4 k5 k6 u1 u2 u3 u4 N9) | (obtain ⟨k1, k2, k3, k4, k5, k6, u1, u2, u3, u4, N9⟩ := fold_toks N8)
  refine hret _ _ x _ _ _ _ _ _ _ (by assumption) N9 ⟨dx, _, _, _, _, _, _, _, _, _, _, .head _, .tail _ (.head _)⟩ ?a1 ?a2 ?a3 ?a4 ?a5
  case a1 => exact Mine.fmc (fun q hq => Nat.lt_trans (lN q hq) lX) (Mine.fmc (lN) (List.forall_mem_nil _))
  case a2 => exact Mine.fmc (l1a.1) (Mine.fmc (l1a.2.1) (List.forall_mem_nil _))
  case a3 => exact l1.1
  case a4 => exact l2
  case a5 => exact kst_ltOf l1a.2.2
end
end Mine
end TCfold

section TAccM
open PySem PySem.W PyProof.Rows PySem.Spec PySem.Calls PySem.Builtin PySem.Builtin.ObjectAttr
set_option Elab.async false
set_option maxRecDepth 100000
set_option maxHeartbeats 4000000
set_option linter.unusedVariables false
namespace Mine
structure AccPu (K : Frag) : Prop where
  g : specialIn K (.ref 122) "__get__" = some (some (.builtin "function.__get__"))
  t : takesIn K (.ref 122) = some false
  f : fnIn K 122 = true
theorem accPu (w : World) : PySem.Challenge.rw_ti0073_01 = PySem.Challenge.rw_ti0073_01 → AccPu (hd.heap_1 w.params) := by
  k_fill
  intro _
  refine' ⟨?_, ?_, ?_⟩
  all_goals k_is
section
variable {prog : Program} {w : World} {A : Around} {E : Value → Shared → Prop} {s : Shared} {K : Frag} {x da : Addr} {parts : List Value} {n : Nat} {h₀ : Heap} {L : Addr} {m : Str → Option Value} {news : List (Addr × Obj)}
theorem acc_getM {expr : Bool} {Q : Value → Shared → Prop} {od : Obj} (C : AccF K) (P : AccPu K) (X₀ : K.In h₀) (F : Fr h₀ L s.heap m) (N : News h₀ L s.heap news) (hx : (x, accO da parts n) ∈ news) (hda : (da, od) ∈ news) (hl : lookIn "push" od = some none)
    (h : ∀ q h', Fr h₀ L h' m → News h₀ L h' ((q, methodObj (.ref 122) (.ref x)) :: news) → (∀ p ∈ news, p.1 < q) → Q (.ref q) { s with heap := h', toks := s.toks + 1 }) :
    wpAny (model prog w) A (getAttr (.ref x) "push" expr) Q E s := by
  have I := news_acc N hx hda
  have X := X₀.keeps F.keep
  have hf : findObj K 178 (some od) "push" = some (.bind (.builtin "function.__get__") (.ref 122)) := findObj_fn C.hdct C.push P.g P.t (by decide +kernel) hl
  obtain ⟨F', N', l'⟩ := push_upd (hfr := rfl) (o := methodObj (.ref 122) (.ref x)) F N
  have z := h _ _ F' N' l'
  refine Mine.gk ?_
  intro Gz9 kz9
  obtain ⟨hh', g, d, t, os⟩ := s
  refine kz9 ?_
  (try clear kz9 Gz9)
  have L0 := I.type (M := model prog w)
  have L1 := looks_findIn (M := model prog w) X C.ga
  have L2 := looks_findIn (M := model prog w) X C.gt
  have L3 := looks_find (M := model prog w) X I hf
  unfold getAttr getAttrBy
  refine wpAny_bind (wpAny_mkText (wpAny_holding (wpAny_bind (L0.at (wpAny_bind (L1.at ?_))))))
  show wpAny _ _ (getAttrByItsOwn (.ref x) (.str (Str.ofString "push") t) (.ref 178) (.builtin "list.__getattribute__") true expr) _ _ _
  unfold getAttrByItsOwn hookBefore callGetattribute boundAndCalled
  refine wpAny_bind ?_
  rw [if_pos (by rfl)]
  refine L2.at ?_
  refine wpAny_bind (wpAny_attempt (wpAny_holding ?_))
  rw [if_neg (by cases expr <;> decide)]
  refine wpAny_bind (wpAny_of_eq (PySem.F.slot_list_getattribute.bind _) ?_)
  refine acc_entry (n := "__getattribute__") C X I (.inl (by decide +kernel)) (by decide +kernel) (by decide +kernel) PySem.am_entry_list_getattribute (PySem.F.args_list_getattribute_2 _ _) ?_
  unfold Builtin.«object.__getattribute__»
  refine wpAny_bind (m := slotArgs "__getattribute__" 1 _) (wpAny_pure ?_)
  refine wpAny_bind (wpAny_pure ?_)
  refine wpAny_bind (L0.at (wpAny_bind (L3.at ?_)))
  dsimp only
  unfold bindTo
  dsimp only
  refine wpAny_bind (wpAny_holding (wpAny_call (fn_get (s := ⟨hh', g, d, t + 1, os⟩) X (beq_iff_eq.mp C.f122) ?_)))
  dsimp only
  exact wpAny_pure ⟨_, rfl, handed_on rfl z⟩
theorem callWith_MS {K : Frag} {env : Env} {pos p : Pos} {e : Expr} {first : List Value} {Q : Value → Shared → Prop} {q g : Addr} {self : Value} (hf : fnIn K g = true)
    (h : wpAny (model prog w) A (eval e env) (fun v s₁ => StarOf (model prog w) A E v (fun vs s₂ => MethP K q g self s₂.heap ∧ wpAny (model prog w) A (call (.ref q) (first ++ vs)) Q E s₂) s₁) E s)
    (he : starEach [.Starred e p] env = [(true, eval e env)] := by rfl) :
    wpAny (model prog w) A (callWith pos (.ref q) first (backTo pos (starEach [.Starred e p] env)) []) Q E s := by
  rw [he]
  exact ks_call rfl (keeps_M hf) (ks_lone h)
end
end Mine
end TAccM

section TCpush
open PySem PySem.W PyProof.Rows PySem.Spec PySem.Calls
set_option Elab.async false
set_option maxRecDepth 100000
set_option maxHeartbeats 4000000
set_option linter.unusedVariables false
set_option linter.unusedSimpArgs false

namespace Mine
section
variable {w : World} {s : Shared} {h₀ : Heap} {L : Addr}
theorem enterK {prog : Program} {Q : Value → Shared → Prop} {K : Frag} {p : Program} {loose : List Str} {mean : ExcName → Option Value} {mg mb : Str → Option Value} {dp un : Nat} {gd : Option (List Code)} {cn : Str} {cs : Scope} {a : Addr} {ccd : Value} {cl : List (Str × Addr)} {outer : List Env} {A₀ : Around} {base : Heap} {m : Str → Option Value} {news : List (Addr × Obj)}
    {name qual : Str} {params : Arguments} {body : List Stmt} {scope : Scope} {dV kV doc pm cdv ct oc : Value} {an od : Option Addr} {osl : Array (Option Value)} {f : Addr} {args : List Value} {binds : List (Str × Value)}
    (B : Below A₀ base outer h₀) (F : Fr h₀ L s.heap m) (X : K.In h₀) (N : News h₀ L s.heap news) (T : Top p loose mean mg mb h₀) (hk : cs.kind = .function)
    (ho : K.lookup f = some ⟨oc, od, .func (fnOf name qual params body scope dV kV doc pm an cdv ct), osl⟩) (hcd : codeIn K cdv qual = true) (hroom : dp < recursionLimit)
    (hbind : BindsTo s (fnOf name qual params body scope dV kV doc pm an cdv ct) ⟨args, []⟩ binds) (hloc : ∀ y ∈ binds, scope.names.lookup y.1 = some .local)
    (h : ∀ g L' h₁, Fr h₀ L g m → Fr g L' h₁ (kstB (fun _ => none) binds.reverse) → News g L' h₁ news → Below (ktrTop dp un gd cn cs L a ccd cl outer) base (envX cn cs L a ccd cl :: outer) g → K.In g → Top p loose mean mg mb g → (∀ q ∈ news, q.1 < L') →
      wpAny (model prog w) (ktrTop (dp + 1) (un + 3) gd qual scope L' f cdv [] (envX cn cs L a ccd cl :: outer)) (execs body (envOf qual scope L' f cdv))
        (fun fl s' => LeaveK h₀ L m g (fun r s' => match r with | .ok (.ret v) => Q v s' | .ok _ => False | .error _ => False) (match fl with | .ret v => v | _ => .none) s') (fun _ _ => False)
        { s with heap := h₁, toks := s.toks + binds.length })
    (hco : scope.isCoroutine = false) (hgen : scope.isGenerator = false) (hks : scope.kind = .function) (hcell : ∀ x ∈ scope.names, x.2 ≠ .cell) :
    codeAny (model prog w) (ktrTop dp un gd cn cs L a ccd cl outer) (.call (.ref f) ⟨args, []⟩) (fun r s' => match r with | .ok (.ret v) => Q v s' | .ok _ => False | .error _ => False) s := by
  refine callX_plain (cl := []) B F N T.nolimit rfl rfl hk ((X.keeps F.keep) _ _ ho) rfl (codeRec_of (X.keeps F.keep) hcd) hroom hbind hloc (fun g L' h₁ FG F' N' B' st l => ?_) hcell hco hgen hks
  rw [lookup_kst] at F'
  refine wpAny_mono (h g L' h₁ FG F' N' B' (X.keeps st) (T.keeps st) l) (fun fl s' z => ?_) fun _ _ x => x.elim
  (try k_fold)
  first | (refine Mine.ex_3 z ?_; (try clear z); rintro L2 m2 n2 h9E; refine Mine.cj_3 h9E ?_; clear h9E; rintro F2 N2 k) | (obtain ⟨L2, m2, n2, F2, N2, k⟩ := z)
  refine ⟨L2, m2, n2, F2, N2, fun a b => ?_⟩
  exact k a b
end
section
variable {w : World} {mean : ExcName → Option Value} {mg mb : Str → Option Value} {dp un : Nat} {gd : Option (List Code)} {cn : Str} {cs : Scope} {a : Addr} {ccd : Value} {cl : List (Str × Addr)} {outer : List Env} {A₀ : Around} {base h₀ : Heap} {L : Addr} {m : Str → Option Value} {news : List (Addr × Obj)} {s : Shared} {Q E : Value → Shared → Prop}

theorem push_code {rest : List (Addr × Obj)} {ac da : Addr} {parts : List Value} {n : Nat} {t1 t2 tf tg : Tok} {f g : Str} (C : Cx w mean mg mb cs outer A₀ base h₀ L m ((ac, accO da parts n) :: rest) s) (hd1 : dp + 5 < recursionLimit) (hu : un + 100 < cLine) (hap : ∀ q ∈ rest, q.1 ≠ ac) (hda : (da, accD w 0 t1 t2) ∈ rest) (hpl : parts.length ≤ 20)
    (hret : ∀ h' tk' t n', Fr h₀ L h' m → News h₀ L h' ((ac, accO da (parts ++ [.ref t]) n') :: (t, tupO [.str f tf, .str g tg]) :: rest) → (∀ q ∈ rest, q.1 < t) → ac < t → Q .none { s with heap := h', toks := tk' }) :
    codeAny (model PySem.Challenge.rw_ti0073_01.row.prog w) (ktrTop dp un gd cn cs L a ccd cl outer) (.call (.ref 122) ⟨[.ref ac, .str f tf, .str g tg], []⟩) (fun r s' => match r with | .ok (.ret v) => Q v s' | .ok _ => False | .error e => E e s') s := by
  refine codeAny_mono (R := fun r s' => match r with | .ok (.ret v) => Q v s' | .ok _ => False | .error _ => False) ?_ (fun r s' z => by rcases r with e | (v | _ | _ | _) <;> first | exact z | exact z.elim)
  w_top off
  obtain ⟨B, F, X, N, T, hk⟩ := C
  revert X
  k_fill
  intro X
  k_dflt (refine' enterK (binds := [(Str.ofString "self", .ref ac), (Str.ofString "fws", .str f tf), (Str.ofString "string", .str g tg)]) B F X N T hk ?k6 ?k7 ?k8 ?k9 ?kB ?_ ?c2 ?c3 ?c4 ?c5; (case k6 => k_is); (case k7 => k_is); (case k8 => kst_p2); (case k9 => exact BindsTo.of_eq rfl); (case c5 => decide); (case kB => exact locs rfl); (case c2 => exact rfl); (case c3 => exact rfl); (case c4 => exact rfl))
  intro gH LF hF FG F1 N1 B1 X1 T1 lL
  simp only [List.reverse_cons, List.reverse_nil, List.nil_append, List.cons_append] at F1
  (try k_fold)
  (try (with_reducible refine (let A9 : PySem.Around := _; let e9 : PySem.Env := _; (?_ : PySem.wpAny _ A9 (PySem.execs _ e9) _ _ _))))
  w_strict repeat' ((fail_if_success (with_reducible show wpAny _ _ (call (.builtin "list.append") _) _ _ _)); first | (k_here; (with_reducible show wpAny _ _ (PySem.getMethod (Value.ref _) _ _) _ _ _); k_dflt (first | (refine' Mine.acc_method (Mine.accF _ rfl) ?k1 ?k2 ?k3 ?k4 ?k5 ?_; (case k1 => exact Frag.In.keeps (by assumption) (Fr.keep (by k_asm))); (case k2 => exact Mine.news_acc (by k_asm) (by k_mem) (by k_mem)); (case k3 => k_is); (case k4 => k_is); (case k5 => rfl)) | (refine' Mine.acc_methodB (Mine.accF _ rfl) ?k1 ?k2 ?k3 ?k4 ?k5 ?_; (case k1 => exact Frag.In.keeps (by assumption) (Fr.keep (by k_asm))); (case k2 => exact Mine.news_acc (by k_asm) (by k_mem) (by k_mem)); (case k3 => k_is); (case k4 => k_is); (case k5 => rfl)))) | kla_enter)
  rename Fr gH LF _ _ => F2
  rename News gH LF _ _ => N2
  rename_i tA _ lA
  refine acc_append (od := accD w 0 t1 t2) (parts := parts) (n := n) (rest := (tA, tupO [.str f tf, .str g tg]) :: rest) (accF w rfl) X1 F2 (nsub N2 ?s9) ?h9 (.tail _ hda) (by kst_p2) ?_
  case s9 => kst_allIn
  case h9 =>
    refine Mine.fmc (Nat.ne_of_gt lA.1) (fun q hq => ?_)
    · exact hap q hq
  intro h9 F9 N9
  w_strict repeat' kla_enter
  exact hret _ _ tA _ (by assumption) (by assumption) (kst_ltOf lA.2) lA.1
end
end Mine
end TCpush

section TCfmt
open PySem PySem.W PyProof.Rows PySem.Spec PySem.Calls
set_option Elab.async false
set_option maxRecDepth 100000
set_option maxHeartbeats 4000000
set_option linter.unusedVariables false
set_option linter.unusedSimpArgs false

namespace Mine
structure Ap (ac da ls : Addr) (rest : List (Addr × Obj)) : Prop where
  d : da ≠ ac
  l : ls ≠ ac
  ld : ls ≠ da
  a1 : ac ≠ 140
  a2 : ac ≠ 147
  d1 : da ≠ 140
  d2 : da ≠ 147
  l1 : ls ≠ 140
  l2 : ls ≠ 147
  r : ∀ q ∈ rest, q.1 ≠ ac ∧ q.1 ≠ da ∧ q.1 ≠ ls ∧ q.1 ≠ 140 ∧ q.1 ≠ 147
theorem Ap.more {ac da ls : Addr} {rest : List (Addr × Obj)} (h : Ap ac da ls rest) {t : Addr} {o : Obj} (ht : t ≠ ac ∧ t ≠ da ∧ t ≠ ls ∧ t ≠ 140 ∧ t ≠ 147) : Ap ac da ls ((t, o) :: rest) :=
  ⟨h.d, h.l, h.ld, h.a1, h.a2, h.d1, h.d2, h.l1, h.l2, Mine.fmc (ht) (h.r)⟩
noncomputable abbrev Fst (w : World) (ac da ls : Addr) (parts : List Value) (n : Nat) (t1 t2 : Tok) (ps ps2 : Array Value) (lines : List Value) (k : Nat) (rest : List (Addr × Obj)) : List (Addr × Obj) :=
  (ac, accO da parts n) :: (da, accD w 0 t1 t2) :: (140, plO ps) :: (147, plO ps2) :: (ls, listOf lines.toArray k) :: rest
structure FK (ac da ls : Addr) (parts : List Value) (pps : List (Str × Str)) (ps ps2 : Array Value) (rest : List (Addr × Obj)) (gens : Array GenState) : Prop where
  ap : Ap ac da ls rest
  pi : PartsIn rest parts pps
  b : ∀ q ∈ pps, q.1.length ≤ 100 ∧ q.2.length ≤ 100
  z : pps.length ≤ 10
  G : AllBare gens
  p1 : PlOk lenPos ps
  p2 : PlOk strPos ps2
section
variable {w : World} {mean : ExcName → Option Value} {mg mb : Str → Option Value} {dp un : Nat} {gd : Option (List Code)} {cn : Str} {cs : Scope} {a : Addr} {ccd : Value} {cl : List (Str × Addr)} {outer : List Env} {A₀ : Around} {base h₀ : Heap} {L : Addr} {m : Str → Option Value} {news : List (Addr × Obj)} {s : Shared} {Q E : Value → Shared → Prop}

variable {rest : List (Addr × Obj)} {ac da ls : Addr} {parts lines : List Value} {n k : Nat} {t1 t2 : Tok} {ps ps2 : Array Value} {pps : List (Str × Str)}
theorem len_F (C : Cx w mean mg mb cs outer A₀ base h₀ L m (Fst w ac da ls parts n t1 t2 ps ps2 lines k rest) s) (hd1 : dp + 30 < recursionLimit) (hu : un + 250 < cLine) (K : FK ac da ls parts pps ps ps2 rest s.gens)
    (hret : ∀ ps' h' g' tk' t', FK ac da ls parts pps ps' ps2 rest g' → Fr h₀ L h' m → News h₀ L h' (Fst w ac da ls parts n t1 t2 ps' ps2 lines k rest) → Q (.int (lenOf pps) t') { s with heap := h', gens := g', toks := tk' }) :
    wpAny (model PySem.Challenge.rw_ti0073_01.row.prog w) (ktrTop dp un gd cn cs L a ccd cl outer) (call (.builtin "len") [.ref ac]) Q E s := by
  obtain ⟨B, F, X, N, T, hk⟩ := C
  (try k_fold)
  refine Mine.gk ?_
  intro Gz9 kz9
  obtain ⟨ap, pi, b, z, G, p1, p2⟩ := K
  refine kz9 ?_
  (try clear kz9 Gz9)
  refine len_acc (accF w rfl) X F N (.head _) (.tail _ (.head _)) ?_
  refine len_spec (dp := dp) (un := un + 1) (rest := (ac, accO da parts n) :: (da, accD w 0 t1 t2) :: (147, plO ps2) :: (ls, listOf lines.toArray k) :: rest) ⟨B, F, X, nsub N ?s9, T, hk⟩ (by kst_p2) (by kst_p2) ?h140 (.head _) (.tail _ (.head _)) (pi.mono fun q hq => .tail _ (.tail _ (.tail _ (.tail _ hq)))) b G p1 ?_
  case s9 => kst_allIn
  case h140 => exact Mine.fmc (ap.a1) (Mine.fmc (ap.d1) (Mine.fmc (show (147 : Addr) ≠ 140 by decide) (Mine.fmc (ap.l1) (fun q hq => (ap.r q hq).2.2.2.1))))
  intro ps' h' g' tk' t' P G' F' N'
  have hle := lenOf_le pps b
  refine ⟨⟨by kst_p2, by kst_p2⟩, ?_⟩
  exact hret ps' h' g' _ _ ⟨ap, pi, b, z, G', P, p2⟩ F' (nsub N' (by kst_allIn))
theorem str_F (C : Cx w mean mg mb cs outer A₀ base h₀ L m (Fst w ac da ls parts n t1 t2 ps ps2 lines k rest) s) (hd1 : dp + 30 < recursionLimit) (hu : un + 250 < cLine) (K : FK ac da ls parts pps ps ps2 rest s.gens)
    (hret : ∀ ps2' h' g' tk' t', FK ac da ls parts pps ps ps2' rest g' → Fr h₀ L h' m → News h₀ L h' (Fst w ac da ls parts n t1 t2 ps ps2' lines k rest) → Q (.str (strOf pps) t') { s with heap := h', gens := g', toks := tk' }) :
    wpAny (model PySem.Challenge.rw_ti0073_01.row.prog w) (ktrTop dp un gd cn cs L a ccd cl outer) (call (.type "str") [.ref ac]) Q E s := by
  obtain ⟨B, F, X, N, T, hk⟩ := C
  (try k_fold)
  refine Mine.gk ?_
  intro Gz9 kz9
  obtain ⟨ap, pi, b, z, G, p1, p2⟩ := K
  refine kz9 ?_
  (try clear kz9 Gz9)
  refine str_acc (show un + 1 + 1 < cLine by kst_p2) (accF w rfl) X F N (.head _) (.tail _ (.head _)) ?_
  refine str_spec (dp := dp) (un := un + 1 + 1) (rest := (ac, accO da parts n) :: (da, accD w 0 t1 t2) :: (140, plO ps) :: (ls, listOf lines.toArray k) :: rest) ⟨B, F, X, nsub N ?s9, T, hk⟩ (by kst_p2) (by kst_p2) ?h140 (.head _) (.tail _ (.head _)) (pi.mono fun q hq => .tail _ (.tail _ (.tail _ (.tail _ hq)))) b z G p2 ?_
  case s9 => kst_allIn
  case h140 => exact Mine.fmc (ap.a2) (Mine.fmc (ap.d2) (Mine.fmc (show (140 : Addr) ≠ 147 by decide) (Mine.fmc (ap.l2) (fun q hq => (ap.r q hq).2.2.2.2))))
  intro ps' h' g' tk' t' P G' F' N'
  exact hret ps' h' g' _ _ ⟨ap, pi, b, z, G', p1, P⟩ F' (nsub N' (by kst_allIn))
theorem ows_F (C : Cx w mean mg mb cs outer A₀ base h₀ L m (Fst w ac da ls parts n t1 t2 ps ps2 lines k rest) s) (hd1 : dp + 30 < recursionLimit) (hu : un + 250 < cLine) (K : FK ac da ls parts pps ps ps2 rest s.gens) (hpos : 0 < lenOf pps) (hsp : Txt.isspace (strOf pps) = false)
    (hret : ∀ ps' ps2' h' g' tk', FK ac da ls parts pps ps' ps2' rest g' → Fr h₀ L h' m → News h₀ L h' (Fst w ac da ls parts n t1 t2 ps' ps2' lines k rest) → Q (.bool false) { s with heap := h', gens := g', toks := tk' }) :
    wpAny (model PySem.Challenge.rw_ti0073_01.row.prog w) (ktrTop dp un gd cn cs L a ccd cl outer) (call (.ref 167) [.ref ac]) Q E s := by
  obtain ⟨B, F, X, N, T, hk⟩ := C
  (try k_fold)
  refine Mine.gk ?_
  intro Gz9 kz9
  obtain ⟨ap, pi, b, z, G, p1, p2⟩ := K
  refine kz9 ?_
  (try clear kz9 Gz9)
  refine onlyws_spec (rest := (ac, accO da parts n) :: (da, accD w 0 t1 t2) :: (ls, listOf lines.toArray k) :: rest) ⟨B, F, X, nsub N ?s9, T, hk⟩ (by kst_p2) (by kst_p2) ?h140 ?h147 (.head _) (.tail _ (.head _)) (pi.mono fun q hq => .tail _ (.tail _ (.tail _ hq))) b z G p1 p2 hpos hsp ?_
  case s9 => kst_allIn
  case h140 => exact Mine.fmc (ap.a1) (Mine.fmc (ap.d1) (Mine.fmc (ap.l1) (fun q hq => (ap.r q hq).2.2.2.1)))
  case h147 => exact Mine.fmc (ap.a2) (Mine.fmc (ap.d2) (Mine.fmc (ap.l2) (fun q hq => (ap.r q hq).2.2.2.2)))
  intro ps' ps2' h' g' tk' P1 P2 G' F' N'
  exact hret ps' ps2' h' g' _ ⟨ap, pi, b, z, G', P1, P2⟩ F' (nsub N' (by kst_allIn))
theorem FK.fresh {ac da ls t : Addr} (ap : Ap ac da ls rest) (h : ∀ q ∈ (da, accD w 0 t1 t2) :: (140, plO ps) :: (147, plO ps2) :: (ls, listOf lines.toArray k) :: rest, q.1 < t) (ha : ac < t) : t ≠ ac ∧ t ≠ da ∧ t ≠ ls ∧ t ≠ 140 ∧ t ≠ 147 :=
  ⟨Nat.ne_of_gt ha, Nat.ne_of_gt (h _ (.head _)), Nat.ne_of_gt (h _ (.tail _ (.tail _ (.tail _ (.head _))))), Nat.ne_of_gt (h (140, plO ps) (.tail _ (.head _))), Nat.ne_of_gt (h (147, plO ps2) (.tail _ (.tail _ (.head _))))⟩
theorem Ap.hac {ac da ls : Addr} (ap : Ap ac da ls rest) : ∀ q ∈ (da, accD w 0 t1 t2) :: (140, plO ps) :: (147, plO ps2) :: (ls, listOf lines.toArray k) :: rest, q.1 ≠ ac :=
  Mine.fmc (ap.d) (Mine.fmc (ap.a1.symm) (Mine.fmc (ap.a2.symm) (Mine.fmc (ap.l) (fun q hq => (ap.r q hq).1))))
theorem Ap.hac2 {ac da ls : Addr} (ap : Ap ac da ls rest) : ∀ q ∈ (140, plO ps) :: (147, plO ps2) :: (ls, listOf lines.toArray k) :: rest, q.1 ≠ ac :=
  Mine.fmc (ap.a1.symm) (Mine.fmc (ap.a2.symm) (Mine.fmc (ap.l) (fun q hq => (ap.r q hq).1)))
theorem Ap.hda {ac da ls : Addr} (ap : Ap ac da ls rest) : ∀ q ∈ (140, plO ps) :: (147, plO ps2) :: (ls, listOf lines.toArray k) :: rest, q.1 ≠ da :=
  Mine.fmc (ap.d1.symm) (Mine.fmc (ap.d2.symm) (Mine.fmc (ap.ld) (fun q hq => (ap.r q hq).2.1)))
theorem PartsIn.unsnoc {news : List (Addr × Obj)} {v : Value} {p : Str × Str} {vs : List Value} : ∀ {ps : List (Str × Str)}, PartsIn news (vs ++ [v]) (ps ++ [p]) → PartsIn news vs ps ∧ PartIn news v p := by
  induction vs with
  | nil =>
    intro ps h
    cases ps with
    | nil => cases h with | cons h _ => exact ⟨.nil, h⟩
    | cons q r => cases h with | cons _ h => exact absurd h.length (by simp)
  | cons a vs ih =>
    intro ps h
    cases ps with
    | nil => cases h with | cons _ h => exact absurd h.length (by simp)
    | cons q r => cases h with | cons h t => exact ⟨.cons h (ih t).1, (ih t).2⟩
theorem pop_F {v : Value} {p : Str × Str} (C : Cx w mean mg mb cs outer A₀ base h₀ L m (Fst w ac da ls (parts ++ [v]) n t1 t2 ps ps2 lines k rest) s) (hd1 : dp + 30 < recursionLimit) (hu : un + 250 < cLine) (K : FK ac da ls (parts ++ [v]) (pps ++ [p]) ps ps2 rest s.gens)
    (hret : ∀ n' h' tk', FK ac da ls parts pps ps ps2 rest s.gens → PartIn rest v p → Fr h₀ L h' m → News h₀ L h' (Fst w ac da ls parts n' t1 t2 ps ps2 lines k rest) → Q v { s with heap := h', toks := tk' }) :
    wpAny (model PySem.Challenge.rw_ti0073_01.row.prog w) (ktrTop dp un gd cn cs L a ccd cl outer) (call (.ref 138) [.ref ac]) Q E s := by
  (try k_fold)
  refine Mine.gk ?_
  intro Gz9 kz9
  obtain ⟨ap, pi, b, z, G, p1, p2⟩ := K
  refine kz9 ?_
  (try clear kz9 Gz9)
  have z' : parts.length ≤ 10 := by
    have := pi.length
    simp only [List.length_append, List.length_cons, List.length_nil] at this z
    kst_p2
  refine pop_spec C (by kst_p2) (by kst_p2) ap.hac (.head _) (by kst_p2) ?_
  intro h' tk' n' F' N'
  exact hret n' h' tk' ⟨ap, pi.unsnoc.1, fun q hq => b q (List.mem_append_left _ hq), by simp at z; kst_p2, G, p1, p2⟩ pi.unsnoc.2 F' N'
theorem push_F {tf tg : Tok} {f g : Str} (C : Cx w mean mg mb cs outer A₀ base h₀ L m (Fst w ac da ls parts n t1 t2 ps ps2 lines k rest) s) (hd1 : dp + 30 < recursionLimit) (hu : un + 250 < cLine) (K : FK ac da ls parts pps ps ps2 rest s.gens) (hz : pps.length ≤ 9) (hb : f.length ≤ 100 ∧ g.length ≤ 100)
    (hret : ∀ t n' h' tk', FK ac da ls (parts ++ [.ref t]) (pps ++ [(f, g)]) ps ps2 ((t, tupO [.str f tf, .str g tg]) :: rest) s.gens → (∀ q ∈ rest, q.1 < t) → Fr h₀ L h' m → News h₀ L h' (Fst w ac da ls (parts ++ [.ref t]) n' t1 t2 ps ps2 lines k ((t, tupO [.str f tf, .str g tg]) :: rest)) → Q .none { s with heap := h', toks := tk' }) :
    codeAny (model PySem.Challenge.rw_ti0073_01.row.prog w) (ktrTop dp un gd cn cs L a ccd cl outer) (.call (.ref 122) ⟨[.ref ac, .str f tf, .str g tg], []⟩) (fun r s' => match r with | .ok (.ret v) => Q v s' | .ok _ => False | .error e => E e s') s := by
  (try k_fold)
  refine Mine.gk ?_
  intro Gz9 kz9
  obtain ⟨ap, pi, b, z, G, p1, p2⟩ := K
  refine kz9 ?_
  (try clear kz9 Gz9)
  refine push_code C (by kst_p2) (by kst_p2) ap.hac (.head _) (by rw [pi.length]; kst_p2) ?_
  intro h' tk' t n' F' N' l la
  refine hret t n' h' tk' ⟨ap.more (FK.fresh ap l la), (pi.mono fun q hq => .tail _ hq).snoc ⟨t, tf, tg, rfl, .head _⟩, ?_, by simp; kst_p2, G, p1, p2⟩ (fun q hq => l q (.tail _ (.tail _ (.tail _ (.tail _ hq))))) F' (nsub N' (by kst_allIn))
  intro q hq
  rcases List.mem_append.mp hq with hq | hq
  · exact b q hq
  · rw [List.mem_singleton.mp hq]; exact hb
theorem reset0_F (C : Cx w mean mg mb cs outer A₀ base h₀ L m (Fst w ac da ls parts n t1 t2 ps ps2 lines k rest) s) (hd1 : dp + 30 < recursionLimit) (hu : un + 250 < cLine) (K : FK ac da ls parts pps ps ps2 rest s.gens)
    (hret : ∀ n' t2' h' tk', FK ac da ls [] [] ps ps2 rest s.gens → Fr h₀ L h' m → News h₀ L h' (Fst w ac da ls [] n' t1 t2' ps ps2 lines k rest) → Q .none { s with heap := h', toks := tk' }) :
    wpAny (model PySem.Challenge.rw_ti0073_01.row.prog w) (ktrTop dp un gd cn cs L a ccd cl outer) (call (.ref 160) [.ref ac]) Q E s := by
  (try k_fold)
  refine Mine.gk ?_
  intro Gz9 kz9
  obtain ⟨ap, pi, b, z, G, p1, p2⟩ := K
  refine kz9 ?_
  (try clear kz9 Gz9)
  refine reset0_spec C (by kst_p2) (by kst_p2) ap.d ap.hac2 ap.hda (by rw [pi.length]; kst_p2) ?_
  intro h' tk' n' t2' F' N'
  exact hret n' t2' h' tk' ⟨ap, .nil, fun q hq => (by cases hq), by simp, G, p1, p2⟩ F' N'
theorem popf_F {v1 v2 : Value} {q1 q2 : Str × Str} {t3 : Tok} (C : Cx w mean mg mb cs outer A₀ base h₀ L m (Fst w ac da ls [v1, v2] n t1 t2 ps ps2 lines k rest) s) (hd1 : dp + 30 < recursionLimit) (hu : un + 250 < cLine) (K : FK ac da ls [v1, v2] [q1, q2] ps ps2 rest s.gens)
    (hret : ∀ p n' h' tk', FK ac da ls [v1] [q1] ps ps2 ((p, listOf #[v2] 0) :: rest) s.gens → PartIn rest v2 q2 → Fr h₀ L h' m → News h₀ L h' (Fst w ac da ls [v1] n' t1 t2 ps ps2 lines k ((p, listOf #[v2] 0) :: rest)) → Q (.ref p) { s with heap := h', toks := tk' }) :
    wpAny (model PySem.Challenge.rw_ti0073_01.row.prog w) (ktrTop dp un gd cn cs L a ccd cl outer) (call (.ref 130) [.ref ac, .int 1 t3]) Q E s := by
  (try k_fold)
  refine Mine.gk ?_
  intro Gz9 kz9
  obtain ⟨ap, pi, b, z, G, p1, p2⟩ := K
  refine kz9 ?_
  (try clear kz9 Gz9)
  refine popf_spec C (by kst_p2) (by kst_p2) ap.hac (.head _) ?_
  intro h' tk' p n' F' N' l la
  (try k_fold)
  cases pi with | cons y1 r => cases r with | cons y2 r =>
  (try k_fold)
  first | (refine Mine.ex_3 y1 ?_; (try clear y1); rintro y tf tg h9E; refine Mine.cj_2 h9E ?_; clear h9E; rintro rfl hy) | (obtain ⟨y, tf, tg, rfl, hy⟩ := y1)
  exact hret p n' h' tk' ⟨ap.more (FK.fresh ap l la), .cons ⟨y, tf, tg, rfl, .tail _ hy⟩ .nil, fun q hq => b q (by rw [List.mem_singleton.mp hq]; exact .head _), by simp, G, p1, p2⟩ y2 F' (nsub N' (by kst_allIn))
theorem reset_F {l : Addr} {v2 : Value} {q2 : Str × Str} {kk : Nat} (C : Cx w mean mg mb cs outer A₀ base h₀ L m (Fst w ac da ls parts n t1 t2 ps ps2 lines k rest) s) (hd1 : dp + 30 < recursionLimit) (hu : un + 250 < cLine) (K : FK ac da ls parts pps ps ps2 rest s.gens) (hl : (l, listOf #[v2] kk) ∈ rest) (hv : PartIn rest v2 q2) (hq : q2.1.length ≤ 100 ∧ q2.2.length ≤ 100)
    (hret : ∀ n' t2' h' tk', FK ac da ls [v2] [q2] ps ps2 rest s.gens → Fr h₀ L h' m → News h₀ L h' (Fst w ac da ls [v2] n' t1 t2' ps ps2 lines k rest) → Q .none { s with heap := h', toks := tk' }) :
    wpAny (model PySem.Challenge.rw_ti0073_01.row.prog w) (ktrTop dp un gd cn cs L a ccd cl outer) (call (.ref 160) [.ref ac, .ref l]) Q E s := by
  (try k_fold)
  refine Mine.gk ?_
  intro Gz9 kz9
  obtain ⟨ap, pi, b, z, G, p1, p2⟩ := K
  refine kz9 ?_
  (try clear kz9 Gz9)
  refine reset_spec (items := [v2]) (k := kk) C (by kst_p2) (by kst_p2) ap.d ap.hac2 ap.hda (.tail _ (.tail _ (.tail _ hl))) (by rw [pi.length]; kst_p2) (by simp) ?_
  intro h' tk' n' t2' F' N'
  exact hret n' t2' h' tk' ⟨ap, .cons hv .nil, fun q hq' => (by rw [List.mem_singleton.mp hq']; exact hq), by simp, G, p1, p2⟩ F' N'
theorem append_F {A : Around} {v : Value} (F : Fr h₀ L s.heap m) (N : News h₀ L s.heap (Fst w ac da ls parts n t1 t2 ps ps2 lines k rest)) (ap : Ap ac da ls rest) (hz : lines.length ≤ 100)
    (h : ∀ k' h', Fr h₀ L h' m → News h₀ L h' (Fst w ac da ls parts n t1 t2 ps ps2 (lines ++ [v]) k' rest) → Q .none { s with heap := h' }) :
    wpAny (model PySem.Challenge.rw_ti0073_01.row.prog w) A (call (.builtin "list.append") [.ref ls, v]) Q E s := by
  refine my_append (vs := lines) (n := k) (rest := (ac, accO da parts n) :: (da, accD w 0 t1 t2) :: (140, plO ps) :: (147, plO ps2) :: rest) F N ?s9 ?h9 (by rw [sizeLine_eq]; kst_p2) ?_
  case s9 => kst_allIn
  case h9 => exact Mine.fmc (ap.l.symm) (Mine.fmc (ap.ld.symm) (Mine.fmc (ap.l1.symm) (Mine.fmc (ap.l2.symm) (fun q hq => (ap.r q hq).2.2.1))))
  intro h' F' N'
  exact h (k + 1) h' F' (nsub N' (by kst_allIn))
end
end Mine
end TCfmt

section TCnewl
open PySem PySem.W PyProof.Rows PySem.Spec PySem.Calls
set_option Elab.async false
set_option maxRecDepth 100000
set_option maxHeartbeats 4000000
set_option linter.unusedVariables false
set_option linter.unusedSimpArgs false

namespace Mine
theorem star_method {M : Model} {A : Around} {E : Value → Shared → Prop} {s : Shared} {o e : Expr} {name : Str} {apos pos p : Pos} {env : Env} {Q : Value → Shared → Prop}
    (h : wpAny M A (eval o env) (fun ov s₁ => wpAny M A (getAttr ov name true) (fun f s₂ => wpAny M A (callWith pos f [] (backTo pos (starEach [.Starred e p] env)) []) Q E s₂) E s₁) E s)
    (hb : attributeBase o name env (eval o env) = eval o env := by rfl) : wpAny M A (eval (.Call (.Attribute o name apos) [.Starred e p] [] pos) env) Q E s := by
  rw [arm_eval_Call, hb]
  refine wpAny_bind (wpAny_mono h (fun ov s₁ h₁ => wpAny_bind (wpAny_standAt ?_)) fun _ _ x => x)
  unfold methodCall
  have e1 : methodCallForm ([Expr.Starred e p].length + ([] : List Keyword).length) (backTo pos (starEach [.Starred e p] env)) (backToKw pos (keywordEach [] env)) = false := rfl
  rw [e1]
  unfold calleeOf methodCallPos
  refine wpAny_bind (wpAny_holding ?_)
  rw [if_neg (by decide)]
  refine wpAny_bind (wpAny_mono h₁ (fun f s₂ h₂ => wpAny_pure ?_) fun _ _ x => x)
  exact wpAny_bind (wpAny_pure h₂)
theorem shaped2 (f g : Str) (h : PyData.strOk f = true ∧ PyData.strOk g = true) : SeqAt.shaped (.tuple [.str f, .str g]) = true := by
  simp [SeqAt.shaped, PyData.canLay0, PyData.canLayAll0, PyData.depth, PyData.depthAll, h.1, h.2]
theorem ne_end (f g : Str) (h : 0 < g.length) : PyData.eqv (.tuple [.str f, .str g]) (.tuple [.str (Str.ofString " "), .str (Str.ofString "")]) = false := by
  have : (g == Str.ofString "") = false := by
    rw [beq_eq_false_iff_ne]
    rintro rfl
    exact absurd h (by decide)
  simp [PyData.eqv, PyData.eqvAll, this]
section
variable {w : World} {mean : ExcName → Option Value} {mg mb : Str → Option Value} {dp un : Nat} {gd : Option (List Code)} {cn : Str} {cs : Scope} {a : Addr} {ccd : Value} {cl : List (Str × Addr)} {outer : List Env} {A₀ : Around} {base h₀ : Heap} {L : Addr} {m : Str → Option Value} {news : List (Addr × Obj)} {s : Shared} {Q E : Value → Shared → Prop}

variable {rest : List (Addr × Obj)} {ac da ls fo : Addr} {parts lines : List Value} {n k : Nat} {t1 t2 : Tok} {ps ps2 : Array Value} {pps : List (Str × Str)} {wd : Int}
theorem newline_spec {v : Value} {f g : Str}
    (C : Cx w mean mg mb cs outer A₀ base h₀ L m (Fst w ac da ls (parts ++ [v]) n t1 t2 ps ps2 lines k rest) s) (hd1 : dp + 50 < recursionLimit) (hu : un + 300 < cLine) (K : FK ac da ls (parts ++ [v]) (pps ++ [(f, g)]) ps ps2 rest s.gens) (hF : FoldIn w rest fo wd ls ac)
    (hpos : 0 < g.length) (hok : PyData.strOk f = true ∧ PyData.strOk g = true) (hsp : Txt.isspace (strOf (pps ++ [(f, g)])) = false) (hlz : lines.length ≤ 100)
    (hret : ∀ n' t2' ps' ps2' k' h' g' tk' t', FK ac da ls [] [] ps' ps2' rest g' → Fr h₀ L h' m → News h₀ L h' (Fst w ac da ls [] n' t1 t2' ps' ps2' (lines ++ [.str (strOf (pps ++ [(f, g)])) t']) k' rest) → Q .none { s with heap := h', gens := g', toks := tk' }) :
    wpAny (model PySem.Challenge.rw_ti0073_01.row.prog w) (ktrTop dp un gd cn cs L a ccd cl outer) (call (.ref 56) [.ref fo]) Q E s := by
  obtain ⟨df, k1, k2, k3, k4, k5, k6, u1, u2, u3, u4, hfo, hdf⟩ := hF
  unfold foD at hdf
  have hz := K.z
  have hbv := K.b (f, g) (by simp)
  simp only [List.length_append, List.length_cons, List.length_nil] at hz
  have hlen : 0 < lenOf (pps ++ [(f, g)]) := by
    unfold lenOf
    rw [List.map_append, List.sum_append]
    simp
    kst_p2
  w_top off
  obtain ⟨B, F, X, N, T, hk⟩ := C
  revert X
  k_fill
  intro X
  k_dflt (refine' enter (binds := [(Str.ofString "self", .ref fo)]) B F X N T hk ?k6 ?k7 ?k8 ?k9 ?kB ?_ ?c2 ?c3 ?c4 ?c5; (case k6 => k_is); (case k7 => k_is); (case k8 => kst_p2); (case k9 => exact BindsTo.of_eq rfl); (case c5 => decide); (case kB => exact locs rfl); (case c2 => exact rfl); (case c3 => exact rfl); (case c4 => exact rfl))
  intro gH LF hF FG F1 N1 B1 X1 T1 lL
  simp only [List.reverse_cons, List.reverse_nil, List.nil_append, List.cons_append] at F1
  (try k_fold)
  (try (with_reducible refine (let A9 : PySem.Around := _; let e9 : PySem.Env := _; (?_ : PySem.wpAny _ A9 (PySem.execs _ e9) _ _ _))))
  w_strict repeat' ((fail_if_success (with_reducible show wpAny _ _ (call (.ref 138) _) _ _ _)); first | (k_here; (with_reducible show wpAny _ _ (PySem.getMethod (Value.ref _) _ _) _ _ _); k_dflt (first | (refine' Mine.acc_method (Mine.accF _ rfl) ?k1 ?k2 ?k3 ?k4 ?k5 ?_; (case k1 => exact Frag.In.keeps (by assumption) (Fr.keep (by k_asm))); (case k2 => exact Mine.news_acc (by k_asm) (by k_mem) (by k_mem)); (case k3 => k_is); (case k4 => k_is); (case k5 => rfl)) | (refine' Mine.acc_methodB (Mine.accF _ rfl) ?k1 ?k2 ?k3 ?k4 ?k5 ?_; (case k1 => exact Frag.In.keeps (by assumption) (Fr.keep (by k_asm))); (case k2 => exact Mine.news_acc (by k_asm) (by k_mem) (by k_mem)); (case k3 => k_is); (case k4 => k_is); (case k5 => rfl)))) | kla_enter)
  dsimp only
  rename Fr gH LF _ _ => F2
  rename News gH LF _ _ => N2
  refine pop_F (dp := dp + 1) (un := un + 3) (v := v) (p := (f, g)) (parts := parts) (pps := pps) (n := n) ⟨by assumption, F2, X1, N2, T1, ?kK⟩ (by kst_p2) (by kst_p2) K ?_
  case kK => first | exact rfl | assumption
  intro n3 h3 tk3 K3 hv F3 N3
  (try k_fold)
  first | (refine Mine.ex_3 hv ?_; (try clear hv); rintro tv tf tg h9E; refine Mine.cj_2 h9E ?_; clear h9E; rintro rfl htv) | (obtain ⟨tv, tf, tg, rfl, htv⟩ := hv)
  w_strict repeat' ((fail_if_success (with_reducible show wpAny _ _ (compareOp _ _ _) _ _ _)); kla_enter)
  rename Fr gH LF _ _ => F4
  rename News gH LF _ _ => N4
  refine ne_dataH (by ke_read) (by ke_read) (shaped2 _ _ hok) (by ke_shaped) (show un + 3 + 64 < cLine by kst_p2) ?_
  rw [ne_end f g hpos]
  w_strict repeat' ((fail_if_success (with_reducible show wpAny _ _ (eval (Expr.Call (Expr.Attribute _ _ _) [Expr.Starred _ _] _ _) _) _ _ _)); kla_enter)
  refine star_method ?_
  w_strict repeat' ((fail_if_success (with_reducible show wpAny _ _ (getAttr (Value.ref _) (Str.ofString "push") _) _ _ _)); kla_enter)
  rename_i D' _ lD
  refine acc_getM (od := accD w 0 t1 t2) (da := da) (parts := parts) (n := n3) (accF w rfl) (accPu w rfl) X1 F4 N4 (by k_mem) (by k_mem) rfl ?_
  intro qa h5 F5 N5 l5
  (try dsimp only)
  refine callWith_MS (K := hd.heap_1 w.params) (self := .ref ac) (accPu w rfl).f ?_
  walk1
  (try dsimp only)
  have hz2 : (#[Value.str f tf, Value.str g tg] : Array Value).size ≤ sizeLine := by rw [sizeLine_eq]; simp
  refine star_seq (ws := [.str f tf, .str g tg]) F5 N5 (.tail _ (.tail _ (.tail _ (.tail _ (.tail _ (.tail _ (.tail _ htv))))))) rfl rfl (.inr rfl) rfl hz2 ?_
  intro h6 F6 N6
  refine ⟨methP N6 (.head _) (X1.keeps F6.keep), ?_⟩
  refine call_meth N6 (.head _) ?_
  dsimp only [List.nil_append]
  refine push_F (dp := dp + 1) (un := un + 3) (f := f) (g := g) (pps := pps) (n := n3) (t1 := t1) (t2 := t2) (parts := parts) (ps := ps) (ps2 := ps2) (lines := lines) (k := k) (rest := rest) ⟨by assumption, F6, X1, nsub N6 ?s9, T1, ?kK⟩ (by kst_p2) (by kst_p2) K3 (by kst_p2) hbv ?_
  case kK => first | exact rfl | assumption
  case s9 => kst_allIn
  intro tu n8 h8 tk8 K8 l8 F8 N8
  dsimp only
  w_strict repeat' ((fail_if_success (with_reducible show wpAny _ _ (call (.builtin "len") _) _ _ _)); kla_enter)
  rename Fr gH LF _ _ => F9
  rename News gH LF _ _ => N9
  refine len_F (s := { s with heap := _, toks := _ }) (lines := lines) (k := k) (n := n8) (t1 := t1) (t2 := t2) ⟨by assumption, F9, X1, N9, T1, ?kK⟩ (by kst_p2) (by kst_p2) K8 ?_
  case kK => first | exact rfl | assumption
  intro pa ha ga tka ta Ka Fa Na
  dsimp only
  w_strict repeat' ((fail_if_success (with_reducible show wpAny _ _ (compareOp _ _ _) _ _ _)); kla_enter)
  w_strict repeat' ((fail_if_success (with_reducible show wpAny _ _ (call (.ref 167) _) _ _ _)); (fail_if_success (with_reducible show wpAny _ _ (call (.ref 160) _) _ _ _)); first | (k_here; (with_reducible show wpAny _ _ (PySem.getMethod (Value.ref _) _ _) _ _ _); k_dflt (first | (refine' Mine.acc_method (Mine.accF _ rfl) ?k1 ?k2 ?k3 ?k4 ?k5 ?_; (case k1 => exact Frag.In.keeps (by assumption) (Fr.keep (by k_asm))); (case k2 => exact Mine.news_acc (by k_asm) (by k_mem) (by k_mem)); (case k3 => k_is); (case k4 => k_is); (case k5 => rfl)) | (refine' Mine.acc_methodB (Mine.accF _ rfl) ?k1 ?k2 ?k3 ?k4 ?k5 ?_; (case k1 => exact Frag.In.keeps (by assumption) (Fr.keep (by k_asm))); (case k2 => exact Mine.news_acc (by k_asm) (by k_mem) (by k_mem)); (case k3 => k_is); (case k4 => k_is); (case k5 => rfl)))) | kla_enter)
  dsimp only
  refine ows_F (s := { s with heap := ha, gens := ga, toks := _ }) ⟨by assumption, Fa, X1, Na, T1, ?kK⟩ (by kst_p2) (by kst_p2) Ka hlen hsp ?_
  case kK => first | exact rfl | assumption
  intro pb pb2 hb' gb tkb Kb Fb Nb
  dsimp only
  w_strict repeat' ((fail_if_success (with_reducible show wpAny _ _ (call (.type "str") _) _ _ _)); kla_enter)
  refine str_F (s := { s with heap := hb', gens := gb, toks := _ }) ⟨by assumption, Fb, X1, Nb, T1, ?kK⟩ (by kst_p2) (by kst_p2) Kb ?_
  case kK => first | exact rfl | assumption
  intro pc2 hc gc tkc tc Kc Fc Nc
  dsimp only
  w_strict repeat' ((fail_if_success (with_reducible show wpAny _ _ (call (.builtin "list.append") _) _ _ _)); kla_enter)
  refine append_F Fc Nc Kc.ap hlz ?_
  intro kd hd' Fd Nd
  dsimp only
  w_strict repeat' ((fail_if_success (with_reducible show wpAny _ _ (call (.ref 160) _) _ _ _)); first | (k_here; (with_reducible show wpAny _ _ (PySem.getMethod (Value.ref _) _ _) _ _ _); k_dflt (first | (refine' Mine.acc_method (Mine.accF _ rfl) ?k1 ?k2 ?k3 ?k4 ?k5 ?_; (case k1 => exact Frag.In.keeps (by assumption) (Fr.keep (by k_asm))); (case k2 => exact Mine.news_acc (by k_asm) (by k_mem) (by k_mem)); (case k3 => k_is); (case k4 => k_is); (case k5 => rfl)) | (refine' Mine.acc_methodB (Mine.accF _ rfl) ?k1 ?k2 ?k3 ?k4 ?k5 ?_; (case k1 => exact Frag.In.keeps (by assumption) (Fr.keep (by k_asm))); (case k2 => exact Mine.news_acc (by k_asm) (by k_mem) (by k_mem)); (case k3 => k_is); (case k4 => k_is); (case k5 => rfl)))) | kla_enter)
  dsimp only
  refine reset0_F (s := { s with heap := hd', gens := gc, toks := _ }) ⟨by assumption, Fd, X1, Nd, T1, ?kK⟩ (by kst_p2) (by kst_p2) ⟨Kc.ap, Kc.pi, Kc.b, Kc.z, Kc.G, Kc.p1, Kc.p2⟩ ?_
  case kK => first | exact rfl | assumption
  intro ne te he tke Ke Fe Ne
  dsimp only
  w_strict repeat' kla_enter
  exact hret ne te pb pc2 kd _ gc _ tc ⟨K.ap, .nil, Ke.b, Ke.z, Ke.G, Ke.p1, Ke.p2⟩ (by assumption) (nsub (by assumption) (by kst_allIn))
end
end Mine
end TCnewl

section TCpop0
open PySem PySem.W PyProof.Rows PySem.Spec PySem.Calls
set_option Elab.async false
set_option maxRecDepth 100000
set_option maxHeartbeats 4000000
set_option linter.unusedVariables false
set_option linter.unusedSimpArgs false

namespace Mine
section
variable {w : World} {mean : ExcName → Option Value} {mg mb : Str → Option Value} {dp un : Nat} {gd : Option (List Code)} {cn : Str} {cs : Scope} {a : Addr} {ccd : Value} {cl : List (Str × Addr)} {outer : List Env} {A₀ : Around} {base h₀ : Heap} {L : Addr} {m : Str → Option Value} {news : List (Addr × Obj)} {s : Shared} {Q E : Value → Shared → Prop}

theorem pop0_spec {rest : List (Addr × Obj)} {ac da : Addr} {n : Nat} {t1 t2 : Tok} (C : Cx w mean mg mb cs outer A₀ base h₀ L m ((ac, accO da [] n) :: rest) s) (hd1 : dp + 20 < recursionLimit) (hu : un + 200 < cLine) (hap : ∀ q ∈ rest, q.1 ≠ ac) (hda : (da, accD w 0 t1 t2) ∈ rest)
    (hret : ∀ h' tk' t ta tb, Fr h₀ L h' m → News h₀ L h' ((t, tupO [.str (Str.ofString "") ta, .str (Str.ofString "") tb]) :: (ac, accO da [] n) :: rest) → (∀ q ∈ rest, q.1 < t) → ac < t → Q (.ref t) { s with heap := h', toks := tk' }) :
    wpAny (model PySem.Challenge.rw_ti0073_01.row.prog w) (ktrTop dp un gd cn cs L a ccd cl outer) (call (.ref 138) [.ref ac]) Q E s := by
  w_top off
  obtain ⟨B, F, X, N, T, hk⟩ := C
  revert X
  k_fill
  intro X
  k_dflt (refine' enterS (binds := [(Str.ofString "self", .ref ac)]) B F X N T hk ?k6 ?k7 ?k8 ?k9 ?kB ?_ ?c2 ?c3 ?c4 ?c5; (case k6 => k_is); (case k7 => k_is); (case k8 => kst_p2); (case k9 => exact BindsTo.of_eq rfl); (case c5 => decide); (case kB => exact locs rfl); (case c2 => exact rfl); (case c3 => exact rfl); (case c4 => exact rfl))
  intro gH LF hF FG F1 N1 B1 X1 T1 lL
  simp only [List.reverse_cons, List.reverse_nil, List.nil_append, List.cons_append] at F1
  (try k_fold)
  (try (with_reducible refine (let A9 : PySem.Around := _; let e9 : PySem.Env := _; (?_ : PySem.wpAny _ A9 (PySem.execs _ e9) _ _ _))))
  w_strict repeat' ((fail_if_success (with_reducible show wpAny _ _ (compareOp _ _ _) _ _ _)); first | (k_here; (with_reducible show wpAny _ _ (call (Value.ref 175) _) _ _ _); k_dflt (refine' Mine.count_spec ⟨?k1, ?k2, ?k3, ?k4, ?k5, ?kK⟩ ?kd ?ku ?q1 ?q2 ?_; (case k2 => k_asm); (case k1 => k_asm); (case k3 => k_asm); (case k4 => k_asm); (case k5 => k_asm); (case kK => first | exact rfl | assumption); (case kd => kst_p2); (case ku => kst_p2); (case q1 => k_mem); (case q2 => k_mem)); intro _ _ _ _ _; (try dsimp only); (try k_fold)) | (k_here; (with_reducible show wpAny _ _ (PySem.getMethod (Value.ref _) _ _) _ _ _); k_dflt (first | (refine' Mine.acc_method (Mine.accF _ rfl) ?k1 ?k2 ?k3 ?k4 ?k5 ?_; (case k1 => exact Frag.In.keeps (by assumption) (Fr.keep (by k_asm))); (case k2 => exact Mine.news_acc (by k_asm) (by k_mem) (by k_mem)); (case k3 => k_is); (case k4 => k_is); (case k5 => rfl)) | (refine' Mine.acc_methodB (Mine.accF _ rfl) ?k1 ?k2 ?k3 ?k4 ?k5 ?_; (case k1 => exact Frag.In.keeps (by assumption) (Fr.keep (by k_asm))); (case k2 => exact Mine.news_acc (by k_asm) (by k_mem) (by k_mem)); (case k3 => k_is); (case k4 => k_is); (case k5 => rfl)))) | kla_enter)
  (try k_unfold)
  (try dsimp only)
  w_strict repeat' kla_enter
  rename News h₀ L _ _ => N9
  rename_i D' _ _ _ l1 _ _ _
  exact hret _ _ D' _ _ (by assumption) N9 (kst_ltOf l1.2) l1.1
variable {rest : List (Addr × Obj)} {ac da ls fo : Addr} {parts lines : List Value} {n k : Nat} {t1 t2 : Tok} {ps ps2 : Array Value} {pps : List (Str × Str)} {wd : Int}
theorem newline0_spec
    (C : Cx w mean mg mb cs outer A₀ base h₀ L m (Fst w ac da ls [] n t1 t2 ps ps2 lines k rest) s) (hd1 : dp + 50 < recursionLimit) (hu : un + 300 < cLine) (K : FK ac da ls [] [] ps ps2 rest s.gens) (hF : FoldIn w rest fo wd ls ac)
    (hret : ∀ n' t2' ps' h' g' tk', FK ac da ls [] [] ps' ps2 rest g' → Fr h₀ L h' m → News h₀ L h' (Fst w ac da ls [] n' t1 t2' ps' ps2 lines k rest) → Q .none { s with heap := h', gens := g', toks := tk' }) :
    wpAny (model PySem.Challenge.rw_ti0073_01.row.prog w) (ktrTop dp un gd cn cs L a ccd cl outer) (call (.ref 56) [.ref fo]) Q E s := by
  obtain ⟨df, k1, k2, k3, k4, k5, k6, u1, u2, u3, u4, hfo, hdf⟩ := hF
  unfold foD at hdf
  w_top off
  obtain ⟨B, F, X, N, T, hk⟩ := C
  revert X
  k_fill
  intro X
  k_dflt (refine' enter (binds := [(Str.ofString "self", .ref fo)]) B F X N T hk ?k6 ?k7 ?k8 ?k9 ?kB ?_ ?c2 ?c3 ?c4 ?c5; (case k6 => k_is); (case k7 => k_is); (case k8 => kst_p2); (case k9 => exact BindsTo.of_eq rfl); (case c5 => decide); (case kB => exact locs rfl); (case c2 => exact rfl); (case c3 => exact rfl); (case c4 => exact rfl))
  intro gH LF hF FG F1 N1 B1 X1 T1 lL
  simp only [List.reverse_cons, List.reverse_nil, List.nil_append, List.cons_append] at F1
  (try k_fold)
  (try (with_reducible refine (let A9 : PySem.Around := _; let e9 : PySem.Env := _; (?_ : PySem.wpAny _ A9 (PySem.execs _ e9) _ _ _))))
  w_strict repeat' ((fail_if_success (with_reducible show wpAny _ _ (call (.ref 138) _) _ _ _)); first | (k_here; (with_reducible show wpAny _ _ (PySem.getMethod (Value.ref _) _ _) _ _ _); k_dflt (first | (refine' Mine.acc_method (Mine.accF _ rfl) ?k1 ?k2 ?k3 ?k4 ?k5 ?_; (case k1 => exact Frag.In.keeps (by assumption) (Fr.keep (by k_asm))); (case k2 => exact Mine.news_acc (by k_asm) (by k_mem) (by k_mem)); (case k3 => k_is); (case k4 => k_is); (case k5 => rfl)) | (refine' Mine.acc_methodB (Mine.accF _ rfl) ?k1 ?k2 ?k3 ?k4 ?k5 ?_; (case k1 => exact Frag.In.keeps (by assumption) (Fr.keep (by k_asm))); (case k2 => exact Mine.news_acc (by k_asm) (by k_mem) (by k_mem)); (case k3 => k_is); (case k4 => k_is); (case k5 => rfl)))) | kla_enter)
  dsimp only
  rename Fr gH LF _ _ => F2
  rename News gH LF _ _ => N2
  refine pop0_spec (dp := dp + 1) (un := un + 3) (n := n) ⟨by assumption, F2, X1, N2, T1, ?kK⟩ (by kst_p2) (by kst_p2) K.ap.hac (.head _) ?_
  case kK => first | exact rfl | assumption
  intro h3 tk3 tv tf tg F3 N3 l3 l3a
  w_strict repeat' ((fail_if_success (with_reducible show wpAny _ _ (compareOp _ _ _) _ _ _)); kla_enter)
  rename Fr gH LF _ _ => F4
  rename News gH LF _ _ => N4
  refine ne_dataH (by ke_read) (by ke_read) (by ke_shaped) (by ke_shaped) (show un + 3 + 64 < cLine by kst_p2) ?_
  rw [show PyData.eqv (.tuple [.str (Str.ofString ""), .str (Str.ofString "")]) (.tuple [.str (Str.ofString " "), .str (Str.ofString "")]) = false by decide +kernel]
  w_strict repeat' ((fail_if_success (with_reducible show wpAny _ _ (eval (Expr.Call (Expr.Attribute _ _ _) [Expr.Starred _ _] _ _) _) _ _ _)); kla_enter)
  refine star_method ?_
  w_strict repeat' ((fail_if_success (with_reducible show wpAny _ _ (getAttr (Value.ref _) (Str.ofString "push") _) _ _ _)); kla_enter)
  rename_i D' _ lD
  refine acc_getM (od := accD w 0 t1 t2) (da := da) (parts := []) (n := n) (accF w rfl) (accPu w rfl) X1 F4 N4 (by k_mem) (by k_mem) rfl ?_
  intro qa h5 F5 N5 l5
  (try dsimp only)
  refine callWith_MS (K := hd.heap_1 w.params) (self := .ref ac) (accPu w rfl).f ?_
  walk1
  (try dsimp only)
  have hz2 : (#[Value.str (Str.ofString "") tf, Value.str (Str.ofString "") tg] : Array Value).size ≤ sizeLine := by rw [sizeLine_eq]; simp
  refine star_seq (ws := [.str (Str.ofString "") tf, .str (Str.ofString "") tg]) F5 N5 (.tail _ (.tail _ (.head _))) rfl rfl (.inr rfl) rfl hz2 ?_
  intro h6 F6 N6
  refine ⟨methP N6 (.head _) (X1.keeps F6.keep), ?_⟩
  refine call_meth N6 (.head _) ?_
  dsimp only [List.nil_append]
  refine push_F (dp := dp + 1) (un := un + 3) (f := Str.ofString "") (g := Str.ofString "") (pps := []) (n := n) (t1 := t1) (t2 := t2) (parts := []) (ps := ps) (ps2 := ps2) (lines := lines) (k := k) (rest := rest) ⟨by assumption, F6, X1, nsub N6 ?s9, T1, ?kK⟩ (by kst_p2) (by kst_p2) K (by simp) (by decide) ?_
  case kK => first | exact rfl | assumption
  case s9 => kst_allIn
  intro tu n8 h8 tk8 K8 l8 F8 N8
  dsimp only
  w_strict repeat' ((fail_if_success (with_reducible show wpAny _ _ (call (.builtin "len") _) _ _ _)); kla_enter)
  rename Fr gH LF _ _ => F9
  rename News gH LF _ _ => N9
  refine len_F (s := { s with heap := _, toks := _ }) (lines := lines) (k := k) (n := n8) (t1 := t1) (t2 := t2) ⟨by assumption, F9, X1, N9, T1, ?kK⟩ (by kst_p2) (by kst_p2) K8 ?_
  case kK => first | exact rfl | assumption
  intro pa ha ga tka ta Ka Fa Na
  dsimp only
  rw [show lenOf ([] ++ [(Str.ofString "", Str.ofString "")]) = 0 from rfl]
  w_strict repeat' ((fail_if_success (with_reducible show wpAny _ _ (call (.ref 160) _) _ _ _)); (fail_if_success (with_reducible show wpAny _ _ (call (.ref 167) _) _ _ _)); first | (k_here; (with_reducible show wpAny _ _ (PySem.getMethod (Value.ref _) _ _) _ _ _); k_dflt (first | (refine' Mine.acc_method (Mine.accF _ rfl) ?k1 ?k2 ?k3 ?k4 ?k5 ?_; (case k1 => exact Frag.In.keeps (by assumption) (Fr.keep (by k_asm))); (case k2 => exact Mine.news_acc (by k_asm) (by k_mem) (by k_mem)); (case k3 => k_is); (case k4 => k_is); (case k5 => rfl)) | (refine' Mine.acc_methodB (Mine.accF _ rfl) ?k1 ?k2 ?k3 ?k4 ?k5 ?_; (case k1 => exact Frag.In.keeps (by assumption) (Fr.keep (by k_asm))); (case k2 => exact Mine.news_acc (by k_asm) (by k_mem) (by k_mem)); (case k3 => k_is); (case k4 => k_is); (case k5 => rfl)))) | kla_enter)
  dsimp only
  refine reset0_F (s := { s with heap := ha, gens := ga, toks := _ }) ⟨by assumption, Fa, X1, Na, T1, ?kK⟩ (by kst_p2) (by kst_p2) ⟨Ka.ap, Ka.pi, Ka.b, Ka.z, Ka.G, Ka.p1, Ka.p2⟩ ?_
  case kK => first | exact rfl | assumption
  intro ne te he tke Ke Fe Ne
  dsimp only
  w_strict repeat' kla_enter
  exact hret ne te pa _ ga _ ⟨K.ap, .nil, Ke.b, Ke.z, Ke.G, Ke.p1, Ke.p2⟩ (by assumption) (nsub (by assumption) (by kst_allIn))
end
end Mine
end TCpop0

section TCfstr
open PySem PySem.W PyProof.Rows PySem.Spec PySem.Calls
set_option Elab.async false
set_option maxRecDepth 100000
set_option maxHeartbeats 4000000
set_option linter.unusedVariables false
set_option linter.unusedSimpArgs false

namespace Mine
theorem StrsAre.sum_len {vs : List Value} {xs : List Str} (h : StrsAre vs xs) : vs.length = xs.length := by
  induction h with
  | nil => rfl
  | cons _ _ _ ih => simp [ih]
section
variable {w : World} {mean : ExcName → Option Value} {mg mb : Str → Option Value} {dp un : Nat} {gd : Option (List Code)} {cn : Str} {cs : Scope} {a : Addr} {ccd : Value} {cl : List (Str × Addr)} {outer : List Env} {A₀ : Around} {base h₀ : Heap} {L : Addr} {m : Str → Option Value} {news : List (Addr × Obj)} {s : Shared} {Q E : Value → Shared → Prop}

variable {rest : List (Addr × Obj)} {ac da ls fo : Addr} {parts lines : List Value} {n k : Nat} {t1 t2 : Tok} {ps ps2 : Array Value} {pps : List (Str × Str)} {wd : Int}
theorem fstr_spec {xs : List Str} {t : Tok}
    (C : Cx w mean mg mb cs outer A₀ base h₀ L m (Fst w ac da ls [] n t1 t2 ps ps2 lines k rest) s) (hd1 : dp + 60 < recursionLimit) (hu : un + 350 < cLine) (K : FK ac da ls [] [] ps ps2 rest s.gens) (hF : FoldIn w rest fo wd ls ac)
    (hx : StrsAre lines xs) (hz : (xs.map (·.length)).sum + xs.length ≤ 10000)
    (hret : ∀ n' t2' ps' h' g' tk' t', FK ac da ls [] [] ps' ps2 rest g' → Fr h₀ L h' m → News h₀ L h' (Fst w ac da ls [] n' t1 t2' ps' ps2 lines k rest) → Q (.str (Txt.join (Str.ofString "\n") xs) t') { s with heap := h', gens := g', toks := tk' }) :
    wpAny (model PySem.Challenge.rw_ti0073_01.row.prog w) (ktrTop dp un gd cn cs L a ccd cl outer) (call (.ref 42) [.ref fo, .str (Str.ofString "\n") t]) Q E s := by
  have hF' := hF
  obtain ⟨df, k1, k2, k3, k4, k5, k6, u1, u2, u3, u4, hfo, hdf⟩ := hF
  unfold foD at hdf
  w_top off
  obtain ⟨B, F, X, N, T, hk⟩ := C
  revert X
  k_fill
  intro X
  k_dflt (refine' enter (binds := [(Str.ofString "self", .ref fo), (Str.ofString "linesep", .str (Str.ofString "\n") t)]) B F X N T hk ?k6 ?k7 ?k8 ?k9 ?kB ?_ ?c2 ?c3 ?c4 ?c5; (case k6 => k_is); (case k7 => k_is); (case k8 => kst_p2); (case k9 => exact BindsTo.of_eq rfl); (case c5 => decide); (case kB => exact locs rfl); (case c2 => exact rfl); (case c3 => exact rfl); (case c4 => exact rfl))
  intro gH LF hF FG F1 N1 B1 X1 T1 lL
  simp only [List.reverse_cons, List.reverse_nil, List.nil_append, List.cons_append] at F1
  (try k_fold)
  (try (with_reducible refine (let A9 : PySem.Around := _; let e9 : PySem.Env := _; (?_ : PySem.wpAny _ A9 (PySem.execs _ e9) _ _ _))))
  w_strict repeat' ((fail_if_success (with_reducible show wpAny _ _ (call (.ref 56) _) _ _ _)); kla_enter)
  dsimp only
  rename Fr gH LF _ _ => F2
  rename News gH LF _ _ => N2
  refine newline0_spec (dp := dp + 1) (un := un + 3) (n := n) (wd := wd) ⟨by assumption, F2, X1, N2, T1, ?kK⟩ (by kst_p2) (by kst_p2) K hF' ?_
  case kK => first | exact rfl | assumption
  intro n3 te ps3 h3 g3 tk3 K3 F3 N3
  dsimp only
  w_strict repeat' ((fail_if_success (with_reducible show wpAny _ _ (call (.builtin "str.join") _) _ _ _)); kla_enter)
  refine join_list (News.isList N3 (.tail _ (.tail _ (.tail _ (.tail _ (.head _)))))) (by rw [List.toList_toArray]; exact hx) (by rw [show (Str.ofString "\n").length = 1 from rfl]; kst_p2) ?_
  intro t5 k5
  dsimp only
  w_strict repeat' kla_enter
  exact hret n3 te ps3 _ g3 _ t5 K3 (by assumption) (by assumption)
end
end Mine
end TCfstr

section TCchunk
open PySem PySem.W PyProof.Rows PySem.Spec PySem.Calls
set_option Elab.async false
set_option maxRecDepth 100000
set_option maxHeartbeats 4000000
set_option linter.unusedVariables false
set_option linter.unusedSimpArgs false

namespace Mine
section
variable {prog : Program} {w : World} {A : Around} {s : Shared} {env : Env} {h₀ : Heap} {L : Addr}
theorem ford1 {σ : Type} {Q : Flow → Shared → Prop} {E : Value → Shared → Prop} {x : Str} {px : Pos} {body orelse : List Stmt} {r : Addr} {t₀ u₀ v₀ : Tok} {m₀ : Str → Option Value}
    (G : σ → Array GenState) (Led : σ → List (Addr × Obj)) (ps : σ → List (Str × Value)) (P : Nat → σ → Prop) (c₀ : σ)
    (hL : env.locals = L) (hh : A.handled = none) (hr : IsRange s.heap r 1 0 (-1) t₀ u₀ v₀) (hg : s.gens = G c₀)
    (F : Fr h₀ L s.heap m₀) (N : News h₀ L s.heap (Led c₀)) (hk : ∀ p ∈ ps c₀, m₀ p.1 = some p.2) (hp : P 0 c₀)
    (turn : ∀ (c : σ) (t : Tok) (u : Str → Option Value) h tk it o, P 0 c → (∀ p ∈ Led c, p.1 ≠ it) →
      Fr h₀ L h (kstB u (ps c)) → News h₀ L h ((it, o) :: Led c) →
      wpAny (model prog w) A (assign (.Name x px) env (.int 1 t)) (fun _ s₂ => wpAny (model prog w) A (execs body env) (FPost h₀ L s G [(it, o)] [it] Led ps (P 1) Q) (fun _ _ => False) s₂) (fun _ _ => False) { s with heap := h, gens := G c, toks := tk })
    (done : ∀ (c : σ) (u : Str → Option Value) h tk, P 1 c → Fr h₀ L h (kstB u (ps c)) → News h₀ L h (Led c) →
      wpAny (model prog w) A (execs orelse env) Q (fun _ _ => False) { s with heap := h, gens := G c, toks := tk }) :
    wpAny (model prog w) A (pyIter (.ref r)) (fun it s₂ => codeAny (model prog w) A (.forLoop (.Name x px) it body orelse env) (fun r s' => match r with | .ok f => Q f s' | .error e => cameBackBy (model prog w) A env E e s') s₂) E s := by
  refine wpAny_pyIter_range hr (by decide) ?_
  have W := Walks.range (prog := prog) (w := w) hh s.heap.objs.size 1 (-1) 1
  have hn : Builtin.Range.rangeSize 1 0 (-1) = ((1 : Nat) : Int) := by decide
  refine for1 G Led ps P c₀ W (fun i h st => ⟨_, st⟩) hL ?_ ?_ (by show IsRangeIter _ _ _ _ _; rw [hn]; simpa using Heap.get?_push_size _ rfl) hg (F.push _) (fun p hp => ⟨Heap.get?_push_of_some _ (N p hp).1, (N p hp).2⟩) ?_ hk hp ?_ done
  · exact fun e => absurd F.ns.lt (e ▸ Nat.lt_irrefl _)
  · exact next_is_new F
  · intro p hp e
    exact absurd (Heap.lt_size (N p hp).1) (e ▸ Nat.lt_irrefl _)
  · rintro i c v u h tk o hi ⟨t, rfl⟩ hP hw F₁ N₁
    have hi0 : i = 0 := by kst_p2
    (try k_fold)
    subst hi0
    exact turn c t u h tk s.heap.objs.size o hP hw F₁ N₁
end
section
variable {w : World} {mean : ExcName → Option Value} {mg mb : Str → Option Value} {dp un : Nat} {gd : Option (List Code)} {cn : Str} {cs : Scope} {a : Addr} {ccd : Value} {cl : List (Str × Addr)} {outer : List Env} {A₀ : Around} {base h₀ : Heap} {L : Addr} {m : Str → Option Value} {news : List (Addr × Obj)} {s : Shared} {Q E : Value → Shared → Prop}

variable {rest : List (Addr × Obj)} {ac da ls fo : Addr} {parts lines : List Value} {n k : Nat} {t1 t2 : Tok} {ps ps2 : Array Value} {pps : List (Str × Str)} {wd : Int}
theorem chunk_a {f g : Str} {tf tg : Tok}
    (C : Cx w mean mg mb cs outer A₀ base h₀ L m (Fst w ac da ls parts n t1 t2 ps ps2 lines k rest) s) (hd1 : dp + 60 < recursionLimit) (hu : un + 350 < cLine) (K : FK ac da ls parts pps ps ps2 rest s.gens) (hF : FoldIn w rest fo wd ls ac)
    (hz : pps.length ≤ 5) (hb : f.length ≤ 100 ∧ g.length ≤ 100) (hw : (lenOf (pps ++ [(f, g)]) : Int) ≤ wd)
    (hret : ∀ t n' ps' h' g' tk', FK ac da ls (parts ++ [.ref t]) (pps ++ [(f, g)]) ps' ps2 ((t, tupO [.str f tf, .str g tg]) :: rest) g' → (∀ q ∈ rest, q.1 < t) → Fr h₀ L h' m → News h₀ L h' (Fst w ac da ls (parts ++ [.ref t]) n' t1 t2 ps' ps2 lines k ((t, tupO [.str f tf, .str g tg]) :: rest)) → Q .none { s with heap := h', gens := g', toks := tk' }) :
    wpAny (model PySem.Challenge.rw_ti0073_01.row.prog w) (ktrTop dp un gd cn cs L a ccd cl outer) (call (.ref 91) [.ref fo, .str f tf, .str g tg]) Q E s := by
  obtain ⟨df, k1, k2, k3, k4, k5, k6, u1, u2, u3, u4, hfo, hdf⟩ := hF
  unfold foD at hdf
  w_top off
  obtain ⟨B, F, X, N, T, hk⟩ := C
  revert X
  k_fill
  intro X
  k_dflt (refine' enter (binds := [(Str.ofString "self", .ref fo), (Str.ofString "fws", .str f tf), (Str.ofString "string", .str g tg)]) B F X N T hk ?k6 ?k7 ?k8 ?k9 ?kB ?_ ?c2 ?c3 ?c4 ?c5; (case k6 => k_is); (case k7 => k_is); (case k8 => kst_p2); (case k9 => exact BindsTo.of_eq rfl); (case c5 => decide); (case kB => exact locs rfl); (case c2 => exact rfl); (case c3 => exact rfl); (case c4 => exact rfl))
  intro gH LF hF FG F1 N1 B1 X1 T1 lL
  simp only [List.reverse_cons, List.reverse_nil, List.nil_append, List.cons_append] at F1
  (try k_fold)
  (try (with_reducible refine (let A9 : PySem.Around := _; let e9 : PySem.Env := _; (?_ : PySem.wpAny _ A9 (PySem.execs _ e9) _ _ _))))
  w_strict repeat' ((fail_if_success (with_reducible show wpAny _ _ (call (.ref 122) _) _ _ _)); first | (k_here; (with_reducible show wpAny _ _ (PySem.getMethod (Value.ref _) _ _) _ _ _); k_dflt (first | (refine' Mine.acc_method (Mine.accF _ rfl) ?k1 ?k2 ?k3 ?k4 ?k5 ?_; (case k1 => exact Frag.In.keeps (by assumption) (Fr.keep (by k_asm))); (case k2 => exact Mine.news_acc (by k_asm) (by k_mem) (by k_mem)); (case k3 => k_is); (case k4 => k_is); (case k5 => rfl)) | (refine' Mine.acc_methodB (Mine.accF _ rfl) ?k1 ?k2 ?k3 ?k4 ?k5 ?_; (case k1 => exact Frag.In.keeps (by assumption) (Fr.keep (by k_asm))); (case k2 => exact Mine.news_acc (by k_asm) (by k_mem) (by k_mem)); (case k3 => k_is); (case k4 => k_is); (case k5 => rfl)))) | kla_enter)
  (try dsimp only)
  rename Fr gH LF _ _ => F2
  rename News gH LF _ _ => N2
  refine wpAny_call (push_F (dp := dp + 1) (un := un + 3) (n := n) (rest := rest) (pps := pps) (ps := ps) (ps2 := ps2) (lines := lines) (k := k) (parts := parts) (t1 := t1) (t2 := t2) ⟨by assumption, F2, X1, N2, T1, ?kK⟩ (by kst_p2) (by kst_p2) K (by kst_p2) hb ?_)
  case kK => first | exact rfl | assumption
  intro t n3 h3 tk3 K3 l3 F3 N3
  (try dsimp only)
  w_strict repeat' ((fail_if_success (with_reducible show wpAny _ _ (call (.builtin "len") _) _ _ _)); kla_enter)
  rename Fr gH LF _ _ => F9
  rename News gH LF _ _ => N9
  refine len_F (s := { s with heap := _, toks := _ }) (lines := lines) (k := k) (n := n3) (t1 := t1) (t2 := t2) ⟨by assumption, F9, X1, N9, T1, ?kK⟩ (by kst_p2) (by kst_p2) K3 ?_
  case kK => first | exact rfl | assumption
  intro pa ha ga tka ta Ka Fa Na
  (try dsimp only)
  w_strict repeat' ((fail_if_success (with_reducible show wpAny _ _ (compareOp _ _ _) _ _ _)); kla_enter)
  w_strict repeat' kla_enter
  exact hret t n3 pa _ ga _ Ka l3 (by assumption) (by assumption)
end
end Mine
end TCchunk

section TCchunk2
open PySem PySem.W PyProof.Rows PySem.Spec PySem.Calls
set_option Elab.async false
set_option maxRecDepth 100000
set_option maxHeartbeats 4000000
set_option linter.unusedVariables false
set_option linter.unusedSimpArgs false

namespace Mine
theorem eq59 {cc : Nat} (h : cc = 59) : ((⟨#[cc]⟩ : Str) == Str.ofString ";") = true := by subst h; decide
theorem ne59 {cc : Nat} (h : cc ≠ 59) : ((⟨#[cc]⟩ : Str) == Str.ofString ";") = false := by
  rw [beq_eq_false_iff_ne]
  intro e
  have : (#[cc] : Array Nat) = #[59] := congrArg Str.cps e
  simp at this
  exact h this
section
variable {w : World} {mean : ExcName → Option Value} {mg mb : Str → Option Value} {dp un : Nat} {gd : Option (List Code)} {cn : Str} {cs : Scope} {a : Addr} {ccd : Value} {cl : List (Str × Addr)} {outer : List Env} {A₀ : Around} {base h₀ : Heap} {L : Addr} {m : Str → Option Value} {news : List (Addr × Obj)} {s : Shared} {Q E : Value → Shared → Prop}

variable {rest : List (Addr × Obj)} {ac da ls fo : Addr} {parts lines : List Value} {n k : Nat} {t1 t2 : Tok} {ps ps2 : Array Value} {pps : List (Str × Str)} {wd : Int}
theorem chunk_bc {cc : Nat} {f g f1 g1 : Str} {v1 : Value} {tf tg : Tok}
    (C : Cx w mean mg mb cs outer A₀ base h₀ L m (Fst w ac da ls [v1] n t1 t2 ps ps2 lines k rest) s) (hd1 : dp + 60 < recursionLimit) (hu : un + 350 < cLine) (K : FK ac da ls [v1] [(f1, g1)] ps ps2 rest s.gens) (hF : FoldIn w rest fo wd ls ac)
    (hb : f.length ≤ 100 ∧ g.length ≤ 100) (hw : wd < (lenOf [(f1, g1), (f, g)] : Int)) (hg1 : 1 ≤ g1.length) (hlast : Txt.item g1 (-1) = ⟨#[cc]⟩) (hlz : lines.length ≤ 100)
    (hret : cc = 59 → ∀ t n' t2' ps' ps2' k' h' g' tk' t', (∀ q ∈ rest, q.1 < t) → FK ac da ls [.ref t] [(f, g)] ps' ps2' ((t, tupO [.str f tf, .str g tg]) :: rest) g' → Fr h₀ L h' m → News h₀ L h' (Fst w ac da ls [.ref t] n' t1 t2' ps' ps2' (lines ++ [.str (strOf [(f1, g1)]) t']) k' ((t, tupO [.str f tf, .str g tg]) :: rest)) → Q .none { s with heap := h', gens := g', toks := tk' })
    (hret2 : cc ≠ 59 → ∀ t' n' ps' ps2' h' g' tk', (∀ q ∈ rest, q.1 < t') → FK ac da ls [v1, .ref t'] [(f1, g1), (f, g)] ps' ps2' ((t', tupO [.str f tf, .str g tg]) :: rest) g' → Fr h₀ L h' m → News h₀ L h' (Fst w ac da ls [v1, .ref t'] n' t1 t2 ps' ps2' lines k ((t', tupO [.str f tf, .str g tg]) :: rest)) → Q .none { s with heap := h', gens := g', toks := tk' }) :
    wpAny (model PySem.Challenge.rw_ti0073_01.row.prog w) (ktrTop dp un gd cn cs L a ccd cl outer) (call (.ref 91) [.ref fo, .str f tf, .str g tg]) Q E s := by
  obtain ⟨df, k1, k2, k3, k4, k5, k6, u1, u2, u3, u4, hfo, hdf⟩ := hF
  unfold foD at hdf
  (try k_fold)
  obtain ⟨tv, tfv, tgv, rfl, htv⟩ : PartIn rest v1 (f1, g1) := by
    have := K.pi
    (try k_fold)
    cases this with | cons h _ => exact h
  dsimp only at htv
  w_top off
  obtain ⟨B, F, X, N, T, hk⟩ := C
  revert X
  k_fill
  intro X
  k_dflt (refine' enter (binds := [(Str.ofString "self", .ref fo), (Str.ofString "fws", .str f tf), (Str.ofString "string", .str g tg)]) B F X N T hk ?k6 ?k7 ?k8 ?k9 ?kB ?_ ?c2 ?c3 ?c4 ?c5; (case k6 => k_is); (case k7 => k_is); (case k8 => kst_p2); (case k9 => exact BindsTo.of_eq rfl); (case c5 => decide); (case kB => exact locs rfl); (case c2 => exact rfl); (case c3 => exact rfl); (case c4 => exact rfl))
  intro gH LF hF FG F1 N1 B1 X1 T1 lL
  simp only [List.reverse_cons, List.reverse_nil, List.nil_append, List.cons_append] at F1
  (try k_fold)
  (try (with_reducible refine (let A9 : PySem.Around := _; let e9 : PySem.Env := _; (?_ : PySem.wpAny _ A9 (PySem.execs _ e9) _ _ _))))
  w_strict repeat' ((fail_if_success (with_reducible show wpAny _ _ (call (.ref 122) _) _ _ _)); first | (k_here; (with_reducible show wpAny _ _ (PySem.getMethod (Value.ref _) _ _) _ _ _); k_dflt (first | (refine' Mine.acc_method (Mine.accF _ rfl) ?k1 ?k2 ?k3 ?k4 ?k5 ?_; (case k1 => exact Frag.In.keeps (by assumption) (Fr.keep (by k_asm))); (case k2 => exact Mine.news_acc (by k_asm) (by k_mem) (by k_mem)); (case k3 => k_is); (case k4 => k_is); (case k5 => rfl)) | (refine' Mine.acc_methodB (Mine.accF _ rfl) ?k1 ?k2 ?k3 ?k4 ?k5 ?_; (case k1 => exact Frag.In.keeps (by assumption) (Fr.keep (by k_asm))); (case k2 => exact Mine.news_acc (by k_asm) (by k_mem) (by k_mem)); (case k3 => k_is); (case k4 => k_is); (case k5 => rfl)))) | kla_enter)
  (try dsimp only)
  rename Fr gH LF _ _ => F2
  rename News gH LF _ _ => N2
  refine wpAny_call (push_F (dp := dp + 1) (un := un + 3) (n := n) (rest := rest) (pps := [(f1, g1)]) (ps := ps) (ps2 := ps2) (lines := lines) (k := k) (parts := [.ref tv]) (t1 := t1) (t2 := t2) ⟨by assumption, F2, X1, N2, T1, ?kK⟩ (by kst_p2) (by kst_p2) K (by simp) hb ?_)
  case kK => first | exact rfl | assumption
  intro t n3 h3 tk3 K3 l3 F3 N3
  dsimp only
  w_strict repeat' ((fail_if_success (with_reducible show wpAny _ _ (call (.builtin "len") _) _ _ _)); kla_enter)
  rename Fr gH LF _ _ => F9
  rename News gH LF _ _ => N9
  refine len_F (s := { s with heap := _, toks := _ }) (lines := lines) (k := k) (n := n3) (t1 := t1) (t2 := t2) ⟨by assumption, F9, X1, N9, T1, ?kK⟩ (by kst_p2) (by kst_p2) K3 ?_
  case kK => first | exact rfl | assumption
  intro pa ha ga tka ta Ka Fa Na
  dsimp only
  w_strict repeat' ((fail_if_success (with_reducible show wpAny _ _ (compareOp _ _ _) _ _ _)); kla_enter)
  simp only [List.cons_append, List.nil_append] at Ka Na ⊢
  w_strict repeat' ((fail_if_success (with_reducible show wpAny _ _ (pyIter _) _ _ _)); (fail_if_success (with_reducible show wpAny _ _ (exec (Stmt.For _ _ _ _ _) _) _ _ _)); kla_enter)
  refine wpAny_For ?_
  w_strict repeat' ((fail_if_success (with_reducible show wpAny _ _ (pyIter _) _ _ _)); kla_enter)
  rename Fr gH LF _ _ => F4
  rename News gH LF _ _ => N4
  (try k_fold)
  refine' fors (L := LF) (σ := Unit) (fun _ => ga) (fun _ => Fst w ac da ls [.ref tv, .ref t] n3 t1 t2 pa ps2 lines k ((t, tupO [.str f tf, .str g tg]) :: rest))
    (fun _ => [(Str.ofString "self", .ref fo), (Str.ofString "fws", .str f tf), (Str.ofString "string", .str g tg)]) (fun i _ => i = 0 ∨ cc ≠ 59) () rfl rfl rfl F4 N4 ?mk1 (.inl rfl) ?mt1 ?md1
  case mk1 => kst_all
  case md1 =>
    intro c u h2 tk2 h9
    have h59 : cc ≠ 59 := h9.resolve_left (by decide)
    intro F3 N3
    dsimp only at F3 N3 ⊢
    w_strict repeat' ((fail_if_success (with_reducible show wpAny _ _ (call (.ref 138) _) _ _ _)); first | (k_here; (with_reducible show wpAny _ _ (PySem.getMethod (Value.ref _) _ _) _ _ _); k_dflt (first | (refine' Mine.acc_method (Mine.accF _ rfl) ?k1 ?k2 ?k3 ?k4 ?k5 ?_; (case k1 => exact Frag.In.keeps (by assumption) (Fr.keep (by k_asm))); (case k2 => exact Mine.news_acc (by k_asm) (by k_mem) (by k_mem)); (case k3 => k_is); (case k4 => k_is); (case k5 => rfl)) | (refine' Mine.acc_methodB (Mine.accF _ rfl) ?k1 ?k2 ?k3 ?k4 ?k5 ?_; (case k1 => exact Frag.In.keeps (by assumption) (Fr.keep (by k_asm))); (case k2 => exact Mine.news_acc (by k_asm) (by k_mem) (by k_mem)); (case k3 => k_is); (case k4 => k_is); (case k5 => rfl)))) | kla_enter)
    (try dsimp only)
    rename Fr gH LF _ _ => F5
    rename News gH LF _ _ => N5
    refine pop_F (s := { s with heap := _, gens := _, toks := _ }) (dp := dp + 1) (un := un + 3) (n := n3) (rest := (t, tupO [.str f tf, .str g tg]) :: rest) (parts := [.ref tv]) (v := .ref t) (p := (f, g)) (pps := [(f1, g1)]) (ps := pa) (ps2 := ps2) (lines := lines) (k := k) (t1 := t1) (t2 := t2) ⟨by assumption, F5, X1, nsub N5 ?s9, T1, ?kK⟩ (by kst_p2) (by kst_p2) Ka ?_
    case kK => first | exact rfl | assumption
    case s9 => simp only [List.cons_append, List.nil_append]; kst_allIn
    intro n5 h5 tk5 K5 hp5 F5 N5
    (try dsimp only)
    w_strict repeat' ((fail_if_success (with_reducible show wpAny _ _ (call (.ref 122) _) _ _ _)); first | (k_here; (with_reducible show wpAny _ _ (PySem.getMethod (Value.ref _) _ _) _ _ _); k_dflt (first | (refine' Mine.acc_method (Mine.accF _ rfl) ?k1 ?k2 ?k3 ?k4 ?k5 ?_; (case k1 => exact Frag.In.keeps (by assumption) (Fr.keep (by k_asm))); (case k2 => exact Mine.news_acc (by k_asm) (by k_mem) (by k_mem)); (case k3 => k_is); (case k4 => k_is); (case k5 => rfl)) | (refine' Mine.acc_methodB (Mine.accF _ rfl) ?k1 ?k2 ?k3 ?k4 ?k5 ?_; (case k1 => exact Frag.In.keeps (by assumption) (Fr.keep (by k_asm))); (case k2 => exact Mine.news_acc (by k_asm) (by k_mem) (by k_mem)); (case k3 => k_is); (case k4 => k_is); (case k5 => rfl)))) | (k_here; (with_reducible show wpAny _ _ (PySem.getAttr (Value.ref _) _ _) _ _ _); k_dflt (refine' Mine.acc_get (attr := none) (Mine.accF _ rfl) ?k1 ?k2 ?k3 ?k4 ?_; (case k1 => exact Frag.In.keeps (by assumption) (Fr.keep (by k_asm))); (case k2 => exact Mine.news_acc (by k_asm) (by k_mem) (by k_mem)); (case k3 => exact findObj_own (Mine.accF _ rfl).hdct (Mine.accF _ rfl).size rfl rfl); (case k4 => rfl))) | kla_enter)
    (try dsimp only)
    rename Fr gH LF _ _ => F6
    rename News gH LF _ _ => N6
    refine wpAny_call (push_F (s := { s with heap := _, gens := _, toks := _ }) (dp := dp + 1) (un := un + 3) (n := n5) (rest := (t, tupO [.str f tf, .str g tg]) :: rest) (pps := [(f1, g1)]) (ps := pa) (ps2 := ps2) (lines := lines) (k := k) (parts := [.ref tv]) (t1 := t1) (t2 := t2) ⟨by assumption, F6, X1, N6, T1, ?kK⟩ (by kst_p2) (by kst_p2) K5 (by simp) hb ?_)
    case kK => first | exact rfl | assumption
    intro t' ne he tke Ke le Fe Ne
    (try dsimp only)
    w_strict repeat' kla_enter
    rename Fr h₀ L _ _ => Fz
    rename News h₀ L _ _ => Nz
    refine hret2 h59 t' ne pa ps2 _ ga _ (fun q hq => le q (.tail _ hq)) ⟨K.ap.more (t := t') (o := tupO [.str f tf, .str g tg]) (Ke.ap.r (t', tupO [.str f tf, .str g tg]) (.head _)), .cons ⟨tv, tfv, tgv, rfl, .tail _ htv⟩ (.cons ⟨t', tf, tg, rfl, .head _⟩ .nil), Ke.b, Ke.z, Ke.G, Ke.p1, Ke.p2⟩ Fz (nsub Nz ?z9)
    case z9 => simp only [List.cons_append, List.nil_append] at Nz ⊢; kst_allIn
  case mt1 =>
    rintro i ⟨⟩ kc tc u h2 tk2 it o hkc hi59 hit F5 N5
    have hi0 : i = 0 := by
      have := hkc
      rw [show (Str.ofString ";").cps = #[59] from rfl] at this
      match i, this with
      | 0, _ => rfl
    (try k_fold)
    subst hi0
    have hkc' : kc = 59 := by
      have := hkc
      rw [show (Str.ofString ";").cps = #[59] from rfl] at this
      simpa using this.symm
    (try k_fold)
    subst hkc'
    dsimp only at F5 N5 ⊢
    w_strict repeat' ((fail_if_success (with_reducible show wpAny _ _ (exec (Stmt.For _ _ _ _ _) _) _ _ _)); kla_enter)
    refine wpAny_For ?_
    w_strict repeat' ((fail_if_success (with_reducible show wpAny _ _ (pyIter _) _ _ _)); (fail_if_success (with_reducible show wpAny _ _ (call (.ref 175) _) _ _ _)); first | (k_here; (with_reducible show wpAny _ _ (PySem.getMethod (Value.ref _) _ _) _ _ _); k_dflt (first | (refine' Mine.acc_method (Mine.accF _ rfl) ?k1 ?k2 ?k3 ?k4 ?k5 ?_; (case k1 => exact Frag.In.keeps (by assumption) (Fr.keep (by k_asm))); (case k2 => exact Mine.news_acc (by k_asm) (by k_mem) (by k_mem)); (case k3 => k_is); (case k4 => k_is); (case k5 => rfl)) | (refine' Mine.acc_methodB (Mine.accF _ rfl) ?k1 ?k2 ?k3 ?k4 ?k5 ?_; (case k1 => exact Frag.In.keeps (by assumption) (Fr.keep (by k_asm))); (case k2 => exact Mine.news_acc (by k_asm) (by k_mem) (by k_mem)); (case k3 => k_is); (case k4 => k_is); (case k5 => rfl)))) | kla_enter)
    rename Fr gH LF _ _ => F6
    rename News gH LF _ _ => N6
    refine count_spec (dp := dp + 1) (un := un + 3) ⟨by assumption, F6, X1, N6, T1, ?kK⟩ (by kst_p2) (by kst_p2) (.tail _ (.head _)) (.tail _ (.tail _ (.head _))) ?_
    case kK => first | exact rfl | assumption
    intro h7 tk7 t7 F7 N7
    (try dsimp only)
    w_strict repeat' ((fail_if_success (with_reducible show wpAny _ _ (pyIter _) _ _ _)); kla_enter)
    rename IsRange _ _ _ _ _ _ _ _ => R8
    rename Fr gH LF _ _ => F8
    rename News gH LF _ _ => N8
    (try k_fold)
    refine' ford1 (L := LF) (σ := Unit) (fun _ => ga) (fun _ => (it, o) :: Fst w ac da ls [.ref tv, .ref t] n3 t1 t2 pa ps2 lines k ((t, tupO [.str f tf, .str g tg]) :: rest))
      (fun _ => [(Str.ofString "self", .ref fo), (Str.ofString "fws", .str f tf), (Str.ofString "string", .str g tg), (Str.ofString "ch", .str (Str.ofString ";") tc)]) (fun i _ => i = 0 ∨ cc ≠ 59) () rfl rfl R8 rfl F8 N8 ?mk2 (.inl rfl) ?mt2 ?md2
    case mk2 => kst_all
    case md2 =>
      intro c u h2 tk2 h9 F3 N3
      have h59 : cc ≠ 59 := h9.resolve_left (by decide)
      dsimp only at F3 N3 ⊢
      w_strict repeat' kla_enter
      rename Fr gH LF _ _ => F7
      rename News gH LF _ _ => N7
      refine' fend () F7 N7 (by kst_allIn) (by kst_allIn) (fun p hp e => hit p hp (List.mem_singleton.mp e)) ?wf3 (.inr h59)
      case wf3 => kst_all
    case mt2 =>
      rintro ⟨⟩ t9 u9 h9 tk9 it9 o9 - hit9 F9 N9
      dsimp only at F9 N9 ⊢
      w_strict repeat' ((fail_if_success (with_reducible show wpAny _ _ (getItem _ _) _ _ _)); (fail_if_success (with_reducible show wpAny _ _ (subscriptTail _ _ _ _) _ _ _)); kla_enter)
      rename Fr gH LF _ _ => Fa9
      rename News gH LF _ _ => Na9
      refine acc_tail (accF w rfl) (X1.keeps Fa9.keep) (news_acc Na9 (.tail _ (.tail _ (.head _))) (.tail _ (.tail _ (.tail _ (.head _))))) (acc_itemZ (v := .ref tv) (accF w rfl) (X1.keeps Fa9.keep) (news_acc Na9 (.tail _ (.tail _ (.head _))) (.tail _ (.tail _ (.tail _ (.head _))))) (acc_noseq w rfl) rfl (by decide) (by decide) rfl ?it) (by first | exact .inl rfl | exact .inr rfl)
      case it =>
        (try dsimp only)
        w_strict repeat' ((fail_if_success (with_reducible show wpAny _ _ (truthy (Value.str _ _)) _ _ _)); kla_enter)
        have hg100 : g1.length ≤ 100 := (K.b (f1, g1) (.head _)).2
        refine KXt.truthy_pos hg1 (Nat.le_refl _) (by kst_p2) fun kk => ?_
        (try dsimp only)
        w_strict repeat' ((fail_if_success (with_reducible show wpAny _ _ (subscriptTail _ _ (Value.str _ _) _) _ _ _)); kla_enter)
        refine item_str (fitsSsize_of (N := 9223372036854775808) (by kst_p2) (by kst_p2) (Int.le_refl _)) (by kst_p2) (by kst_p2) (fun _ => ?_) (by with_unfolding_all rfl) (by intro _; with_unfolding_all rfl)
        rw [hlast]
        w_strict repeat' ((fail_if_success (with_reducible show wpAny _ _ (compareOp _ _ _) _ _ _)); kla_enter)
        refine eq_str ?_
        by_cases h59 : cc = 59
        case neg =>
          rw [show ((⟨#[cc]⟩ : Str) == _) = false from ne59 h59]
          w_strict repeat' kla_enter
          rename Fr gH LF _ _ => F7
          rename News gH LF _ _ => N7
          refine' fend () F7 N7 (by kst_allIn) (by kst_allIn) (fun p hp e => hit9 p hp (List.mem_singleton.mp e)) ?wf3 (.inr h59)
          case wf3 => kst_all
        rw [show ((⟨#[cc]⟩ : Str) == _) = true from eq59 h59]
        w_strict repeat' ((fail_if_success (with_reducible show wpAny _ _ (call (.ref 130) _) _ _ _)); first | (k_here; (with_reducible show wpAny _ _ (PySem.getMethod (Value.ref _) _ _) _ _ _); k_dflt (first | (refine' Mine.acc_method (Mine.accF _ rfl) ?k1 ?k2 ?k3 ?k4 ?k5 ?_; (case k1 => exact Frag.In.keeps (by assumption) (Fr.keep (by k_asm))); (case k2 => exact Mine.news_acc (by k_asm) (by k_mem) (by k_mem)); (case k3 => k_is); (case k4 => k_is); (case k5 => rfl)) | (refine' Mine.acc_methodB (Mine.accF _ rfl) ?k1 ?k2 ?k3 ?k4 ?k5 ?_; (case k1 => exact Frag.In.keeps (by assumption) (Fr.keep (by k_asm))); (case k2 => exact Mine.news_acc (by k_asm) (by k_mem) (by k_mem)); (case k3 => k_is); (case k4 => k_is); (case k5 => rfl)))) | kla_enter)
        (try dsimp only)
        rename Fr gH LF _ _ => Fb
        rename News gH LF _ _ => Nb
        refine popf_F (dp := dp + 1) (un := un + 3) (n := n3) (rest := (t, tupO [.str f tf, .str g tg]) :: rest) (q1 := (f1, g1)) (q2 := (f, g)) (ps := pa) (ps2 := ps2) (lines := lines) (k := k) (t1 := t1) (t2 := t2) ⟨by assumption, Fb, X1, nsub Nb ?s9, T1, ?kK⟩ (by kst_p2) (by kst_p2) Ka ?_
        case kK => first | exact rfl | assumption
        case s9 => kst_allIn
        intro pp nc hc tkc Kc hv2 Fc Nc
        (try dsimp only)
        w_strict repeat' ((fail_if_success (with_reducible show wpAny _ _ (call (.type "str") _) _ _ _)); kla_enter)
        rename Fr gH LF _ _ => Fd
        rename News gH LF _ _ => Nd
        refine str_F (s := { s with heap := _, gens := _, toks := _ }) (rest := (pp, listOf #[.ref t] 0) :: (t, tupO [.str f tf, .str g tg]) :: rest) (n := nc) (ps := pa) (ps2 := ps2) (lines := lines) (k := k) (t1 := t1) (t2 := t2) ⟨by assumption, Fd, X1, Nd, T1, ?kK⟩ (by kst_p2) (by kst_p2) Kc ?_
        case kK => first | exact rfl | assumption
        intro pe2 he ge tke te Ke Fe Ne
        (try dsimp only)
        w_strict repeat' ((fail_if_success (with_reducible show wpAny _ _ (call (.builtin "list.append") _) _ _ _)); kla_enter)
        refine append_F Fe Ne Ke.ap hlz ?_
        intro kf hf Ff Nf
        (try dsimp only)
        w_strict repeat' ((fail_if_success (with_reducible show wpAny _ _ (call (.ref 160) _) _ _ _)); first | (k_here; (with_reducible show wpAny _ _ (PySem.getMethod (Value.ref _) _ _) _ _ _); k_dflt (first | (refine' Mine.acc_method (Mine.accF _ rfl) ?k1 ?k2 ?k3 ?k4 ?k5 ?_; (case k1 => exact Frag.In.keeps (by assumption) (Fr.keep (by k_asm))); (case k2 => exact Mine.news_acc (by k_asm) (by k_mem) (by k_mem)); (case k3 => k_is); (case k4 => k_is); (case k5 => rfl)) | (refine' Mine.acc_methodB (Mine.accF _ rfl) ?k1 ?k2 ?k3 ?k4 ?k5 ?_; (case k1 => exact Frag.In.keeps (by assumption) (Fr.keep (by k_asm))); (case k2 => exact Mine.news_acc (by k_asm) (by k_mem) (by k_mem)); (case k3 => k_is); (case k4 => k_is); (case k5 => rfl)))) | kla_enter)
        (try dsimp only)
        refine reset_F (s := { s with heap := hf, gens := ge, toks := _ }) (kk := 0) ⟨by assumption, Ff, X1, Nf, T1, ?kK⟩ (by kst_p2) (by kst_p2) ⟨Ke.ap, Ke.pi, Ke.b, Ke.z, Ke.G, Ke.p1, Ke.p2⟩ (.head _) (by obtain ⟨y, ya, yb, e, hy⟩ := hv2; exact ⟨y, ya, yb, e, .tail _ hy⟩) hb ?_
        case kK => first | exact rfl | assumption
        intro ng tg2 hg tkg Kg Fg Ng
        (try dsimp only)
        w_strict repeat' kla_enter
        rename Fr h₀ L _ _ => Fz
        rename News h₀ L _ _ => Nz
        refine hret h59 t ng tg2 pa pe2 kf _ ge _ te l3 ⟨K3.ap, .cons ⟨t, tf, tg, rfl, .head _⟩ .nil, Kg.b, Kg.z, Kg.G, Kg.p1, Kg.p2⟩ Fz (nsub Nz ?z9)
        case z9 => kst_allIn
end
end Mine
end TCchunk2

section TForz
open PySem PySem.W PyProof.Rows PySem.Spec PySem.Calls PyProof PyProof.Rows.LCg
set_option Elab.async false
set_option maxRecDepth 100000
set_option maxHeartbeats 4000000
set_option linter.unusedVariables false
namespace Mine
section
variable {prog : Program} {w : World} {A : Around} {E : Value → Shared → Prop} {s : Shared} {env : Env} {h₀ : Heap} {L : Addr}
theorem forkt {σ : Type} {R : Result → Shared → Prop} {target : Expr} {body orelse : List Stmt} {I : Addr} {fp wr : List Addr} {n : Nat} {PV Md : Nat → Value → Heap → Prop} {St : Nat → Heap → Prop} {m₀ : Str → Option Value}
    (G : σ → Array GenState) (Led : σ → List (Addr × Obj)) (ps : σ → List (Str × Value)) (P : Nat → σ → Prop) (c₀ : σ)
    (W : KTurns prog w A target I fp wr n PV Md St)
    (hLf : env.locals ∉ fp) (hwr : ∀ b ∈ wr, h₀.get? b = none) (hst : St 0 s.heap) (hg : s.gens = G c₀)
    (F : Fr h₀ env.locals s.heap m₀) (N : News h₀ env.locals s.heap (Led c₀)) (hw : ∀ p ∈ Led c₀, p.1 ∉ wr) (hk : ∀ p ∈ ps c₀, m₀ p.1 = some p.2) (hp : P 0 c₀)
    (turn : ∀ (i : Nat) (c : σ) (v : Value) (u : Str → Option Value) h tk own, i < n → PV i v h → P i c → (∀ p ∈ own, p.1 ∈ fp) → (∀ b ∈ fp, h₀.get? b = none → ∀ o, h.get? b = some o → (b, o) ∈ own) → St (i + 1) h → (∀ p ∈ Led c, p.1 ∉ wr) →
      Fr h₀ env.locals h (kstB u (ps c)) → News h₀ env.locals h (own ++ Led c) →
      wpAny (model prog w) A (assign target env v) (fun _ s₂ => wpAny (model prog w) A (execs body env) (FPost h₀ env.locals s G own wr Led ps (P (i + 1)) (fun f s' => match f with | .next => R (.ok .next) s' | f => R (.ok f) s')) (fun _ _ => False) s₂) (fun _ _ => False) { s with heap := h, gens := G c, toks := tk })
    (done : ∀ (c : σ) (u : Str → Option Value) h tk, P n c → Fr h₀ env.locals h (kstB u (ps c)) → News h₀ env.locals h (Led c) →
      wpAny (model prog w) A (execs orelse env) (fun f s₃ => R (.ok f) s₃) (fun _ _ => False) { s with heap := h, gens := G c, toks := tk }) :
    codeAny (model prog w) A (.forLoop target (.ref I) body orelse env) R s := by
  have hLw : env.locals ∉ wr := fun h => hLf (W.sub _ h)
  have old : ∀ b o, h₀.get? b = some o → b ∉ wr := fun b o e hb => by rw [hwr b hb] at e; cases e
  refine codeAny_forLoop_any
    (FI n s h₀ env.locals G Led ps St wr P) ?_ n
    ⟨s.heap, s.toks, m₀, 0, c₀, by rw [← hg], hst, F, N, hw, hk, hp, Nat.zero_le _, rfl⟩
  rintro k s' ⟨h', tk, m', i, c, rfl, hst', F', N', hw', hk', hP', hi, rfl⟩
  have next : ∀ h₁ : Heap, (∀ b o, b ∉ wr → h'.get? b = some o → h₁.get? b = some o) → Fr h₀ env.locals h₁ (kstB m' (ps c)) ∧ News h₀ env.locals h₁ (Led c) := fun h₁ hk₁ => by
    rw [kst_agree hk']
    exact ⟨⟨F'.ns.at' fun o e => hk₁ _ o hLw e, fun b o e => hk₁ b o (old b o e) (F'.keep b o e), F'.above⟩, fun p hp => ⟨hk₁ _ _ (hw' p hp) (N' p hp).1, (N' p hp).2⟩⟩
  by_cases hlt : i < n
  · refine W.item i _ _ _ hlt hst' fun v h₁ tk₁ hMd hk₁ => ?_
    dsimp only
    refine W.go i v _ _ _ hMd fun hB hPV hst₂ hk₂ => ?_
    obtain ⟨F₁, N₁⟩ := next hB fun b o hb x => hk₂ b o hb (hk₁ b o hb x)
    have Nown : News h₀ env.locals hB (PyProof.Rows.ownOf h₀ fp hB) := news_ownOf hLf
    have Nall : News h₀ env.locals hB (PyProof.Rows.ownOf h₀ fp hB ++ Led c) := fun p hp => (List.mem_append.mp hp).elim (Nown p) (N₁ p)
    refine wpAny_mono (turn i c v m' hB tk₁ _ hlt hPV hP' ownOf_sub (fun b hb hn o e => mem_ownOf hb hn e) hst₂ hw' F₁ Nall) (fun _ s₂ h₂ => wpAny_mono h₂ (fun f s₃ h₃ => ?_) fun _ _ x => x.elim) fun _ _ x => x.elim
    have up : FEnd h₀ env.locals s G (PyProof.Rows.ownOf h₀ fp hB) wr Led ps (P (i + 1)) s₃ → ∃ m, m < n - i ∧ FI n s h₀ env.locals G Led ps St wr P m s₃ := by
      rintro ⟨c', h₃', tk₃, m₃, news₃, rfl, F₃, N₃, ho₃, hn₃, hw₃, hk₃, hP₃⟩
      refine ⟨n - (i + 1), by kst_p2, h₃', tk₃, m₃, i + 1, c', rfl, ?_, F₃, fun p hp => N₃ p (hn₃ p hp), hw₃, hk₃, hP₃, hlt, rfl⟩
      refine W.frame _ _ _ hst₂ fun b hb o e => ?_
      cases hn : h₀.get? b with
      | some o₀ =>
        have : o₀ = o := by have := F₁.keep b o₀ hn; rw [e] at this; exact (Option.some.inj this).symm
        exact this ▸ F₃.keep b o₀ hn
      | none => exact (N₃ _ (ho₃ _ (mem_ownOf hb hn e))).1
    cases f with
    | ret v => exact h₃
    | brk => exact h₃
    | next => exact up h₃
    | cont => exact up h₃
  · have hin : i = n := by kst_p2
    refine W.done _ _ _ (hin ▸ hst') fun h₁ tk₁ hk₁ => ?_
    obtain ⟨F₁, N₁⟩ := next h₁ hk₁
    exact wpAny_mono (done c m' h₁ tk₁ (hin ▸ hP') F₁ N₁) (fun _ _ x => x) fun _ _ x => x.elim
theorem forz {σ : Type} {Q : Flow → Shared → Prop} {E : Value → Shared → Prop} {elts : List Expr} {kk : Nat} {tp : Pos} {body orelse : List Stmt} {l1 l2 : Addr} {xs ys₀ : List Value} {n1 n2 n : Nat} {m₀ : Str → Option Value}
    (G : σ → Array GenState) (Led : σ → List (Addr × Obj)) (ps : σ → List (Str × Value)) (P : Nat → σ → Prop) (c₀ : σ)
    (hL : env.locals = L) (hh : A.handled = none) (hl1 : ∀ c, (l1, listOf xs.toArray n1) ∈ Led c) (hl2 : ∀ c, (l2, listOf ys₀.toArray n2) ∈ Led c) (hn1 : xs.length = n) (hn2 : ys₀.length = n) (hg : s.gens = G c₀)
    (F : Fr h₀ L s.heap m₀) (N : News h₀ L s.heap (Led c₀)) (hk : ∀ p ∈ ps c₀, m₀ p.1 = some p.2) (hp : P 0 c₀)
    (turn : ∀ (i : Nat) (c : σ) (x y : Value) (u : Str → Option Value) h tk T z TI TO i1 i2 oz oTI oTO o1 o2, i < n → xs[i]? = some x → ys₀[i]? = some y → P i c → (∀ p ∈ Led c, p.1 ∉ [z, TI, TO, i1, i2]) → h.IsTuple T #[x, y] →
      Fr h₀ L h (kstB u (ps c)) → News h₀ L h ((z, oz) :: (TI, oTI) :: (TO, oTO) :: (i1, o1) :: (i2, o2) :: Led c) →
      wpAny (model prog w) A (assign (.Tuple elts kk tp) env (.ref T)) (fun _ s₂ => wpAny (model prog w) A (execs body env) (FPost h₀ L s G [(z, oz), (TI, oTI), (TO, oTO), (i1, o1), (i2, o2)] [z, TI, TO, i1, i2] Led ps (P (i + 1)) Q) (fun _ _ => False) s₂) (fun _ _ => False) { s with heap := h, gens := G c, toks := tk })
    (done : ∀ (c : σ) (u : Str → Option Value) h tk, P n c → Fr h₀ L h (kstB u (ps c)) → News h₀ L h (Led c) →
      wpAny (model prog w) A (execs orelse env) Q (fun _ _ => False) { s with heap := h, gens := G c, toks := tk }) :
    wpAny (model prog w) A (call (.type "zip") [.ref l1, .ref l2]) (fun xv s₁ => wpAny (model prog w) A (pyIter xv) (fun it s₂ => codeAny (model prog w) A (.forLoop (.Tuple elts kk tp) it body orelse env) (fun r s' => match r with | .ok f => Q f s' | .error e => cameBackBy (model prog w) A env E e s') s₂) E s₁) E s := by
  subst hL
  have ha1 := N _ (hl1 c₀)
  have ha2 := N _ (hl2 c₀)
  have hls1 : s.heap.IsList l1 xs.toArray := ⟨_, ha1.1, rfl, _, rfl⟩
  have hls2 : s.heap.IsList l2 ys₀.toArray := ⟨_, ha2.1, rfl, _, rfl⟩
  have hlt1 : l1 < s.heap.objs.size := Heap.lt_size ha1.1
  have hlt2 : l2 < s.heap.objs.size := Heap.lt_size ha2.1
  have hLs : env.locals < s.heap.objs.size := F.ns.lt
  have D₀ : ZipApart (s.heap.objs.size + 4) (s.heap.objs.size + 2) (s.heap.objs.size + 3) s.heap.objs.size (s.heap.objs.size + 1) l1 l2 := ktu_apart _ _ _ hlt1 hlt2
  refine call_zip_2 hls1 hls2 fun h' hz hTI hTO hi1 hi2 hsz' hk => ?_
  refine wpAny_pyIter_zip hz ?_
  have hmin : min xs.toArray.size ys₀.toArray.size = n := by simp [hn1, hn2]
  have W₀ := (WalksT.zip2 (prog := prog) (w := w) hh _ _ _ _ _ _ _ D₀ xs.toArray ys₀.toArray).toU
  rw [hmin] at W₀
  have W := KTurns.ofWalksU (elts := elts) (k := kk) (pos := tp) W₀
  have hnew : ∀ b, s.heap.objs.size ≤ b → h₀.get? b = none := fun b hb => ktu_new F hb
  refine forkt (s := { s with heap := h' }) G Led ps (fun i c => P i c ∧ ∀ p ∈ Led c, p.1 ≠ s.heap.objs.size + 2) c₀ W ?_ ?_ ⟨hz, hTI, ⟨_, _, hTO⟩, hi1, hi2, hls1.at fun o e => hk _ o e, hls2.at fun o e => hk _ o e⟩ hg (F.keeps hk) (N.grown hk) ?_ ‹_› ⟨hp, ?_⟩ ?_ ?_
  · intro hm
    rcases zmem7 hm with e | e | e
    · exact absurd hLs (Nat.not_lt.mpr e.1)
    · exact ha1.2.1 e.symm
    · exact ha2.2.1 e.symm
  · intro b hb
    exact hnew b (zmem4 hb).1
  · intro p hp hI
    exact absurd (Heap.lt_size (N p hp).1) (Nat.not_lt.mpr (zmem4 hI).1)
  · intro p hp hI
    exact absurd (Heap.lt_size (N p hp).1) (Nat.not_lt.mpr (hI ▸ Nat.le_add_right _ _))
  · intro i c v u h tk own hi hPV hPT hown hown2 hst₁ hw F₁ N₁
    obtain ⟨hP, hTIn⟩ := hPT
    refine Mine.gk ?_
    intro Gz9 kz9
    obtain ⟨T, vals, rfl, ⟨x, y, hx, hy, rfl⟩, hT⟩ := hPV
    refine kz9 ?_
    (try clear kz9 Gz9)
    have hx' : xs[i]? = some x := by simpa using hx
    have hy' : ys₀[i]? = some y := by simpa using hy
    refine Mine.gk ?_
    intro Gz9 kz9
    obtain ⟨hz₁, hTI₁, ⟨a₁, b₁, hTO₁⟩, ⟨o1, ho1, _⟩, ⟨o2, ho2, _⟩, _⟩ := hst₁
    refine kz9 ?_
    (try clear kz9 Gz9)
    obtain ⟨oz, ez⟩ : ∃ o, h.get? (s.heap.objs.size + 4) = some o := ⟨_, hz₁⟩
    obtain ⟨oTI, eTI⟩ : ∃ o, h.get? (s.heap.objs.size + 2) = some o := ⟨_, hTI₁⟩
    obtain ⟨oTO, eTO⟩ : ∃ o, h.get? (s.heap.objs.size + 3) = some o := ⟨_, hTO₁⟩
    have mz := hown2 _ (by simp) (hnew _ (Nat.le_add_right _ _)) _ ez
    have mTI := hown2 _ (by simp) (hnew _ (Nat.le_add_right _ _)) _ eTI
    have mTO := hown2 _ (by simp) (hnew _ (Nat.le_add_right _ _)) _ eTO
    have m1 := hown2 _ (by simp) (hnew _ (Nat.le_refl _)) _ ho1
    have m2' := hown2 _ (by simp) (hnew _ (Nat.le_add_right _ _)) _ ho2
    have N₂ : News h₀ env.locals h ((s.heap.objs.size + 4, oz) :: (s.heap.objs.size + 2, oTI) :: (s.heap.objs.size + 3, oTO) :: (s.heap.objs.size, o1) :: (s.heap.objs.size + 1, o2) :: Led c) := Mine.fmc (N₁ _ (List.mem_append.mpr (.inl mz))) (Mine.fmc (N₁ _ (List.mem_append.mpr (.inl mTI))) (Mine.fmc (N₁ _ (List.mem_append.mpr (.inl mTO))) (Mine.fmc (N₁ _ (List.mem_append.mpr (.inl m1))) (Mine.fmc (N₁ _ (List.mem_append.mpr (.inl m2'))) (fun p hp => N₁ _ (List.mem_append.mpr (.inr hp)))))))
    have hk9 : ∀ p ∈ own, p ∈ [(s.heap.objs.size + 4, oz), (s.heap.objs.size + 2, oTI), (s.heap.objs.size + 3, oTO), (s.heap.objs.size, o1), (s.heap.objs.size + 1, o2)] ∨ ∀ c, p ∈ Led c := fun p hp => by
      have e1 := (N₁ p (List.mem_append.mpr (.inl hp))).1
      have := hown p hp
      obtain ⟨b, ob⟩ := p
      dsimp only at e1 this
      simp only [List.mem_cons, List.not_mem_nil, or_false] at this
      rcases this with e9 | e9 | e9 | e9 | e9 | e9 | e9 <;> subst b
      · left; rw [ez] at e1; cases e1; simp
      · left; rw [eTI] at e1; cases e1; simp
      · left; rw [eTO] at e1; cases e1; simp
      · left; rw [ho1] at e1; cases e1; simp
      · left; rw [ho2] at e1; cases e1; simp
      · right
        intro c'
        have e3 := (N₁ _ (List.mem_append.mpr (.inr (hl1 c)))).1
        rw [e3] at e1; cases e1; exact hl1 c'
      · right
        intro c'
        have e3 := (N₁ _ (List.mem_append.mpr (.inr (hl2 c)))).1
        rw [e3] at e1; cases e1; exact hl2 c'
    refine wpAny_mono (turn i c x y u h tk T _ _ _ _ _ oz oTI oTO o1 o2 hi hx' hy' hP (fun p hp hI => by
      simp only [List.mem_cons, List.not_mem_nil, or_false] at hI
      rcases hI with e | e | e | e | e
      · exact hw p hp (by simp [e])
      · exact hTIn p hp e
      · exact hw p hp (by simp [e])
      · exact hw p hp (by simp [e])
      · exact hw p hp (by simp [e])) hT F₁ N₂) (fun _ s₂ h₂ => wpAny_mono h₂ (fun f s₃ h₃ => ?_) fun _ _ x => x) fun _ _ x => x
    have up : FEnd h₀ env.locals s G [(s.heap.objs.size + 4, oz), (s.heap.objs.size + 2, oTI), (s.heap.objs.size + 3, oTO), (s.heap.objs.size, o1), (s.heap.objs.size + 1, o2)] [s.heap.objs.size + 4, s.heap.objs.size + 2, s.heap.objs.size + 3, s.heap.objs.size, s.heap.objs.size + 1] Led ps (P (i + 1)) s₃ → FEnd h₀ env.locals { s with heap := h' } G own [s.heap.objs.size + 4, s.heap.objs.size + 3, s.heap.objs.size, s.heap.objs.size + 1] Led ps (fun c => P (i + 1) c ∧ ∀ p ∈ Led c, p.1 ≠ s.heap.objs.size + 2) s₃ := by
      first | (refine Mine.poxxxxxxxxxxxxxc ?_; intro c' h' tk' m' news' e F' N' ho' hn' hw' hk' hp') | (rintro ⟨c', h', tk', m', news', e, F', N', ho', hn', hw', hk', hp'⟩)
      refine ⟨c', h', tk', m', news', e, F', N', fun p hp => ?_, hn', fun p hp hI => hw' p hp ?_, hk', hp', fun p hp hI => hw' p hp (by simp [hI])⟩
      case refine_2 =>
        simp only [List.mem_cons, List.not_mem_nil, or_false] at hI ⊢
        rcases hI with e | e | e | e <;> simp [e]
      rcases hk9 p hp with e2 | e2
      · exact ho' _ e2
      · exact hn' _ (e2 c')
    cases f with
    | ret v => exact h₃
    | brk => exact h₃
    | next => exact up h₃
    | cont => exact up h₃
  · intro c u h tk hP F₁ N₁
    exact wpAny_mono (done c u h tk hP.1 F₁ N₁) (fun f _ x => x) fun _ _ x => x
theorem asg_nest {a b c : Str} {pa pb pc tp tq : Pos} {k1 k2 : Nat} {T U : Addr} {x y z : Value} {m : Str → Option Value} {Q : Unit → Shared → Prop} (hh : A.handled = none) (hT : s.heap.IsTuple T #[.ref U, z]) (hU : s.heap.IsTuple U #[x, y])
    (ha : env.kindOf a = some .local) (hb : env.kindOf b = some .local) (hc : env.kindOf c = some .local) (hp : (env.scope.kind == .class || (env.scope.kind == .module && env.locals != env.globals)) = false) (hUL : U ≠ env.locals) (hn : s.heap.Ns env.locals m)
    (h : ∀ (h' : Heap) (tk : Nat), h'.Ns env.locals (fun i => if i = c then some z else if i = b then some y else if i = a then some x else m i) → (∀ e o, e ≠ env.locals → s.heap.get? e = some o → h'.get? e = some o) → Q () { s with heap := h', toks := tk }) :
    wpAny (model prog w) A (assign (.Tuple [.Tuple [.Name a pa, .Name b pb] k1 tq, .Name c pc] k2 tp) env (.ref T)) Q E s := by
  refine wpAny_assign_Tuple hh hT rfl rfl fun h₁ he₁ => ?_
  have hL : env.locals ≠ s.heap.objs.size := Nat.ne_of_lt hn.lt
  have hn₁ : h₁.Ns env.locals m := hn.at' fun o e => he₁ _ o hL e
  have up₁ : ∀ c o, s.heap.get? c = some o → h₁.get? c = some o := fun c o e => he₁ c o (Nat.ne_of_lt (Heap.lt_size e)) e
  show wpAny _ _ (assignInOrder [assign (.Tuple [.Name a pa, .Name b pb] k1 tq) env, assign (.Name c pc) env] [.ref U, z]) _ _ _
  refine assignInOrder_cons ?_
  refine kcp_assign hh (hU.at fun o e => up₁ _ o e) ha hb hp hn₁ fun h₂ tk₂ hn₂ hk₂ => ?_
  refine assignInOrder_cons ?_
  refine wpAny_assign_Name (wpAny_storeName_local hc hn₂ (fun h₃ hn₃ hs₃ => ?_) hp)
  refine assignInOrder_nil ?_
  exact h h₃ _ hn₃ fun c o hc e => hs₃.extBut c o hc (hk₂ c o hc (up₁ c o e))
theorem asg_nestF {news : List (Addr × Obj)} {a b c : Str} {pa pb pc tp tq : Pos} {k1 k2 : Nat} {T U : Addr} {x y z : Value} {m : Str → Option Value} {Q : Unit → Shared → Prop} (hL : env.locals = L) (hh : A.handled = none) (F : Fr h₀ L s.heap m) (N : News h₀ L s.heap news) (hT : s.heap.IsTuple T #[.ref U, z]) (hU : (U, tupO [x, y]) ∈ news)
    (ha : env.kindOf a = some .local) (hb : env.kindOf b = some .local) (hc : env.kindOf c = some .local) (hp : (env.scope.kind == .class || (env.scope.kind == .module && env.locals != env.globals)) = false)
    (h : ∀ (h' : Heap) (tk : Nat), Fr h₀ L h' (fun i => if i = c then some z else if i = b then some y else if i = a then some x else m i) → News h₀ L h' news → Q () { s with heap := h', toks := tk }) :
    wpAny (model prog w) A (assign (.Tuple [.Tuple [.Name a pa, .Name b pb] k1 tq, .Name c pc] k2 tp) env (.ref T)) Q E s := by
  subst hL
  have hU' := N _ hU
  refine asg_nest hh hT ⟨_, hU'.1, rfl, _, rfl⟩ ha hb hc hp hU'.2.1 F.ns fun h' tk hn hk => ?_
  exact h h' tk ⟨hn, fun b o e => hk b o (Nat.ne_of_lt (Nat.lt_of_lt_of_le (Heap.lt_size e) F.above)) (F.keep b o e), F.above⟩ fun p hp => ⟨hk _ _ (N p hp).2.1 (N p hp).1, (N p hp).2⟩
theorem asg_pairF {news : List (Addr × Obj)} {a b : Str} {pa pb tp : Pos} {k2 : Nat} {T : Addr} {x y : Value} {m : Str → Option Value} {Q : Unit → Shared → Prop} (hL : env.locals = L) (hh : A.handled = none) (F : Fr h₀ L s.heap m) (N : News h₀ L s.heap news) (hT : s.heap.IsTuple T #[x, y])
    (ha : env.kindOf a = some .local) (hb : env.kindOf b = some .local) (hp : (env.scope.kind == .class || (env.scope.kind == .module && env.locals != env.globals)) = false)
    (h : ∀ (h' : Heap) (tk : Nat), Fr h₀ L h' (fun i => if i = b then some y else if i = a then some x else m i) → News h₀ L h' news → Q () { s with heap := h', toks := tk }) :
    wpAny (model prog w) A (assign (.Tuple [.Name a pa, .Name b pb] k2 tp) env (.ref T)) Q E s := by
  subst hL
  refine kcp_assign hh hT ha hb hp F.ns fun h' tk hn hk => ?_
  exact h h' tk ⟨hn, fun b o e => hk b o (Nat.ne_of_lt (Nat.lt_of_lt_of_le (Heap.lt_size e) F.above)) (F.keep b o e), F.above⟩ fun p hp => ⟨hk _ _ (N p hp).2.1 (N p hp).1, (N p hp).2⟩
end
end Mine
end TForz

section TTab
open PySem PySem.W PyProof.Rows PySem.Spec PySem.Calls
set_option Elab.async false
set_option maxRecDepth 100000
set_option maxHeartbeats 4000000
set_option linter.unusedVariables false
set_option linter.unusedSimpArgs false

namespace Mine
noncomputable def exT : List (Str × Nat × Int × Nat) := [(Str.ofString "!", 606, 54, 602), (Str.ofString "!=", 608, 28, 550), (Str.ofString "%", 610, 24, 542), (Str.ofString "%=", 612, 40, 574), (Str.ofString "&", 614, 19, 532), (Str.ofString "&=", 616, 41, 576), (Str.ofString "(", 618, 7, 508), (Str.ofString ")", 620, 8, 510), (Str.ofString "*", 622, 16, 526), (Str.ofString "**", 624, 35, 564), (Str.ofString "**=", 626, 46, 586), (Str.ofString "*=", 628, 38, 570), (Str.ofString "+", 630, 14, 522), (Str.ofString "+=", 632, 36, 566), (Str.ofString ",", 634, 12, 518), (Str.ofString "-", 636, 15, 524), (Str.ofString "-=", 638, 37, 568), (Str.ofString "->", 640, 51, 596), (Str.ofString ".", 642, 23, 540), (Str.ofString "...", 644, 52, 598), (Str.ofString "/", 646, 17, 528), (Str.ofString "//", 648, 47, 588), (Str.ofString "//=", 650, 48, 590), (Str.ofString "/=", 652, 39, 572), (Str.ofString ":", 654, 11, 516), (Str.ofString ":=", 656, 53, 600), (Str.ofString ";", 658, 13, 520), (Str.ofString "<", 660, 20, 534), (Str.ofString "<<", 662, 33, 560), (Str.ofString "<<=", 664, 44, 582), (Str.ofString "<=", 666, 29, 552), (Str.ofString "=", 668, 22, 538), (Str.ofString "==", 670, 27, 548), (Str.ofString ">", 672, 21, 536), (Str.ofString ">=", 674, 30, 554), (Str.ofString ">>", 675, 34, 562), (Str.ofString ">>=", 676, 45, 584), (Str.ofString "@", 677, 49, 592), (Str.ofString "@=", 678, 50, 594), (Str.ofString "[", 679, 9, 512), (Str.ofString "]", 680, 10, 514), (Str.ofString "^", 681, 32, 558), (Str.ofString "^=", 682, 43, 580), (Str.ofString "{", 683, 25, 544), (Str.ofString "|", 684, 18, 530), (Str.ofString "|=", 685, 42, 578), (Str.ofString "}", 686, 26, 546), (Str.ofString "~", 687, 31, 556)]
noncomputable def exE (P : Params) : List DictEntry := exT.map fun p => { hash := PyData.keyHash P p.1, key := .str p.1 p.2.1, val := .int p.2.2.1 p.2.2.2 }
noncomputable def exL : List (Str × Int) := exT.map fun p => (p.1, p.2.2.1)
theorem ex_look (P : Params) : (hd.heap_1 P).lookup 249 = some { cls := .type "dict", data := .dict (exE P).toArray 48 } := by with_unfolding_all rfl
theorem ex_pairs (prog : Program) (w : World) (l : List (Str × Nat × Int × Nat)) : PySem.Pairs (PySem.strKind prog w) (l.map fun p => { hash := PyData.keyHash w.params p.1, key := .str p.1 p.2.1, val := .int p.2.2.1 p.2.2.2 }) (l.map fun p => (p.1, Value.int p.2.2.1 p.2.2.2)) := by
  induction l with
  | nil => exact .nil
  | cons p l ih => exact .cons (strKind_is _ _ _ _) rfl ih
theorem ex_flat (l : List (Str × Nat × Int × Nat)) : PyProof.V.FlatPairs PyData.str (l.map fun p => (p.1, Value.int p.2.2.1 p.2.2.2)) (kdpD (l.map fun p => (p.1, p.2.2.1))) := by
  induction l with
  | nil => exact .nil
  | cons p l ih => exact .cons (PyProof.V.Flat.int _ _) ih
theorem ex_tab {prog : Program} {w : World} {h : Heap} (X : (hd.heap_1 w.params).In h) : StrTab prog w h 249 (kdpD exL) := by
  refine TabAt.ofObj (kvs := exT.map fun p => (p.1, Value.int p.2.2.1 p.2.2.2)) (by rfl) (X _ _ (ex_look _)) ⟨(exE w.params).toArray, 48, ⟨rfl, rfl, rfl⟩, rfl, ?_, ?_, ?_⟩ (ex_flat exT)
  · intro e he
    have he : e ∈ exE w.params := by simpa using he
    obtain ⟨p, _, rfl⟩ := List.mem_map.mp he
    exact ⟨p.1, strKind_is _ _ _ _, rfl⟩
  · show PySem.Pairs _ (exE w.params) _; exact ex_pairs prog w exT
  · rw [List.map_map]
    exact of_decide_eq_true (by decide +kernel)
end Mine
end TTab

section TCnum
open PySem PySem.W PyProof.Rows PySem.Spec PySem.Calls
set_option Elab.async false
set_option maxRecDepth 100000
set_option maxHeartbeats 4000000
set_option linter.unusedVariables false
set_option linter.unusedSimpArgs false

namespace Mine
noncomputable def hasX (l : List Nat) : Bool := kdpHas exL ⟨l.toArray⟩
noncomputable def sizesOf (l : List Nat) : List Nat := ([3, 2, 1] : List Nat).filter fun z => hasX (l.take z)
noncomputable def lexN : Nat → List Nat → List Int
  | 0, _ => []
  | _ + 1, [] => []
  | n + 1, c :: r => match sizesOf (c :: r) with
    | z :: _ => kdpLook exL ⟨((c :: r).take z).toArray⟩ 0 :: lexN n ((c :: r).drop z)
    | [] => (if c = 97 ∨ c = 98 then [(256 + c - 97 : Int)] else []) ++ lexN n r
theorem size_at {i : Nat} {v : Value} {ta tb tc : Tok} (h : [Value.int 3 ta, .int 2 tb, .int 1 tc][i]? = some v) : ∃ z tz, v = .int ((z : Nat) : Int) tz ∧ ([3, 2, 1] : List Nat)[i]? = some z ∧ z ≤ 3 ∧ 1 ≤ z := by
  (try k_fold)
  refine Mine.gk ?_
  intro Gz9 kz9
  rcases i with _ | _ | _ | i
  all_goals (try (refine kz9 ?_; (try clear kz9 Gz9)))
  · (try k_fold)
    cases h; exact ⟨3, _, rfl, rfl, by kst_p2, by kst_p2⟩
  · (try k_fold)
    cases h; exact ⟨2, _, rfl, rfl, by kst_p2, by kst_p2⟩
  · (try k_fold)
    cases h; exact ⟨1, _, rfl, rfl, by kst_p2, by kst_p2⟩
  · simp at h
theorem filt_step {α : Type} {l : List α} {p : α → Bool} {i : Nat} {z : α} (h : l[i]? = some z) : (l.take (i + 1)).filter p = (l.take i).filter p ++ (if p z = true then [z] else []) := by
  rw [List.take_add_one, h, Option.toList_some, List.filter_append]
  by_cases hp : p z = true
  · simp [hp]
  · simp [hp]
theorem sizes_le {l : List Nat} {z : Nat} (h : z ∈ sizesOf l) : 1 ≤ z ∧ z ≤ 3 ∧ hasX (l.take z) = true := by
  unfold sizesOf at h
  rw [List.mem_filter] at h
  obtain ⟨h1, h2⟩ := h
  simp at h1
  exact ⟨by kst_p2, by kst_p2, h2⟩
theorem ints_cast {ys : List Value} {z : Nat} {zs : List Nat} (h : IntsAre ys (List.map (fun y : Nat => (y : Int)) (z :: zs))) : ∃ t r, ys = .int (z : Int) t :: r := by
  rw [List.map_cons] at h
  (try k_fold)
  cases h with | cons n t _ => exact ⟨_, _, rfl⟩
section
variable {w : World} {mean : ExcName → Option Value} {mg mb : Str → Option Value} {dp un : Nat} {gd : Option (List Code)} {cn : Str} {cs : Scope} {a : Addr} {ccd : Value} {cl : List (Str × Addr)} {outer : List Env} {A₀ : Around} {base h₀ : Heap} {L : Addr} {m : Str → Option Value} {news : List (Addr × Obj)} {s : Shared} {Q E : Value → Shared → Prop}

theorem num_spec (C : Cx w mean mg mb cs outer A₀ base h₀ L m news s) (hd1 : dp + 5 < recursionLimit) (hu : un + 100 < cLine) {row : Str} {t : Tok} {l : List Nat} (hlen : l.length ≤ 100) (hasc : ∀ c ∈ l, c < 128) (hrow : row.cps = l.toArray)
    (hret : ∀ c us n tl h' tk', Fr h₀ L h' m → News h₀ L h' (tl ++ news) → (∀ p ∈ tl, ∀ q ∈ news, q.1 < p.1) → (c, listOf us.toArray n) ∈ tl → IntsAre us (lexN l.length l) → Q (.ref c) { s with heap := h', toks := tk' }) :
    wpAny (model PySem.Challenge.rw_ti0073_01.row.prog w) (ktrTop dp un gd cn cs L a ccd cl outer) (call (.ref 277) [.str row t]) Q E s := by
  obtain ⟨cps⟩ := row
  dsimp only at hrow
  (try k_fold)
  subst hrow
  w_top off
  obtain ⟨B, F, X, N, T, hk⟩ := C
  revert X
  k_fill
  intro X
  k_dflt (refine' enterX (binds := [(Str.ofString "text", .str ⟨l.toArray⟩ t)]) B F X N T hk ?k6 ?k7 ?k8 ?k9 ?kB ?kD ?_ ?c2 ?c3 ?c4; (case k6 => k_is); (case k7 => k_is); (case k8 => kst_p2); (case k9 => exact BindsTo.of_eq rfl); (case kB => exact rfl); (case kD => decide +kernel); (case c2 => exact rfl); (case c3 => exact rfl); (case c4 => exact rfl))
  intro gH LF hF tkE cells FG F1 N1 Y1 B1 X1 T1 lL
  replace F1 : Fr gH LF hF (kstB (fun _ => none) []) := by with_unfolding_all exact F1
  (try k_fold)
  (try (with_reducible refine (let A9 : PySem.Around := _; let e9 : PySem.Env := _; (?_ : PySem.wpAny _ A9 (PySem.execs _ e9) _ _ _))))
  (try k_fold)
  first | (refine Mine.ex_2 (CellsAre.two Y1) ?_; rintro oP oT h9E; refine Mine.cj_3 h9E ?_; clear h9E; rintro hE dP dT) | (obtain ⟨oP, oT, hE, dP, dT⟩ := CellsAre.two Y1)
  (try k_fold)
  subst hE
  clear Y1
  simp only [List.cons_append, List.nil_append] at N1
  replace dP : oP.data = .cell none := dP
  replace dT : oT.data = .cell (some (.str ⟨l.toArray⟩ t)) := dT
  w_strict repeat' ((fail_if_success (with_reducible show wpAny _ _ (exec (Stmt.While _ _ _ _) _) _ _ _)); kla_enter)
  rename Fr gH LF _ _ => F2
  rename News gH LF _ _ => N2
  rename_i lA _ lcA _ _ _ _ _ _ oP2 dP2
  refine' whl (σ := Nat × Obj × List Value × Nat) (fun c => (lA, listOf c.2.2.1.toArray c.2.2.2) :: (LF + 1 + 1, c.2.1) :: (LF + 1, oT) :: news) (fun c => [(Str.ofString "numbers", .ref lA)])
    (fun c => (∃ tp, c.2.1.data = .cell (some (.int c.1 tp))) ∧ (∃ ns f, IntsAre c.2.2.1 ns ∧ ns ++ lexN f (l.drop c.1) = lexN l.length l ∧ (l.drop c.1).length ≤ f) ∧ c.2.2.1.length ≤ c.1 ∧ c.1 ≤ 103) (fun c => 103 - c.1) (0, oP2, [], 0) F2 (nsub N2 ?mn1) ?mk1 ?mp1 ?_
  case mk1 => kst_all
  case mn1 => kst_allIn
  case mp1 => exact ⟨⟨_, dP2⟩, ⟨[], _, .nil, rfl, Nat.le_refl _⟩, Nat.le_refl _, by kst_p2⟩
  (try k_fold)
  first | (refine Mine.poxxxxc ?_; intro pl oP3 us un2) | (rintro ⟨pl, oP3, us, un2⟩)
  rintro u h2 tk2 h9Q1 F3 N3
  (try k_fold)
  refine Mine.gk ?_
  intro Gz9 kz9
  obtain ⟨⟨tp, dP3⟩, ⟨ns, f, hns, htot, hf⟩, hul, hp103⟩ := h9Q1
  refine kz9 ?_
  (try clear kz9 Gz9)
  dsimp only at dP3 hns htot hf hul hp103 F3 N3 ⊢
  by_cases hpl : pl < l.length
  case neg =>
    w_strict repeat' (first | (k_here; (with_reducible show wpAny _ _ (call (Value.builtin "len") [Value.str _ _]) _ _ _); k_dflt (refine Mine.my_lenS (by kst_p2) ?_)) | kla_enter)
    rename Fr h₀ L _ _ => F6
    rename News h₀ L _ _ => N6
    rw [List.drop_eq_nil_of_le (by kst_p2)] at htot
    have hnil : ∀ f, lexN f [] = [] := fun f => by cases f <;> rfl
    rw [hnil, List.append_nil] at htot
    refine hret lA us un2 [(lA, listOf us.toArray un2)] _ _ F6 (nsub N6 (by kst_allIn)) ?_ (.head _) (htot ▸ hns)
    intro p hp q hq
    rw [List.mem_singleton.mp hp]
    exact kst_ltOf lcA.2.2 q hq
  w_strict repeat' ((fail_if_success (with_reducible show wpAny _ _ (exec (Stmt.Assign _ _ _) _) _ _ _)); first | (k_here; (with_reducible show wpAny _ _ (call (Value.builtin "len") [Value.str _ _]) _ _ _); k_dflt (refine Mine.my_lenS (by kst_p2) ?_)) | kla_enter)
  refine' comp_openA ?hc1 ?hc2 ?hc3 ?hc4 ?_
  case hc1 => with_unfolding_all rfl
  case hc2 => with_unfolding_all rfl
  case hc3 => rfl
  case hc4 => decide
  w_strict repeat' ((fail_if_success (with_reducible show wpAny _ _ (pyIter _) _ _ _)); kla_enter)
  rename Fr gH LF _ _ => F4
  rename News gH LF _ _ => N4
  rename_i _ tA _ ltA
  (try k_fold)
  first | (refine Mine.ex_3 (show ∃ ta tb tc, News gH LF _ ((tA, tupO [.int 3 ta, .int 2 tb, .int 1 tc]) :: (lA, listOf us.toArray un2) :: (LF + 1 + 1, oP3) :: (LF + 1, oT) :: news) from ⟨_, _, _, N4⟩) ?_; rintro ta tb tc N4') | (obtain ⟨ta, tb, tc, N4'⟩ : ∃ ta tb tc, News gH LF _ ((tA, tupO [.int 3 ta, .int 2 tb, .int 1 tc]) :: (lA, listOf us.toArray un2) :: (LF + 1 + 1, oP3) :: (LF + 1, oT) :: news) := ⟨_, _, _, N4⟩)
  clear N4
  refine' comp_tupA (vs := [.int 3 ta, .int 2 tb, .int 1 tc]) (σ := Unit) (fun _ => s.gens) (fun _ => (tA, tupO [.int 3 ta, .int 2 tb, .int 1 tc]) :: (lA, listOf us.toArray un2) :: (LF + 1 + 1, oP3) :: (LF + 1, oT) :: news)
    (fun i ys _ => IntsAre ys (List.map (fun y : Nat => (y : Int)) ((([3, 2, 1] : List Nat).take i).filter fun z => hasX ((l.drop pl).take z)))) () rfl (fun _ => .head _) (by show 3 ≤ sizeLine; rw [sizeLine_eq]; kst_p2) ?cc1 ?cc2 ?cc3 ?cc7 F4 N4' ?mp3 ?mt3 ?cc4 ?cc5 ?cc6 ?mr3
  case cc1 => decide
  case cc2 => rfl
  case cc3 => rfl
  case cc4 => rfl
  case cc5 => rfl
  case cc6 => rfl
  case cc7 => rfl
  case mp3 => exact .nil
  case mt3 =>
    rintro i ys ⟨⟩ v C oC D m₂ h7 tk7 it o hv hP hoC hm1 hoff hlo hDC F7 N7
    (try k_fold)
    first | (refine Mine.ex_2 (size_at hv) ?_; rintro z tz h9E; refine Mine.cj_4 h9E ?_; clear h9E; rintro rfl hz hz3 hz1) | (obtain ⟨z, tz, rfl, hz, hz3, hz1⟩ := size_at hv)
    refine wpAny_tests_one ?_
    w_strict repeat' ((fail_if_success (with_reducible show wpAny _ _ (subscriptTail _ (Expr.Slice _ _ _ _) _ _) _ _ _)); kla_enter)
    refine my_text (s := ⟨_, _, _, _, _⟩) (a := pl) (b := pl + z) rfl (by kst_p2) (by kst_p2) (by kst_p2) (by kst_p2) F7 N7 ?_
    intro h8 t8 k8 F8 N8
    rw [Nat.add_sub_cancel_left]
    have hfs := filt_step (p := fun z => hasX ((l.drop pl).take z)) hz
    w_strict repeat' ((fail_if_success (with_reducible show wpAny _ _ (compareOp _ _ _) _ _ _)); kla_enter)
    refine kdp_in (c := exL) (ex_tab (X1.keeps (Fr.keep (by assumption)))) ?_
    have hxx : hasX ((l.drop pl).take z) = kdpHas exL ⟨((l.drop pl).take z).toArray⟩ := rfl
    cases hx : kdpHas exL ⟨((l.drop pl).take z).toArray⟩ with
    | true =>
      rw [hx] at hxx
      rw [if_pos hxx] at hfs
      w_strict repeat' kla_enter
      rename Fr gH LF _ _ => F9
      rename News gH LF _ _ => N9
      refine cend () F9 N9 (by kst_allIn) (by simp) (by simp) (by kst_allIn) (fun p hp => ⟨fun e => (hoff p hp).1 (List.mem_singleton.mp e), (hoff p hp).2⟩) ?_
      rw [hfs, List.map_append]
      exact hP.append (.cons _ _ .nil)
    | false =>
      rw [hx] at hxx
      rw [if_neg (by rw [hxx]; simp), List.append_nil] at hfs
      w_strict repeat' kla_enter
      rename Fr gH LF _ _ => F9
      rename News gH LF _ _ => N9
      refine cend () F9 N9 (by kst_allIn) (by simp) (by simp) (by kst_allIn) (fun p hp => ⟨fun e => (hoff p hp).1 (List.mem_singleton.mp e), (hoff p hp).2⟩) ?_
      rw [hfs]
      exact hP
  case mr3 =>
    rintro D h7 tk7 ys ⟨⟩ F7 N7 hoff _ hys
    have q1 : (tA : Nat) ≠ _ := neN (hoff (tA, _) (.head _))
    have q2 : (lA : Nat) ≠ _ := neN (hoff (lA, _) (.tail _ (.head _)))
    have q3 : @Ne Nat (LF + 1 + 1 : PySem.Addr) _ := neN (hoff (LF + 1 + 1, _) (.tail _ (.tail _ (.head _))))
    have q4 : @Ne Nat (LF + 1 : PySem.Addr) _ := neN (hoff (LF + 1, _) (.tail _ (.tail _ (.tail _ (.head _)))))
    have happ : ∀ p ∈ (D, LCg.lst ys) :: (tA, tupO [.int 3 ta, .int 2 tb, .int 1 tc]) :: (LF + 1 + 1, oP3) :: (LF + 1, oT) :: news, p.1 ≠ lA := by
      refine Mine.fmc (Ne.symm q2) (Mine.fmc (Nat.ne_of_gt ltA.1) (Mine.fmc (Nat.ne_of_lt lcA.1) (Mine.fmc (Nat.ne_of_lt lcA.2.1) (fun p hp => ?_))))
      · exact Nat.ne_of_lt (kst_ltOf lcA.2.2 p hp)
    have hdr : l.drop pl = l[pl] :: l.drop (pl + 1) := List.drop_eq_getElem_cons hpl
    have hcl : l[pl]? = some l[pl] := List.getElem?_eq_getElem hpl
    have hc128 : l[pl] < 128 := hasc _ (List.getElem_mem hpl)
    replace hys : IntsAre ys (List.map (fun y : Nat => (y : Int)) (sizesOf (l.drop pl))) := hys
    have hfl : (l.drop pl).length = l.length - pl := List.length_drop
    (try k_fold)
    obtain ⟨f', rfl⟩ : ∃ f', f = f' + 1 := ⟨f - 1, by kst_p2⟩
    generalize hcc : l[pl] = cc at hdr hcl hc128
    cases hsz : sizesOf (l.drop pl) with
    | nil =>
      rw [hsz] at hys
      (try k_fold)
      refine Mine.gk ?_
      intro Gz9 kz9
      (try k_fold)
      cases hys
      all_goals (try (refine kz9 ?_; (try clear kz9 Gz9)))
      have hl1 : lexN (f' + 1) (l.drop pl) = (if cc = 97 ∨ cc = 98 then [(256 + cc - 97 : Int)] else []) ++ lexN f' (l.drop (pl + 1)) := by
        rw [hdr] at hsz ⊢
        simp only [lexN, hsz]
      rw [hl1] at htot
      w_strict repeat' ((fail_if_success (with_reducible show wpAny _ _ (subscriptTail _ _ _ _) _ _ _)); kla_enter)
      refine my_sign (a := pl) rfl hcl (by kst_p2) ?_
      w_strict repeat' ((fail_if_success (with_reducible show wpAny _ _ (compareOp _ _ _) _ _ _)); kla_enter)
      refine PyProof.Rows.in_str ?_
      rw [show (!(Builtin.Str.occurrences (Str.ofString "ab") ⟨#[cc]⟩ 0 (Str.ofString "ab").length 1).isEmpty) = decide (cc = 97 ∨ cc = 98) from in_ab cc hc128]
      by_cases hab : cc = 97 ∨ cc = 98
      · rw [decide_eq_true hab]
        rw [if_pos hab, ← List.append_assoc] at htot
        w_strict repeat' ((fail_if_success (with_reducible show wpAny _ _ (subscriptTail _ _ _ _) _ _ _)); kla_enter)
        refine my_sign (a := pl) rfl hcl (by kst_p2) ?_
        w_strict repeat' ((fail_if_success (with_reducible show wpAny _ _ (call (.builtin "list.append") _) _ _ _)); kla_enter)
        rename Fr gH LF _ _ => F8
        rename News gH LF _ _ => N8
        refine my_append (rest := (D, LCg.lst []) :: (tA, tupO [.int 3 ta, .int 2 tb, .int 1 tc]) :: (LF + 1 + 1, oP3) :: (LF + 1, oT) :: news) F8 N8 (vs := us) (n := un2) ?ap1 happ ?ap3 ?_
        case ap3 => rw [sizeLine_eq]; kst_p2
        case ap1 => kst_allIn
        intro h9 F9 N9
        w_strict repeat' kla_enter
        rename Fr gH LF _ _ => F5
        rename News gH LF _ _ => N5
        rename _ = Data.cell (some (Value.int ((pl : Int) + 1) _)) => hd9
        refine' wend (pl + 1, _, _, un2 + 1) F5 N5 (Mine.fmc (.head _) (?wk1)) ?wk9 ⟨⟨_, hd9⟩, ⟨_, f', hns.append (.cons _ _ .nil), htot, by rw [List.length_drop]; kst_p2⟩, ?wk2, by dsimp only; kst_p2⟩ (by dsimp only; kst_p2)
        case wk1 => kst_allIn
        case wk9 => kst_all
        case wk2 => dsimp only; rw [List.length_append, List.length_singleton]; kst_p2
      · rw [decide_eq_false hab]
        rw [if_neg hab, List.nil_append] at htot
        w_strict repeat' kla_enter
        rename Fr gH LF _ _ => F5
        rename News gH LF _ _ => N5
        rename _ = Data.cell (some (Value.int ((pl : Int) + 1) _)) => hd9
        refine wend (pl + 1, _, us, un2) F5 N5 ?wk1 (by kst_all) ⟨⟨_, hd9⟩, ⟨_, f', hns, htot, by rw [List.length_drop]; kst_p2⟩, by dsimp only; kst_p2, by dsimp only; kst_p2⟩ (by dsimp only; kst_p2)
        case wk1 => kst_allIn
    | cons z zs =>
      rw [hsz] at hys
      (try k_fold)
      obtain ⟨tz, ys', rfl⟩ := ints_cast hys
      have hyl : (Value.int (z : Int) tz :: ys').length ≤ 3 := by
        rw [hys.length, List.length_map, ← hsz]
        unfold sizesOf
        exact List.length_filter_le _ _
      obtain ⟨hz1, hz3, hzx⟩ := sizes_le (l := l.drop pl) (z := z) (by rw [hsz]; exact .head _)
      have hl1 : lexN (f' + 1) (l.drop pl) = kdpLook exL ⟨((l.drop pl).take z).toArray⟩ 0 :: lexN f' (l.drop (pl + z)) := by
        have e : l.drop (pl + z) = (l.drop pl).drop z := by rw [List.drop_drop]
        rw [e]
        rw [hdr] at hsz ⊢
        simp only [lexN, hsz]
      rw [hl1] at htot
      w_strict repeat' ((fail_if_success (with_reducible show wpAny _ _ (truthy _) _ _ _)); kla_enter)
      refine wpAny_truthy_list (l := D) (items := (Value.int (z : Int) tz :: ys').toArray) ((N7 _ (.head _)).1 |> fun e => ⟨_, e, rfl, _, rfl⟩) (by rw [List.size_toArray]; kst_p2) ?_
      rw [show (!(Value.int (z : Int) tz :: ys').toArray.isEmpty) = true by simp]
      w_strict repeat' ((fail_if_success (with_reducible show wpAny _ _ (subscriptTail _ (Expr.Slice _ _ _ _) _ _) _ _ _)); kla_enter)
      refine my_text (s := ⟨_, _, _, _, _⟩) (a := pl) (b := pl + z) rfl (Int.natCast_add _ _).symm (by kst_p2) (by kst_p2) (by kst_p2) (by assumption) (by assumption) ?_
      intro h8 t8 k8 F8 N8
      rw [Nat.add_sub_cancel_left]
      w_strict repeat' ((fail_if_success (with_reducible show wpAny _ _ (subscriptTail _ _ _ _) _ _ _)); kla_enter)
      refine kdp_item (c := exL) (ex_tab (X1.keeps (Fr.keep (by assumption)))) hzx ?_
      intro t9
      w_strict repeat' ((fail_if_success (with_reducible show wpAny _ _ (call (.builtin "list.append") _) _ _ _)); kla_enter)
      rename Fr gH LF _ _ => F7
      rename News gH LF _ _ => N7
      refine my_append (rest := (D, LCg.lst (.int (z : Int) tz :: ys')) :: (tA, tupO [.int 3 ta, .int 2 tb, .int 1 tc]) :: (LF + 1 + 1, oP3) :: (LF + 1, oT) :: news) F7 N7 (vs := us) (n := un2) ?ap1 happ ?ap3 ?_
      case ap3 => rw [sizeLine_eq]; kst_p2
      case ap1 => kst_allIn
      intro h9 F9 N9
      w_strict repeat' kla_enter
      rename Fr gH LF _ _ => F5
      rename News gH LF _ _ => N5
      rename _ = Data.cell (some (Value.int ((pl : Int) + _) _)) => hd9
      refine' wend (pl + z, _, _, un2 + 1) F5 N5 (Mine.fmc (.head _) (Mine.fmc (?wk7) (?wk1))) ?wk9 ⟨⟨_, hd9⟩, ⟨_, f', hns.append (.cons _ _ .nil), ?wk4, ?wk5⟩, ?wk2, ?wk6⟩ ?wk8
      case wk7 => simp
      case wk1 => kst_allIn
      case wk9 => kst_all
      case wk2 => dsimp only; rw [List.length_append, List.length_singleton]; kst_p2
      case wk4 => rw [List.append_assoc]; exact htot
      case wk5 => rw [List.length_drop]; kst_p2
      case wk6 => dsimp only; kst_p2
      case wk8 => dsimp only; kst_p2
end
end Mine
end TCnum

section TCws
open PySem PySem.W PyProof.Rows PySem.Spec PySem.Calls
set_option Elab.async false
set_option maxRecDepth 100000
set_option maxHeartbeats 4000000
set_option linter.unusedVariables false
set_option linter.unusedSimpArgs false

namespace Mine
noncomputable def leadOf (k j : Nat) : List Nat := (if k = 0 then [] else List.replicate (k - 1) 32 ++ [9]) ++ List.replicate j 32
noncomputable def RowIs (row : Str) (k j : Nat) : Prop := ∃ c r, row.cps = (leadOf k j ++ c :: r).toArray ∧ c ≠ 32 ∧ c ≠ 9
noncomputable def cntOf (k i : Nat) : List Int := if k = 0 ∨ i < k then [] else List.replicate (k - 1) 0 ++ [1]
noncomputable def runOf (k i : Nat) : Nat := if k = 0 ∨ i < k then i else i - k
noncomputable def tabsOf (k i : Nat) : Nat := if k = 0 ∨ i < k then 0 else 1
theorem lead_at9 : ∀ k < 4, ∀ j < 3, ∀ i < k + j, (leadOf k j)[i]? = some (if i + 1 = k then 9 else 32) := by decide
theorem lead_at {k j i : Nat} (hk : k < 4) (hj : j < 3) (h : i < k + j) : (leadOf k j)[i]? = some (if i + 1 = k then 9 else 32) := lead_at9 k hk j hj i h
theorem lead_len (k j : Nat) : (leadOf k j).length = k + j := by
  unfold leadOf
  rw [List.length_append, List.length_replicate]
  cases k with
  | zero => rfl
  | succ k => rw [if_neg (Nat.succ_ne_zero k), List.length_append, List.length_replicate]; rfl
theorem cnt_tab9 : ∀ i < 3, ([] ++ (List.replicate ((i : Int) - 0 + 1).toNat [(0 : Int)]).flatten).set (i : Int).toNat (([] ++ (List.replicate ((i : Int) - 0 + 1).toNat [(0 : Int)]).flatten).getD (i : Int).toNat 0 + 1) = cntOf (i + 1) (i + 1) := by decide
theorem cnt_tab (i : Nat) (h : i < 3) (k : Nat) (e : i + 1 = k) : ([] ++ (List.replicate ((i : Int) - 0 + 1).toNat [(0 : Int)]).flatten).set (i : Int).toNat (([] ++ (List.replicate ((i : Int) - 0 + 1).toNat [(0 : Int)]).flatten).getD (i : Int).toNat 0 + 1) = cntOf k (i + 1) := e ▸ cnt_tab9 i h
theorem eq_no {prog : Program} {w : World} {A : Around} {E : Value → Shared → Prop} {s : Shared} {c d : Nat} {y : Str} {t u : Tok} {Q : Value → Shared → Prop} (hn : c ≠ d) (hy : y = ⟨#[d]⟩) (h : Q (.bool false) s) : wpAny (model prog w) A (compareOp .Eq (.str ⟨#[c]⟩ t) (.str y u)) Q E s := by
  subst hy
  refine eq_str ?_
  have : ((⟨#[c]⟩ : Str) == ⟨#[d]⟩) = false := beq_false_of_ne fun e => hn (by injection e with e; simpa using e)
  rw [this]
  exact h
inductive WsIn (w : World) (news : List (Addr × Obj)) (x : Addr) (k j : Nat) : Prop
  | mk (dx nm ct us tr t1 t2 t3 t4 t5 t6 t7 row) : (x, instObj 244 dx) ∈ news → (nm, tupO [.ref ct, .int (runOf k (k + j)) t7]) ∈ news → (ct, tupO us) ∈ news → IntsAre us (cntOf k (k + j)) → (dx, dictOf [{ hash := PyData.keyHash w.params (Str.ofString "raw"), key := .str (Str.ofString "raw") tr, val := row }, { hash := PyData.keyHash w.params (Str.ofString "n"), key := .str (Str.ofString "n") t1, val := .int (k + j : Nat) t2 },
      { hash := PyData.keyHash w.params (Str.ofString "nt"), key := .str (Str.ofString "nt") t3, val := .int (tabsOf k (k + j)) t4 }, { hash := PyData.keyHash w.params (Str.ofString "norm"), key := .str (Str.ofString "norm") t5, val := .ref nm },
      { hash := PyData.keyHash w.params (Str.ofString "is_simple"), key := .str (Str.ofString "is_simple") t6, val := .bool (decide ((us.length : Int) ≤ 1)) }] 5) ∈ news → WsIn w news x k j
section
variable {w : World} {mean : ExcName → Option Value} {mg mb : Str → Option Value} {dp un : Nat} {gd : Option (List Code)} {cn : Str} {cs : Scope} {a : Addr} {ccd : Value} {cl : List (Str × Addr)} {outer : List Env} {A₀ : Around} {base h₀ : Heap} {L : Addr} {m : Str → Option Value} {news : List (Addr × Obj)} {s : Shared} {Q E : Value → Shared → Prop}

theorem ws_spec (C : Cx w mean mg mb cs outer A₀ base h₀ L m news s) (hd1 : dp + 20 < recursionLimit) (hu : un + 200 < cLine) {row : Str} {t : Tok} {k j : Nat} (hk4 : k < 4) (hj3 : j < 3) (hrow : RowIs row k j)
    (hret : ∀ x tl h' tk', Fr h₀ L h' m → News h₀ L h' (tl ++ news) → (∀ p ∈ tl, ∀ q ∈ news, q.1 < p.1) → WsIn w tl x k j → Q (.ref x) { s with heap := h', toks := tk' }) :
    wpAny (model PySem.Challenge.rw_ti0073_01.row.prog w) (ktrTop dp un gd cn cs L a ccd cl outer) (call (.ref 244) [.str row t]) Q E s := by
  w_top off
  obtain ⟨B, F, X, N, T, hk⟩ := C
  revert X
  k_fill
  intro X
  k_dflt (refine' enterC (binds := fun x => [(Str.ofString "self", .ref x), (Str.ofString "ws", .str row t)]) B F X N T hk ?k1 ?k2 ?k3 ?k6 ?k7 ?k8 ?k9 ?kB ?_ ?c2 ?c3 ?c4 ?c5; (case k1 => k_is); (case k2 => k_is); (case k3 => k_is); (case k6 => k_is); (case k7 => k_is); (case k8 => kst_p2); (case k9 => exact fun x h9 => BindsTo.of_eq rfl); (case c5 => decide); (case kB => exact fun x => locs rfl); (case c2 => exact rfl); (case c3 => exact rfl); (case c4 => exact rfl))
  intro x dx gH LF hF lN lX FG F1 N1 B1 X1 T1 lL
  simp only [List.reverse_cons, List.reverse_nil, List.nil_append, List.cons_append] at F1
  (try k_fold)
  have lX2 := ltN lX
  (try (with_reducible refine (let A9 : PySem.Around := _; let e9 : PySem.Env := _; (?_ : PySem.wpAny _ A9 (PySem.execs _ e9) _ _ _))))
  w_strict repeat' ((fail_if_success (with_reducible show wpAny _ _ (exec (Stmt.For _ _ _ _ _) _) _ _ _)); kla_enter)
  refine wpAny_For ?_
  w_strict repeat' ((fail_if_success (with_reducible show wpAny _ _ (pyIter _) _ _ _)); kla_enter)
  rename Fr gH LF _ _ => F2
  rename News gH LF _ _ => N2
  (try k_fold)
  first | (refine Mine.ex_2 hrow ?_; (try clear hrow); rintro c0 r0 h9E; refine Mine.cj_3 h9E ?_; clear h9E; rintro hcps hc1 hc2) | (obtain ⟨c0, r0, hcps, hc1, hc2⟩ := hrow)
  obtain ⟨tK, N2'⟩ : ∃ tK, News gH LF _ (_ :: (x, instObj 244 dx) :: (dx, dictOf [{ hash := PyData.keyHash w.params (Str.ofString "raw"), key := .str (Str.ofString "raw") tK, val := .str row t }] 1) :: news) := ⟨_, nsub N2 (Mine.fmc (.head _) (Mine.fmc (.tail _ (.tail _ (.head _))) (Mine.fmc (.tail _ (.tail _ (.tail _ (.head _)))) (fun p hp => .tail _ (.tail _ (.tail _ (.tail _ hp)))))))⟩
  clear N2
  refine' fors (L := LF) (σ := (Tok × Tok × Tok) × (Tok × Tok) × Nat × List Value × Nat × Addr) (fun _ => s.gens) (fun c => (c.2.2.2.2.2, listOf c.2.2.2.1.toArray c.2.2.2.2.1) :: (x, instObj 244 dx) :: (dx, dictOf [{ hash := PyData.keyHash w.params (Str.ofString "raw"), key := .str (Str.ofString "raw") tK, val := .str row t }] 1) :: news)
    (fun c => [(Str.ofString "self", .ref x), (Str.ofString "S", .str (Str.ofString " ") c.2.1.1), (Str.ofString "T", .str (Str.ofString "\t") c.2.1.2), (Str.ofString "n", .int c.2.2.1 c.1.1), (Str.ofString "b", .int (runOf k c.2.2.1) c.1.2.1), (Str.ofString "nt", .int (tabsOf k c.2.2.1) c.1.2.2), (Str.ofString "count", .ref c.2.2.2.2.2)])
    (fun i c => c.2.2.1 = i ∧ i ≤ k + j ∧ IntsAre c.2.2.2.1 (cntOf k i) ∧ (∀ q ∈ news, q.1 < c.2.2.2.2.2) ∧ x < c.2.2.2.2.2) ((_, _, _), (_, _), 0, [], 0, _) rfl rfl rfl F2 N2' ?mk1 ?mp1 ?mt1 ?md1
  case mk1 =>
    have e1 : runOf k 0 = 0 := by unfold runOf; split <;> kst_p2
    have e2 : tabsOf k 0 = 0 := by unfold tabsOf; rw [if_pos (by kst_p2)]
    dsimp only
    rw [e1, e2]
    kst_all
  case mp1 => exact ⟨rfl, Nat.zero_le _, by unfold cntOf; rw [if_pos (by kst_p2)]; exact .nil, by dsimp only; rename _ ∧ _ ∧ _ ∧ AllLt _ news => z9; exact kst_ltOf z9.2.2.2, by dsimp only; rename _ ∧ _ ∧ _ ∧ AllLt _ news => z9; exact z9.2.1⟩
  case md1 =>
    first | (refine Mine.pooxxxcoxxcxxxxc ?_; intro tn tb tt tS tT i1 us un2 l2) | (rintro ⟨⟨tn, tb, tt⟩, ⟨tS, tT⟩, i1, us, un2, l2⟩)
    rintro u h2 tk2 h9Q1 F3 N3
    obtain ⟨-, hle, -⟩ := h9Q1
    exfalso
    rw [hcps] at hle
    simp [lead_len] at hle
    kst_p2
  case mt1 =>
    rintro i
    first | (refine Mine.pooxxxcoxxcxxxxc ?_; intro tn tb tt tS tT i1 us un2 l2) | (rintro ⟨⟨tn, tb, tt⟩, ⟨tS, tT⟩, i1, us, un2, l2⟩)
    rintro kc tc u h2 tk2 it o hkc h9Q1 hit F3 N3
    refine Mine.gk ?_
    intro Gz9 kz9
    obtain ⟨rfl, hle, hus, hnew, hxl⟩ := h9Q1
    refine kz9 ?_
    (try clear kz9 Gz9)
    dsimp only at hle hus hnew hxl F3 N3 ⊢
    have q1 : @Ne Nat x it := neN (hit (x, _) (.tail _ (.head _)))
    have q2 : @Ne Nat dx it := neN (hit (dx, _) (.tail _ (.tail _ (.head _))))
    have q3 : @Ne Nat l2 it := neN (hit (l2, _) (.head _))
    have q4 := ltN hxl
    rw [hcps] at hkc
    simp only [List.getElem?_toArray] at hkc
    by_cases hi : i1 < k + j
    · rw [List.getElem?_append_left (by rw [lead_len]; exact hi), lead_at hk4 hj3 hi] at hkc
      by_cases hik : i1 + 1 = k
      · rw [if_pos hik] at hkc
        refine Mine.gk ?_
        intro Gz9 kz9
        cases hkc
        all_goals (try (refine kz9 ?_; (try clear kz9 Gz9)))
        have e0 : cntOf k i1 = [] := by unfold cntOf; rw [if_pos (by kst_p2)]
        rw [e0] at hus
        refine Mine.gk ?_
        intro Gz9 kz9
        cases hus
        all_goals (try (refine kz9 ?_; (try clear kz9 Gz9)))
        have e1 : runOf k i1 = i1 := by unfold runOf; rw [if_pos (by kst_p2)]
        have e2 : tabsOf k i1 = 0 := by unfold tabsOf; rw [if_pos (by kst_p2)]
        rw [e1, e2] at F3
        w_strict repeat' ((fail_if_success (with_reducible show wpAny _ _ (exec (Stmt.If (Expr.Compare (Expr.Name (Str.ofString "b") _) _ _ _) _ _ _) _) _ _ _)); kla_enter)
        w_strict repeat' kla_enter
        rename Fr gH LF _ _ => F8
        rename News gH LF _ _ => N8
        rename _ ∧ _ ∧ _ ∧ _ ∧ _ ∧ _ ∧ AllLt _ news => z9
        rename IntsAre (List.set _ _ _) _ => z8
        have e3 : runOf k (i1 + 1) = 0 := by unfold runOf; rw [if_neg (by kst_p2)]; kst_p2
        have e4 : tabsOf k (i1 + 1) = 1 := by unfold tabsOf; rw [if_neg (by kst_p2)]
        have z7 := Eq.mp (congrArg (IntsAre _) (cnt_tab i1 (by kst_p2) k hik)) z8
        refine' fend ((_, _, _), (tS, tT), i1 + 1, _, _, _) F8 N8 (by kst_allIn) (Mine.fmc (.head _) (by kst_allIn)) (Mine.fmc (fun e => Nat.ne_of_gt (ltN z9.2.2.1) (List.mem_singleton.mp e)) (fun p hp e => hit p (.tail _ hp) (List.mem_singleton.mp e))) ?wk1 ⟨rfl, hi, z7, kst_ltOf z9.2.2.2.2.2.2, z9.2.2.2.2.1⟩
        case wk1 =>
          dsimp only
          rw [e3, e4]
          kst_all
      · rw [if_neg hik] at hkc
        refine Mine.gk ?_
        intro Gz9 kz9
        cases hkc
        all_goals (try (refine kz9 ?_; (try clear kz9 Gz9)))
        w_strict repeat' kla_enter
        have e1 : runOf k (i1 + 1) = runOf k i1 + 1 := by unfold runOf; split <;> split <;> kst_p2
        have e2 : tabsOf k (i1 + 1) = tabsOf k i1 := by unfold tabsOf; split <;> split <;> kst_p2
        have e3 : cntOf k (i1 + 1) = cntOf k i1 := by unfold cntOf; split <;> split <;> first | rfl | (exfalso; kst_p2)
        refine' fend ((_, _, tt), (tS, tT), i1 + 1, us, un2, l2) (by assumption) (by assumption) (by kst_allIn) (by kst_allIn) (fun p hp e => hit p hp (List.mem_singleton.mp e)) ?wk2 ⟨rfl, by kst_p2, by rw [e3]; exact hus, hnew, hxl⟩
        case wk2 =>
          dsimp only
          rw [e1, e2]
          kst_all
    · have hi' : i1 = k + j := by kst_p2
      rw [List.getElem?_append_right (by rw [lead_len]; kst_p2), lead_len, hi', Nat.sub_self] at hkc
      simp at hkc
      subst hkc
      subst hi'
      w_strict repeat' ((fail_if_success (with_reducible show wpAny _ _ (compareOp _ _ _) _ _ _)); kla_enter)
      refine eq_no hc1 rfl ?_
      w_strict repeat' ((fail_if_success (with_reducible show wpAny _ _ (compareOp _ _ _) _ _ _)); kla_enter)
      refine eq_no hc2 rfl ?_
      w_strict repeat' ((fail_if_success (with_reducible show wpAny _ _ (call (.type "tuple") _) _ _ _)); kla_enter)
      have hul : us.length ≤ 3 := by
        rw [hus.length]
        unfold cntOf
        split <;> simp; kst_p2
      refine' kde_tupleOf (by k_asm) (by k_asm) (News.isList (by k_asm) (by k_mem)) ?kt4 ?kt5 ?_
      case kt4 => rw [List.size_toArray]; kst_p2
      case kt5 => rfl
      intro D9 h9 F9 N9 l9
      (try k_lt l9)
      w_strict repeat' kla_enter
      rename Fr h₀ L _ _ => F8
      rename News h₀ L _ _ => N8
      have z2 := l9
      rename _ ∧ _ ∧ _ ∧ _ ∧ _ ∧ AllLt _ news => z3
      refine' hret x [_, _, _, _] _ _ F8 (nsub N8 (Mine.fmc (.head _) (Mine.fmc (.tail _ (.head _)) (Mine.fmc (.tail _ (.tail _ (.tail _ (.tail _ (.head _))))) (Mine.fmc (.tail _ (.tail _ (.tail _ (.tail _ (.tail _ (.head _)))))) (fun p hp => .tail _ (.tail _ (.tail _ (.tail _ (.tail _ (.tail _ hp))))))))))) ?ws2 ?ws3
      case ws2 => exact Mine.fmc (kst_ltOf z3.2.2.2.2.2) (Mine.fmc (kst_ltOf z2.2.2.2.2) (Mine.fmc (fun q hq => Nat.lt_trans (lN q hq) lX) (Mine.fmc (lN) (List.forall_mem_nil _))))
      case ws3 =>
        exact ⟨dx, _, D9, us, tK, _, _, _, _, _, _, _, _, .tail _ (.tail _ (.head _)), .head _, .tail _ (.head _), hus, .tail _ (.tail _ (.tail _ (.head _)))⟩
end
end Mine
end TCws

section TCisnt
open PySem PySem.W PyProof.Rows PySem.Spec PySem.Calls
set_option Elab.async false
set_option maxRecDepth 100000
set_option maxHeartbeats 4000000
set_option linter.unusedVariables false
set_option linter.unusedSimpArgs false

namespace Mine
section
variable {w : World} {mean : ExcName → Option Value} {mg mb : Str → Option Value} {dp un : Nat} {gd : Option (List Code)} {cn : Str} {cs : Scope} {a : Addr} {ccd : Value} {cl : List (Str × Addr)} {outer : List Env} {A₀ : Around} {base h₀ : Heap} {L : Addr} {m : Str → Option Value} {news : List (Addr × Obj)} {s : Shared} {Q E : Value → Shared → Prop}

theorem isnt_spec (C : Cx w mean mg mb cs outer A₀ base h₀ L m news s) (hd1 : dp + 2 < recursionLimit) (hu : un + 8 < cLine) {x : Int} {t : Tok}
    (hret : ∀ h' tk', Fr h₀ L h' m → News h₀ L h' news → Q (.bool (decide (256 ≤ x))) { s with heap := h', toks := tk' }) :
    wpAny (model PySem.Challenge.rw_ti0073_01.row.prog w) (ktrTop dp un gd cn cs L a ccd cl outer) (call (.ref 258) [.int x t]) Q E s := by
  w_top off
  obtain ⟨B, F, X, N, T, hk⟩ := C
  revert X
  k_fill
  intro X
  k_dflt (refine' enter (binds := [(Str.ofString "x", .int x t)]) B F X N T hk ?k6 ?k7 ?k8 ?k9 ?kB ?_ ?c2 ?c3 ?c4 ?c5; (case k6 => k_is); (case k7 => k_is); (case k8 => kst_p2); (case k9 => exact BindsTo.of_eq rfl); (case c5 => decide); (case kB => exact locs rfl); (case c2 => exact rfl); (case c3 => exact rfl); (case c4 => exact rfl))
  intro gH LF hF FG F1 N1 B1 X1 T1 lL
  simp only [List.reverse_cons, List.reverse_nil, List.nil_append, List.cons_append] at F1
  (try k_fold)
  (try (with_reducible refine (let A9 : PySem.Around := _; let e9 : PySem.Env := _; (?_ : PySem.wpAny _ A9 (PySem.execs _ e9) _ _ _))))
  w_strict repeat' kla_enter
  exact hret _ _ (by assumption) (by assumption)
end
end Mine
end TCisnt

section TCrun
open PySem PySem.W PyProof.Rows PySem.Spec PySem.Calls
set_option Elab.async false
set_option maxRecDepth 100000
set_option maxHeartbeats 4000000
set_option linter.unusedVariables false
set_option linter.unusedSimpArgs false

namespace Mine
inductive Fo where
  | nil
  | cons (w : Nat) (b r : Fo)
noncomputable def wordOf : Nat → List Int
  | 0 => [256, 36, 257]
  | 1 => [257, 36, 256]
  | 2 => [49, 49, 11, 11]
  | _ => [49, 49, 49, 11]
noncomputable def timesOf : Nat → Nat
  | 0 => 1
  | 1 => 1
  | n => n
noncomputable def stepW : Nat → Int × Int → Int × Int
  | 0, p => (p.1 + p.2, p.2)
  | 1, p => (p.1, p.2 + p.1)
  | _, p => p
noncomputable def iterN {α : Type} (f : α → α) : Nat → α → α
  | 0, x => x
  | n + 1, x => iterN f n (f x)
noncomputable def runF : Fo → Int × Int → Int × Int
  | .nil, p => p
  | .cons w b r, p => runF r (iterN (runF b) (timesOf w) (stepW w p))
theorem iterN_succ {α : Type} (f : α → α) (n : Nat) (x : α) : iterN f (n + 1) x = f (iterN f n x) := by
  induction n generalizing x with
  | zero => rfl
  | succ n ih => exact ih (f x)
noncomputable def Fo.hgt : Fo → Nat
  | .nil => 0
  | .cons _ b r => max (b.hgt + 1) r.hgt
noncomputable def Fo.ok : Fo → Prop
  | .nil => True
  | .cons w b r => w < 4 ∧ b.ok ∧ r.ok
noncomputable def Fo.app : Fo → Fo → Fo
  | .nil, g => g
  | .cons w b r, g => .cons w b (r.app g)
noncomputable def WordIn (news : List (Addr × Obj)) (wl : Addr) (w : Nat) : Prop := ∃ vs n, (wl, listOf (List.toArray vs) n) ∈ news ∧ IntsAre vs (wordOf w)
inductive ForL (news : List (Addr × Obj)) : List Value → Fo → Prop where
  | nil : ForL news [] .nil
  | cons {t wl bl : Addr} {bvs vs : List Value} {nb w : Nat} {b r : Fo} : (t, tupO [.ref wl, .ref bl]) ∈ news → WordIn news wl w → (bl, listOf bvs.toArray nb) ∈ news → ForL news bvs b → ForL news vs r → ForL news (.ref t :: vs) (.cons w b r)
theorem ForL.mono {news news' : List (Addr × Obj)} {vs : List Value} {f : Fo} (h : ForL news vs f) (hs : ∀ p ∈ news, p ∈ news') : ForL news' vs f := by
  induction h with
  | nil => exact .nil
  | cons h1 h2 h3 _ _ ih1 ih2 =>
    (try k_fold)
    first | (refine Mine.ex_2 h2 ?_; (try clear h2); rintro us n h9E; refine Mine.cj_2 h9E ?_; clear h9E; rintro h2 hi) | (obtain ⟨us, n, h2, hi⟩ := h2)
    exact .cons (hs _ h1) ⟨us, n, hs _ h2, hi⟩ (hs _ h3) ih1 ih2
theorem cnt_w {prog : Program} {w : World} {A : Around} {E : Value → Shared → Prop} {s : Shared} {l : Addr} {vs : List Value} {ns : List Int} {k c : Int} {t : Tok} {Q : Value → Shared → Prop} (hl : s.heap.IsList l vs.toArray) (hi : IntsAre vs ns) (hc : ((ns.count k : Nat) : Int) = c)
    (h : Q (.int c s.toks) { s with toks := s.toks + 1 }) : wpAny (model prog w) A (call (.builtin "list.count") [.ref l, .int k t]) Q E s := by
  (try k_fold)
  subst hc
  exact count_list_ints hl hi h
theorem small_t : ∀ w, w < 4 → Builtin.Range.small 0 (timesOf w : Int) 1 = true := by decide
theorem size_t : ∀ w, w < 4 → Builtin.Range.rangeSize 0 (timesOf w : Int) 1 = (timesOf w : Int) := by decide
theorem cnt_t {w : Nat} {vs : List Value} (_ : IntsAre vs (wordOf w)) : (((wordOf w).count 49 : Nat) : Int) = ((wordOf w).count 49 : Nat) := rfl
noncomputable def RunAll (w : World) (k : Nat) : Prop := ∀ (f : Fo) (vs : List Value) (l : Addr) (n : Nat) (x y : Int) (t t2 : Tok) (mean : ExcName → Option Value) (mg mb : Str → Option Value) (dp un : Nat) (gd : Option (List Code)) (cn : Str) (cs : Scope) (a : Addr) (ccd : Value) (cl : List (Str × Addr)) (outer : List Env) (A₀ : Around) (base h₀ : Heap) (L : Addr) (m : Str → Option Value) (news : List (Addr × Obj)) (s : Shared) (Q E : Value → Shared → Prop)
    (C : Cx w mean mg mb cs outer A₀ base h₀ L m news s) (hd1 : dp + f.hgt + 10 < recursionLimit) (hu : un + 8 * f.hgt + 50 < cLine)
    (hh : f.hgt ≤ k) (hok : f.ok) (hl : (l, listOf vs.toArray n) ∈ news) (hf : ForL news vs f)
    (hret : ∀ d t3 t4 tl h' tk', Fr h₀ L h' m → News h₀ L h' (tl ++ news) → (∀ p ∈ tl, ∀ q ∈ news, q.1 < p.1) → (d, tupO [.int (runF f (x, y)).1 t3, .int (runF f (x, y)).2 t4]) ∈ tl → Q (.ref d) { s with heap := h', toks := tk' }),
    wpAny (model PySem.Challenge.rw_ti0073_01.row.prog w) (ktrTop dp un gd cn cs L a ccd cl outer) (call (.ref 298) [.ref l, .int x t, .int y t2]) Q E s
section
variable {w : World} {mean : ExcName → Option Value} {mg mb : Str → Option Value} {dp un : Nat} {gd : Option (List Code)} {cn : Str} {cs : Scope} {a : Addr} {ccd : Value} {cl : List (Str × Addr)} {outer : List Env} {A₀ : Around} {base h₀ : Heap} {L : Addr} {m : Str → Option Value} {news : List (Addr × Obj)} {s : Shared} {Q E : Value → Shared → Prop}

theorem run_use {k : Nat} (h : RunAll w k) (C : Cx w mean mg mb cs outer A₀ base h₀ L m news s) {f : Fo} {vs : List Value} {l : Addr} {n : Nat} {x y : Int} {t t2 : Tok} (hd1 : dp + f.hgt + 10 < recursionLimit) (hu : un + 8 * f.hgt + 50 < cLine)
    (hh : f.hgt ≤ k) (hok : f.ok) (hl : (l, listOf vs.toArray n) ∈ news) (hf : ForL news vs f)
    (hret : ∀ d t3 t4 tl h' tk', Fr h₀ L h' m → News h₀ L h' (tl ++ news) → (∀ p ∈ tl, ∀ q ∈ news, q.1 < p.1) → (d, tupO [.int (runF f (x, y)).1 t3, .int (runF f (x, y)).2 t4]) ∈ tl → Q (.ref d) { s with heap := h', toks := tk' }) :
    wpAny (model PySem.Challenge.rw_ti0073_01.row.prog w) (ktrTop dp un gd cn cs L a ccd cl outer) (call (.ref 298) [.ref l, .int x t, .int y t2]) Q E s := h _ _ _ _ _ _ _ _ _ _ _ _ _ _ _ _ _ _ _ _ _ _ _ _ _ _ _ _ _ C hd1 hu hh hok hl hf hret
end
theorem run_all (w : World) (k : Nat) : RunAll w k := by
  induction k using Nat.strongRecOn with
  | _ k ih =>
  intro f vs l n x y t t2 mean mg mb dp un gd cn cs a ccd cl outer A₀ base h₀ L m news s Q E C hd1 hu hh hok hl hf hret
  w_top off
  obtain ⟨B, F, X, N, T, hk⟩ := C
  revert X
  k_fill
  intro X
  k_dflt (refine' enter (binds := [(Str.ofString "tree", .ref l), (Str.ofString "one", .int x t), (Str.ofString "two", .int y t2)]) B F X N T hk ?k6 ?k7 ?k8 ?k9 ?kB ?_ ?c2 ?c3 ?c4 ?c5; (case k6 => k_is); (case k7 => k_is); (case k8 => kst_p2); (case k9 => exact BindsTo.of_eq rfl); (case c5 => decide); (case kB => exact locs rfl); (case c2 => exact rfl); (case c3 => exact rfl); (case c4 => exact rfl))
  intro gH LF hF FG F1 N1 B1 X1 T1 lL
  simp only [List.reverse_cons, List.reverse_nil, List.nil_append, List.cons_append] at F1
  (try k_fold)
  (try (with_reducible refine (let A9 : PySem.Around := _; let e9 : PySem.Env := _; (?_ : PySem.wpAny _ A9 (PySem.execs _ e9) _ _ _))))
  w_strict repeat' ((fail_if_success (with_reducible show wpAny _ _ (exec (Stmt.For _ _ _ _ _) _) _ _ _)); kla_enter)
  refine wpAny_For ?_
  w_strict repeat' ((fail_if_success (with_reducible show wpAny _ _ (pyIter _) _ _ _)); kla_enter)
  rename Fr gH LF _ _ => F2
  rename News gH LF _ _ => N2
  (try k_fold)
  refine forl (L := LF) (σ := Int × Int × Tok × Tok) (fun _ => s.gens) (fun _ => news) (fun c => [(Str.ofString "one", .int c.1 c.2.2.1), (Str.ofString "two", .int c.2.1 c.2.2.2)])
    (fun i c => ∃ r, ForL news (vs.drop i) r ∧ runF r (c.1, c.2.1) = runF f (x, y) ∧ r.hgt ≤ f.hgt ∧ r.ok) (x, y, t, t2) rfl rfl (fun _ => hl) rfl F2 N2 ?mk1 ?mp1 ?mt1 ?md1
  case mk1 => kst_all
  case mp1 => exact ⟨f, hf, rfl, Nat.le_refl _, hok⟩
  case md1 =>
    (try k_fold)
    first | (refine Mine.poxxxxc ?_; intro x1 y1 t1 t3) | (rintro ⟨x1, y1, t1, t3⟩)
    rintro u h2 tk2 h9Q1 F3 N3
    (try k_fold)
    refine Mine.gk ?_
    intro Gz9 kz9
    obtain ⟨r, hr, hrun, -, -⟩ := h9Q1
    refine kz9 ?_
    (try clear kz9 Gz9)
    rw [List.drop_length] at hr
    (try k_fold)
    refine Mine.gk ?_
    intro Gz9 kz9
    (try k_fold)
    cases hr
    all_goals (try (refine kz9 ?_; (try clear kz9 Gz9)))
    dsimp only at F3 hrun ⊢
    w_strict repeat' kla_enter
    case' _ =>
      rename Fr h₀ L _ _ => F6
      rename News h₀ L _ _ => N6
      rename ∀ p ∈ news, p.1 < _ => k1
      simp only [runF] at hrun
      refine hret _ t1 t3 [_] _ _ F6 N6 ?lt1 ?md3
      case lt1 =>
        intro q hq p hp
        rw [List.mem_singleton.mp hq]
        exact k1 p hp
      case md3 =>
        rw [← hrun]
        exact List.Mem.head _
  case mt1 =>
    rintro i
    (try k_fold)
    first | (refine Mine.poxxxxc ?_; intro x1 y1 t1 t3) | (rintro ⟨x1, y1, t1, t3⟩)
    rintro v u h2 tk2 it o hi hv h9Q1 hit F3 N3
    (try k_fold)
    refine Mine.gk ?_
    intro Gz9 kz9
    obtain ⟨r, hr, hrun, hrh, hrok⟩ := h9Q1
    refine kz9 ?_
    (try clear kz9 Gz9)
    rw [List.drop_eq_getElem_cons hi] at hr
    rw [List.getElem?_eq_getElem hi] at hv
    injection hv with hv
    rw [hv] at hr
    (try k_fold)
    refine Mine.gk ?_
    intro Gz9 kz9
    (try k_fold)
    cases hr
    all_goals (try (refine kz9 ?_; (try clear kz9 Gz9)))
    rename_i hbl hr' w1 htp hbk hwd
    dsimp only at F3 hrun ⊢
    rename_i t1' wl bl bvs nb w0 b0
    (try k_fold)
    first | (refine Mine.ex_2 w1 ?_; (try clear w1); rintro ws wn h9E; refine Mine.cj_2 h9E ?_; clear h9E; rintro hw hwi) | (obtain ⟨ws, wn, hw, hwi⟩ := w1)
    have hw4 : w0 = 0 ∨ w0 = 1 ∨ w0 = 2 ∨ w0 = 3 := by have := hrok.1; kst_p2
    have hb0 : b0.hgt + 1 ≤ f.hgt := by have := hrh; simp only [Fo.hgt] at this; kst_p2
    have hb1 : b0.ok := hrok.2.1
    have hI0 := ih (k - 1) (by kst_p2)
    w_strict repeat' ((fail_if_success (with_reducible show wpAny _ _ (exec (Stmt.If _ _ _ _) _) _ _ _)); first | (k_here; (with_reducible show wpAny _ _ (call (Value.builtin "list.count") _) _ _ _); k_dflt (refine cnt_w (by is_list) (by assumption) (by first | exact (show _ = (0 : Int) by decide) | exact (show _ = (2 : Int) by decide) | exact (show _ = (3 : Int) by decide)) ?_)) | (k_here; (with_reducible show wpAny _ _ (getMethod (Value.ref _) (PySem.Str.ofString "count") _) _ _ _); k_dflt (refine' kl_method ?N ?m PySem.F.slot_list_count PySem.F.type_list_count ?_; (case N => k_asm); (case m => k_mem))) | kla_enter)
    rename Fr gH LF _ _ => F4
    rename News gH LF _ _ => N4
    refine (let q7 : PySem.Flow → PySem.Shared → Prop := _; let e7 : PySem.Value → PySem.Shared → Prop := _; (?_ : PySem.wpAny _ _ _ q7 e7 _))
    have hq : ∀ (p1 p2 : Int) (q1 q2 tm : Tok) (m5 : Str → Option Value) (h5 : Heap) (tk5 : Nat), (p1, p2) = stepW w0 (x1, y1) → Fr gH LF h5 m5 →
        (∀ p ∈ [(Str.ofString "one", .int p1 q1), (Str.ofString "two", .int p2 q2), (Str.ofString "times", .int (timesOf w0) tm), (Str.ofString "block", .ref bl)], m5 p.1 = some p.2) → News gH LF h5 ((it, o) :: news) → q7 .next { s with heap := h5, gens := s.gens, toks := tk5 } := by
      intro p1 p2 q1 q2 tm m5 h5 tk5 hst F5 hm5 N5
      rw [← kst_agree hm5] at F5
      clear hm5 F4 N4
      w_strict repeat' ((fail_if_success (with_reducible show wpAny _ _ (exec (Stmt.For _ _ _ _ _) _) _ _ _)); kla_enter)
      refine wpAny_For ?_
      w_strict repeat' ((fail_if_success (with_reducible show wpAny _ _ (pyIter _) _ _ _)); kla_enter)
      rename Fr gH LF _ _ => F4
      rename News gH LF _ _ => N4
      (try k_fold)
      refine' forr (L := LF) (n := timesOf w0) (σ := Int × Int × Tok × Tok) (fun _ => s.gens) (fun _ => (it, o) :: news) (fun c => [(Str.ofString "one", .int c.1 c.2.2.1), (Str.ofString "two", .int c.2.1 c.2.2.2), (Str.ofString "block", .ref bl)])
        (fun i c => (c.1, c.2.1) = iterN (runF b0) i (stepW w0 (x1, y1))) (p1, p2, q1, q2) rfl rfl (by assumption) (small_t w0 hrok.1) (size_t w0 hrok.1) rfl F4 N4 ?mk2 ?mp2 ?mt2 ?md2
      case mk2 => kst_all
      case mp2 => exact hst
      case mt2 =>
        rintro j
        (try k_fold)
        first | (refine Mine.poxxxxc ?_; intro x2 y2 t5 t6) | (rintro ⟨x2, y2, t5, t6⟩)
        rintro tt u2 h3 tk3 it2 o2 hj hI hit2 F5 N5
        dsimp only at hI F5 ⊢
        w_strict repeat' (first | (k_here; (with_reducible show wpAny _ _ (call (Value.ref 298) _) _ _ _); k_dflt (refine' run_use ?hI ⟨?k1, ?k2, ?k3, ?k4, ?k5, ?kK⟩ ?kd ?ku ?q1 ?q2 ?q3 ?q4 ?_; (case hI => assumption); (case k2 => k_asm); (case k1 => k_asm); (case k3 => k_asm); (case k4 => k_asm); (case k5 => k_asm); (case kK => first | exact rfl | assumption); (case q3 => k_mem); (case q4 => refine ForL.mono (by assumption) (by k_ownIn)); (case q1 => kst_p2); (case q2 => assumption); (case kd => kst_p2); (case ku => kst_p2)); intro _ _ _ _ _ _ _ _ _ _; (try dsimp only); (try k_fold)) | kla_enter)
        case' _ =>
          rename Fr gH LF _ _ => F6
          rename News gH LF _ _ => N6
          refine fend (_, _, _, _) F6 N6 (fun p hp => by rw [List.mem_singleton.mp hp]; simp) (by k_ownIn) (fun p hp e => hit2 p hp (List.mem_singleton.mp e)) (by kst_all) ?_
          rw [iterN_succ, ← hI]
      case md2 =>
        (try k_fold)
        first | (refine Mine.poxxxxc ?_; intro x2 y2 t5 t6) | (rintro ⟨x2, y2, t5, t6⟩)
        rintro u2 h3 tk3 hI F5 N5
        dsimp only at hI F5 ⊢
        w_strict repeat' kla_enter
        case' _ =>
          rename Fr gH LF _ _ => F6
          rename News gH LF _ _ => N6
          refine fend (_, _, _, _) F6 N6 (fun p hp => by rw [List.mem_singleton.mp hp]; simp) (by k_ownIn) (fun p hp e => hit p hp (List.mem_singleton.mp e)) (by kst_all) ⟨hbl, hwd, ?_, ?_, hrok.2.2⟩
          · rw [← hrun]; simp only [runF]; rw [← hI]
          · simp only [Fo.hgt] at hrh; kst_p2
    clear_value q7
    (try k_fold)
    refine Mine.gk ?_
    intro Gz9 kz9
    (try k_fold)
    rcases hw4 with rfl | rfl | rfl | rfl
    all_goals (try (refine kz9 ?_; (try clear kz9 Gz9)))
    all_goals (
      simp only [wordOf] at hwi
      have hwi' := hwi
      (try k_fold)
      refine Mine.gk ?_
      intro Gz9 kz9
      rcases hwi with _ | ⟨_, ta, hwi⟩
      all_goals (try (refine kz9 ?_; (try clear kz9 Gz9)))
      (try k_fold)
      refine Mine.gk ?_
      intro Gz9 kz9
      rcases hwi with _ | ⟨_, tb, hwi⟩
      all_goals (try (refine kz9 ?_; (try clear kz9 Gz9)))
      (try k_fold)
      refine Mine.gk ?_
      intro Gz9 kz9
      rcases hwi with _ | ⟨_, tc, hwi⟩
      all_goals (try (refine kz9 ?_; (try clear kz9 Gz9)))
      first | (rcases hwi with _ | _) | (rcases hwi with _ | ⟨_, td, hwi⟩; rcases hwi with _ | _))
    all_goals (
      w_strict repeat' (first | (k_here; (with_reducible show wpAny _ _ (call (Value.ref 258) _) _ _ _); k_dflt (refine' isnt_spec ⟨?k1, ?k2, ?k3, ?k4, ?k5, ?kK⟩ ?kd ?ku  ?_; (case k2 => k_asm); (case k1 => k_asm); (case k3 => k_asm); (case k4 => k_asm); (case k5 => k_asm); (case kK => first | exact rfl | assumption); (case kd => kst_p2); (case ku => kst_p2)); intro _ _ _ _; (try dsimp only); (try k_fold)) | kla_enter))
    all_goals (
      rename Fr gH LF _ _ => F6
      rename News gH LF _ _ => N6
      refine' hq _ _ _ _ _ _ _ _ ?h1 F6 ?h2 N6
      (case h1 => rfl)
      (case h2 => kst_all))
end Mine
end TCrun

section TCtold
open PySem PySem.W PyProof.Rows PySem.Spec PySem.Calls
set_option Elab.async false
set_option maxRecDepth 100000
set_option maxHeartbeats 4000000
set_option linter.unusedVariables false
set_option linter.unusedSimpArgs false

local macro_rules | `(tactic| k_mem) => `(tactic| first | (with_reducible refine List.mem_cons.mpr (.inl (congrArg (Prod.mk _) ?_)); exact rfl) | (with_reducible refine List.mem_cons_of_mem _ ?_; k_mem) | (with_reducible refine List.mem_append_right _ ?_; k_mem) | (with_reducible refine List.mem_append_left _ ?_; k_mem) | ktr_member | exact List.Mem.head _)
namespace Mine
noncomputable def forestF {α : Type} (lt : α → α → Bool) : Nat → List (α × Nat) → Fo
  | 0, _ => .nil
  | _ + 1, [] => .nil
  | n + 1, p :: r => .cons p.2 (forestF lt n (r.takeWhile fun q => lt p.1 q.1)) (forestF lt n (r.dropWhile fun q => lt p.1 q.1))
noncomputable def forest {α : Type} (lt : α → α → Bool) (l : List (α × Nat)) : Fo := forestF lt l.length l
theorem fcons {w : Nat} {a b c d : Fo} (h : a = c) (k : b = d) : Fo.cons w a b = Fo.cons w c d := h ▸ k ▸ rfl
theorem forestF_eq {α : Type} (lt : α → α → Bool) (n : Nat) : ∀ (m : Nat) (l : List (α × Nat)), l.length ≤ n → l.length ≤ m → forestF lt n l = forestF lt m l := by
  induction n with
  | zero =>
    intro m l h k
    cases l with
    | nil => cases m <;> rfl
    | cons p r => exact absurd h (Nat.not_succ_le_zero _)
  | succ n ih =>
    intro m l h k
    cases l with
    | nil => cases m <;> rfl
    | cons p r =>
      cases m with
      | zero => exact absurd k (Nat.not_succ_le_zero _)
      | succ m =>
        have h9 := Nat.le_of_succ_le_succ h
        have k9 := Nat.le_of_succ_le_succ k
        have a := (List.takeWhile_sublist (l := r) fun q => lt p.1 q.1).length_le
        have b := (List.dropWhile_sublist (l := r) fun q => lt p.1 q.1).length_le
        exact fcons (ih m _ (Nat.le_trans a h9) (Nat.le_trans a k9)) (ih m _ (Nat.le_trans b h9) (Nat.le_trans b k9))
theorem forest0 {α : Type} (lt : α → α → Bool) : forest lt [] = .nil := rfl
theorem forest1 {α : Type} (lt : α → α → Bool) (p : α × Nat) (r : List (α × Nat)) : forest lt (p :: r) = .cons p.2 (forest lt (r.takeWhile fun q => lt p.1 q.1)) (forest lt (r.dropWhile fun q => lt p.1 q.1)) :=
  fcons (forestF_eq lt _ _ _ (List.takeWhile_sublist _).length_le (Nat.le_refl _)) (forestF_eq lt _ _ _ (List.dropWhile_sublist _).length_le (Nat.le_refl _))
noncomputable def repL {α : Type} (n : Nat) (l : List α) : List α := (List.replicate n l).flatten
noncomputable def toldOf : Fo → List Int
  | .nil => []
  | .cons w b r => (if w < 2 then (w : Int) :: toldOf b else repL w (toldOf b)) ++ toldOf r
noncomputable abbrev Cols := Int × Int × Int
noncomputable def ltC (a b : Cols) : Bool := decide (a.1 < b.1) && decide (a.2.1 < b.2.1) && decide (a.2.2 < b.2.2)
noncomputable def ColIn (news : List (Addr × Obj)) (cl : Addr) (c : Cols) : Prop := ∃ vs n, (cl, listOf (List.toArray vs) n) ∈ news ∧ IntsAre vs [c.1, c.2.1, c.2.2]
inductive ItemC (news : List (Addr × Obj)) (v : Value) (p : Cols × Nat) : Prop
  | mk (t cl tk) : v = .ref t → (t, tupO [.ref cl, .int p.2 tk]) ∈ news → ColIn news cl p.1 → ItemC news v p
inductive Items {α : Type} (R : Value → α → Prop) : List Value → List α → Prop where
  | nil : Items R [] []
  | cons {v : Value} {p : α} {vs : List Value} {ps : List α} : R v p → Items R vs ps → Items R (v :: vs) (p :: ps)
theorem Items.length {α : Type} {R : Value → α → Prop} {vs : List Value} {ps : List α} (h : Items R vs ps) : vs.length = ps.length := by
  induction h with
  | nil => rfl
  | cons _ _ ih => simp [ih]
theorem Items.mono {α : Type} {R R' : Value → α → Prop} {vs : List Value} {ps : List α} (h : Items R vs ps) (hR : ∀ v p, R v p → R' v p) : Items R' vs ps := by
  induction h with
  | nil => exact .nil
  | cons h _ ih => exact .cons (hR _ _ h) ih
theorem Items.drop {α : Type} {R : Value → α → Prop} {vs : List Value} {ps : List α} (h : Items R vs ps) : ∀ n, Items R (vs.drop n) (ps.drop n) := by
  induction h with
  | nil => intro n; simpa using Items.nil
  | cons h h2 ih =>
    intro n
    cases n with
    | zero => exact .cons h h2
    | succ n => exact ih n
theorem Items.take {α : Type} {R : Value → α → Prop} {vs : List Value} {ps : List α} (h : Items R vs ps) : ∀ n, Items R (vs.take n) (ps.take n) := by
  induction h with
  | nil => intro n; simpa using Items.nil
  | cons h h2 ih =>
    intro n
    cases n with
    | zero => exact .nil
    | succ n => exact .cons h (ih n)
theorem Items.at {α : Type} {R : Value → α → Prop} {vs : List Value} {ps : List α} (h : Items R vs ps) : ∀ i, i < ps.length → ∃ v p, vs[i]? = some v ∧ ps[i]? = some p ∧ R v p := by
  induction h with
  | nil => intro i hi; exact absurd hi (Nat.not_lt_zero _)
  | cons h h2 ih =>
    intro i hi
    cases i with
    | zero => exact ⟨_, _, rfl, rfl, h⟩
    | succ i => exact ih i (by simpa using hi)
theorem tw_at {α : Type} {r : List α} {p : α → Bool} {j : Nat} (h : ∀ x ∈ r.take j, p x = true) (he : r.length ≤ j ∨ ∃ x, r[j]? = some x ∧ p x = false) : r.takeWhile p = r.take j ∧ r.dropWhile p = r.drop j := by
  induction r generalizing j with
  | nil => simp
  | cons a r ih =>
    cases j with
    | zero =>
      (try k_fold)
      refine Mine.gk ?_
      intro Gz9 kz9
      rcases he with he | ⟨x, hx, hp⟩
      all_goals (try (refine kz9 ?_; (try clear kz9 Gz9)))
      · simp at he
      · simp at hx
        (try k_fold)
        subst hx
        simp [hp]
    | succ j =>
      have ha : p a = true := h a (by simp)
      have := ih (j := j) (fun x hx => h x (by simp [hx])) (by simpa using he)
      simp [ha, this.1, this.2]
theorem ints_at {vs : List Value} {ns : List Int} (h : IntsAre vs ns) : ∀ (i : Nat) (v : Value), vs[i]? = some v → ∃ k t, ns[i]? = some k ∧ v = .int k t := by
  induction h with
  | nil => intro i v e; simp at e
  | cons n t _ ih =>
    intro i v e
    cases i with
    | zero => simp at e; exact ⟨_, _, by simp, e.symm⟩
    | succ i => simpa using ih i v (by simpa using e)
theorem lt3 (a b : Cols) : (∀ (j : Nat) (x y : Int), j < 3 → [a.1, a.2.1, a.2.2][j]? = some x → [b.1, b.2.1, b.2.2][j]? = some y → x < y) ↔ ltC a b = true := by
  simp only [ltC, Bool.and_eq_true, decide_eq_true_eq]
  constructor
  · intro h
    exact ⟨⟨h 0 _ _ (by kst_p2) rfl rfl, h 1 _ _ (by kst_p2) rfl rfl⟩, h 2 _ _ (by kst_p2) rfl rfl⟩
  · (try k_fold)
    first | (refine Mine.pooxxcxc ?_; intro h1 h2 h3) | (rintro ⟨⟨h1, h2⟩, h3⟩)
    rintro j x y hj hx hy
    (try k_fold)
    refine Mine.gk ?_
    intro Gz9 kz9
    rcases j with _ | _ | _ | j
    all_goals (try (refine kz9 ?_; (try clear kz9 Gz9)))
    · (try k_fold)
      cases hx; cases hy; exact h1
    · (try k_fold)
      cases hx; cases hy; exact h2
    · (try k_fold)
      cases hx; cases hy; exact h3
    · kst_p2
noncomputable def ToldAll (w : World) (k : Nat) : Prop := ∀ (ws : List (Cols × Nat)) (vs : List Value) (l : Addr) (n : Nat) (mean : ExcName → Option Value) (mg mb : Str → Option Value) (dp un : Nat) (gd : Option (List Code)) (cn : Str) (cs : Scope) (a : Addr) (ccd : Value) (cl : List (Str × Addr)) (outer : List Env) (A₀ : Around) (base h₀ : Heap) (L : Addr) (m : Str → Option Value) (news : List (Addr × Obj)) (s : Shared) (Q E : Value → Shared → Prop)
    (C : Cx w mean mg mb cs outer A₀ base h₀ L m news s) (hd1 : dp + ws.length + 10 < recursionLimit) (hu : un + 8 * ws.length + 120 < cLine)
    (hk : ws.length ≤ k) (hlen : ws.length ≤ 8) (hok : ∀ x ∈ ws, x.2 < 4) (hl : (l, listOf vs.toArray n) ∈ news) (hw : Items (ItemC news) vs ws)
    (hret : ∀ r us nu tl h' tk', Fr h₀ L h' m → News h₀ L h' (tl ++ news) → (∀ p ∈ tl, ∀ q ∈ news, q.1 < p.1) → (r, listOf us.toArray nu) ∈ tl → IntsAre us (toldOf (forest ltC ws)) → Q (.ref r) { s with heap := h', toks := tk' }),
    wpAny (model PySem.Challenge.rw_ti0073_01.row.prog w) (ktrTop dp un gd cn cs L a ccd cl outer) (call (.ref 310) [.ref l]) Q E s
section
variable {w : World} {mean : ExcName → Option Value} {mg mb : Str → Option Value} {dp un : Nat} {gd : Option (List Code)} {cn : Str} {cs : Scope} {a : Addr} {ccd : Value} {cl : List (Str × Addr)} {outer : List Env} {A₀ : Around} {base h₀ : Heap} {L : Addr} {m : Str → Option Value} {news : List (Addr × Obj)} {s : Shared} {Q E : Value → Shared → Prop}

theorem told_use {k : Nat} (h : ToldAll w k) (C : Cx w mean mg mb cs outer A₀ base h₀ L m news s) {ws : List (Cols × Nat)} {vs : List Value} {l : Addr} {n : Nat} (hd1 : dp + ws.length + 10 < recursionLimit) (hu : un + 8 * ws.length + 120 < cLine)
    (hk : ws.length ≤ k) (hlen : ws.length ≤ 8) (hok : ∀ x ∈ ws, x.2 < 4) (hl : (l, listOf vs.toArray n) ∈ news) (hw : Items (ItemC news) vs ws)
    (hret : ∀ r us nu tl h' tk', Fr h₀ L h' m → News h₀ L h' (tl ++ news) → (∀ p ∈ tl, ∀ q ∈ news, q.1 < p.1) → (r, listOf us.toArray nu) ∈ tl → IntsAre us (toldOf (forest ltC ws)) → Q (.ref r) { s with heap := h', toks := tk' }) :
    wpAny (model PySem.Challenge.rw_ti0073_01.row.prog w) (ktrTop dp un gd cn cs L a ccd cl outer) (call (.ref 310) [.ref l]) Q E s := h _ _ _ _ _ _ _ _ _ _ _ _ _ _ _ _ _ _ _ _ _ _ _ _ _ C hd1 hu hk hlen hok hl hw hret
end
theorem ItemC.mono {news news' : List (Addr × Obj)} {v : Value} {p : Cols × Nat} (h : ItemC news v p) (hs : ∀ q ∈ news, q ∈ news') : ItemC news' v p := by
  (try k_fold)
  refine Mine.gk ?_
  intro Gz9 kz9
  obtain ⟨t, cl, tk, e, h1, us, n, h2, hi⟩ := h
  refine kz9 ?_
  (try clear kz9 Gz9)
  exact ⟨t, cl, tk, e, hs _ h1, us, n, hs _ h2, hi⟩
theorem repL_len {α : Type} (n : Nat) (l : List α) : (repL n l).length = n * l.length := by
  induction n with
  | zero => simp [repL]
  | succ n ih =>
    have : repL (n + 1) l = l ++ repL n l := by simp [repL, List.replicate_succ]
    rw [this, List.length_append, ih, Nat.succ_mul, Nat.add_comm]
theorem told_len {α : Type} (lt : α → α → Bool) (k : Nat) : ∀ ws : List (α × Nat), ws.length ≤ k → (∀ x ∈ ws, x.2 < 4) → 2 * (toldOf (forest lt ws)).length + 1 ≤ 3 ^ ws.length := by
  induction k with
  | zero =>
    intro ws hk _
    have : ws = [] := List.length_eq_zero_iff.mp (by kst_p2)
    (try k_fold)
    subst this
    simp [forest0, toldOf]
  | succ k ih =>
    intro ws hk hok
    cases ws with
    | nil => simp [forest0, toldOf]
    | cons p r =>
      have hsum : (r.takeWhile fun q => lt p.1 q.1).length + (r.dropWhile fun q => lt p.1 q.1).length = r.length := by
        rw [← List.length_append, List.takeWhile_append_dropWhile]
      simp only [List.length_cons] at hk
      have h1 := ih (r.takeWhile fun q => lt p.1 q.1) (by kst_p2) fun x hx => hok x (List.mem_cons_of_mem _ ((List.takeWhile_sublist _).subset hx))
      have h2 := ih (r.dropWhile fun q => lt p.1 q.1) (by kst_p2) fun x hx => hok x (List.mem_cons_of_mem _ ((List.dropWhile_sublist _).subset hx))
      have h0 := hok p (List.Mem.head _)
      rw [forest1]
      simp only [toldOf, List.length_append, List.length_cons]
      generalize (toldOf (forest lt (r.takeWhile fun q => lt p.1 q.1))) = A at *
      generalize (toldOf (forest lt (r.dropWhile fun q => lt p.1 q.1))) = B at *
      generalize (r.takeWhile fun q => lt p.1 q.1).length = x at *
      generalize (r.dropWhile fun q => lt p.1 q.1).length = y at *
      rw [← hsum]
      have hx : 1 ≤ 3 ^ x := Nat.one_le_pow _ _ (by kst_p2)
      have hy : 1 ≤ 3 ^ y := Nat.one_le_pow _ _ (by kst_p2)
      have hm : 3 ^ x + 3 ^ y ≤ 3 ^ x * 3 ^ y + 1 := by
        generalize 3 ^ x = a at *
        generalize 3 ^ y = b at *
        (try k_fold)
        obtain ⟨a', rfl⟩ : ∃ a', a = a' + 1 := ⟨a - 1, by kst_p2⟩
        (try k_fold)
        obtain ⟨b', rfl⟩ : ∃ b', b = b' + 1 := ⟨b - 1, by kst_p2⟩
        have : (a' + 1) * (b' + 1) = a' * b' + a' + b' + 1 := by rw [Nat.add_mul, Nat.mul_add]; kst_p2
        have := Nat.zero_le (a' * b')
        kst_p2
      have hm3 : 3 ^ x ≤ 3 ^ x * 3 ^ y := Nat.le_mul_of_pos_right _ (by kst_p2)
      rw [Nat.pow_succ, Nat.pow_add]
      by_cases hp : p.2 < 2
      · rw [if_pos hp]
        simp only [List.length_cons]
        kst_p2
      · rw [if_neg hp, repL_len]
        have : p.2 = 2 ∨ p.2 = 3 := by kst_p2
        rcases this with e | e <;> rw [e] <;> kst_p2
theorem told_all (w : World) (k : Nat) : ToldAll w k := by
  induction k using Nat.strongRecOn with
  | _ k ih =>
  intro ws vs l n mean mg mb dp un gd cn cs a ccd cl outer A₀ base h₀ L m news s Q E C hd1 hu hk hlen hok hl hw hret
  w_top off
  obtain ⟨B, F, X, N, T, hk⟩ := C
  revert X
  k_fill
  intro X
  k_dflt (refine' enter (binds := [(Str.ofString "words", .ref l)]) B F X N T hk ?k6 ?k7 ?k8 ?k9 ?kB ?_ ?c2 ?c3 ?c4 ?c5; (case k6 => k_is); (case k7 => k_is); (case k8 => kst_p2); (case k9 => exact BindsTo.of_eq rfl); (case c5 => decide); (case kB => exact locs rfl); (case c2 => exact rfl); (case c3 => exact rfl); (case c4 => exact rfl))
  intro gH LF hF FG F1 N1 B1 X1 T1 lL
  simp only [List.reverse_cons, List.reverse_nil, List.nil_append, List.cons_append] at F1
  (try k_fold)
  (try (with_reducible refine (let A9 : PySem.Around := _; let e9 : PySem.Env := _; (?_ : PySem.wpAny _ A9 (PySem.execs _ e9) _ _ _))))
  w_strict repeat' ((fail_if_success (with_reducible show wpAny _ _ (exec (Stmt.While _ _ _ _) _) _ _ _)); kla_enter)
  rename Fr gH LF _ _ => F2
  rename News gH LF _ _ => N2
  (try k_fold)
  refine' whl (σ := Nat × Tok × List Value × List Int × Nat × Addr) (fun c => (c.2.2.2.2.2, listOf c.2.2.1.toArray c.2.2.2.2.1) :: news) (fun c => [(Str.ofString "words", .ref l), (Str.ofString "place", .int c.1 c.2.1), (Str.ofString "told", .ref c.2.2.2.2.2)]) (fun c => IntsAre c.2.2.1 c.2.2.2.1 ∧ c.2.2.2.1 ++ toldOf (forest ltC (ws.drop c.1)) = toldOf (forest ltC ws) ∧ (∀ q ∈ news, q.1 < c.2.2.2.2.2)) (fun c => vs.length - c.1) (0, _, [], [], 0, _) F2 (nsub N2 ?mn1) ?mk1 ?mp1 ?_
  case mk1 => kst_all
  case mn1 => kst_allIn
  case mp1 => exact ⟨.nil, rfl, by dsimp only; assumption⟩
  (try k_fold)
  first | (refine Mine.poxxxxxxc ?_; intro pl t1 us ns un2 l2) | (rintro ⟨pl, t1, us, ns, un2, l2⟩)
  rintro u h2 tk2 h9Q1 F3 N3
  obtain ⟨hus, htold, hnew⟩ := h9Q1
  dsimp only at hus htold hnew F3 N3 ⊢
  have hvl : vs.length ≤ 8 := by rw [hw.length]; exact hlen
  by_cases hpl : pl < ws.length
  case neg =>
    have hpl' : ¬ pl < vs.length := by rw [hw.length]; exact hpl
    w_strict repeat' kla_enter
    rename Fr h₀ L _ _ => F6
    rename News h₀ L _ _ => N6
    rw [List.drop_eq_nil_of_le (by kst_p2)] at htold
    simp only [forest0, toldOf, List.append_nil] at htold
    refine hret l2 us un2 [_] _ _ F6 N6 ?lt1 (List.Mem.head _) (htold ▸ hus)
    intro p hp q hq
    rw [List.mem_singleton.mp hp]
    exact hnew q hq
  (try k_fold)
  refine Mine.gk ?_
  intro Gz9 kz9
  (try k_fold)
  obtain ⟨v, ⟨cc, w0⟩, hv, hp, t0, cl0, tk0, rfl, ht0, hc0⟩ := hw.at pl hpl
  refine kz9 ?_
  (try clear kz9 Gz9)
  dsimp only at ht0 hc0
  (try k_fold)
  first | (refine Mine.ex_2 hc0 ?_; (try clear hc0); rintro as an h9E; refine Mine.cj_2 h9E ?_; clear h9E; rintro ha hai) | (obtain ⟨as, an, ha, hai⟩ := hc0)
  have hpl' : pl < vs.length := by rw [hw.length]; exact hpl
  w_strict repeat' ((fail_if_success (with_reducible show wpAny _ _ (exec (Stmt.While _ _ _ _) _) _ _ _)); kla_enter)
  rename Fr gH LF _ _ => F4
  rename News gH LF _ _ => N4
  (try k_fold)
  refine wpAny_mono (E := fun _ _ => False) (Q := fun f s₂ => Hold (f = .next ∧ ∃ af t2 u3 h' tk', s₂ = { s with heap := h', toks := tk' } ∧ Fr gH LF h' (kstB u3 ([(Str.ofString "words", .ref l), (Str.ofString "place", .int pl t1), (Str.ofString "told", .ref l2), (Str.ofString "columns", .ref cl0), (Str.ofString "word", .int w0 tk0), (Str.ofString "after", .int (af : Nat) t2)])) ∧ News gH LF h' ((l2, listOf us.toArray un2) :: news) ∧
      pl + 1 ≤ af ∧ af ≤ ws.length ∧ (ws.drop (pl + 1)).takeWhile (fun q => ltC cc q.1) = (ws.drop (pl + 1)).take (af - (pl + 1)) ∧ (ws.drop (pl + 1)).dropWhile (fun q => ltC cc q.1) = (ws.drop (pl + 1)).drop (af - (pl + 1)))) ?_ (Mine.hq_5 ?_) fun _ _ x => x
  case refine_1 =>
    refine' whl (σ := Nat × Tok) (fun c => (l2, listOf us.toArray un2) :: news) (fun c => [(Str.ofString "words", .ref l), (Str.ofString "place", .int pl t1), (Str.ofString "told", .ref l2), (Str.ofString "columns", .ref cl0), (Str.ofString "word", .int w0 tk0), (Str.ofString "after", .int c.1 c.2)]) (fun c => pl + 1 ≤ c.1 ∧ c.1 ≤ ws.length ∧ ∀ x ∈ (ws.drop (pl + 1)).take (c.1 - (pl + 1)), ltC cc x.1 = true) (fun c => vs.length - c.1) (pl + 1, _) F4 (nsub N4 ?mn2) ?mk2 ?mp2 ?_
    case mk2 => kst_all
    case mn2 => kst_allIn
    case mp2 => exact ⟨Nat.le_refl _, hpl, by simp⟩
    (try k_fold)
    first | (refine Mine.poxxc ?_; intro af t2) | (rintro ⟨af, t2⟩)
    rintro u3 h5 tk5 h9Q1 F5 N5
    obtain ⟨ha1, ha2, ha3⟩ := h9Q1
    dsimp only at ha1 ha2 ha3 F5 N5 ⊢
    by_cases haf : af < ws.length
    case neg =>
      have haf' : ¬ af < vs.length := by rw [hw.length]; exact haf
      w_strict repeat' kla_enter
      exact ⟨⟨by first | trivial | rfl, af, t2, u3, _, _, rfl, F5, N5, ha1, ha2, tw_at ha3 (.inl (by rw [List.length_drop]; kst_p2))⟩⟩
    (try k_fold)
    refine Mine.gk ?_
    intro Gz9 kz9
    (try k_fold)
    obtain ⟨v2, ⟨c2, w2⟩, hv2, hp2, t5, cl2, tk6, rfl, ht2, hc2⟩ := hw.at af haf
    refine kz9 ?_
    (try clear kz9 Gz9)
    dsimp only at ht2 hc2
    have haf' : af < vs.length := by rw [hw.length]; exact haf
    (try k_fold)
    first | (refine Mine.ex_2 hc2 ?_; (try clear hc2); rintro bs bn h9E; refine Mine.cj_2 h9E ?_; clear h9E; rintro hb hbi) | (obtain ⟨bs, bn, hb, hbi⟩ := hc2)
    refine wpAny_mono (Q := fun b s₂ => Hold (b = ltC cc c2 ∧ ∃ h' tk', s₂ = { s with heap := h', toks := tk' } ∧ Fr gH LF h' (kstB u3 ([(Str.ofString "words", .ref l), (Str.ofString "place", .int pl t1), (Str.ofString "told", .ref l2), (Str.ofString "columns", .ref cl0), (Str.ofString "word", .int w0 tk0), (Str.ofString "after", .int af t2)])) ∧ News gH LF h' ((l2, listOf us.toArray un2) :: news))) ?_ (Mine.hq_2 ?_) fun _ _ x => x
    case refine_1 =>
      w_strict repeat' ((fail_if_success (with_reducible show wpAny _ _ (eval (Expr.ListComp _ _ _ _) _) _ _ _)); kla_enter)
      refine comp_open (cl := []) (by rfl) (by rfl) (by decide) ?_
      w_strict repeat' ((fail_if_success (with_reducible show wpAny _ _ (call (.type "zip") _) _ _ _)); kla_enter)
      rename Fr gH LF _ _ => F6
      rename News gH LF _ _ => N6
      (try k_fold)
      refine' comp_zipE (σ := Unit) (n := 3) (xs := as) (ys₀ := bs) (fun _ => s.gens) (fun _ => (l2, listOf us.toArray un2) :: news) (fun i ys _ => (ys = [] ↔ ∀ j a b, j < i → [cc.1, cc.2.1, cc.2.2][j]? = some a → [c2.1, c2.2.1, c2.2.2][j]? = some b → a < b))
        (fun i x y m₂ => m₂ (Str.ofString "one") = some x ∧ m₂ (Str.ofString "two") = some y) () rfl (fun _ => List.mem_cons_of_mem _ ha) (fun _ => List.mem_cons_of_mem _ hb) ?mn3 ?mn4 (by decide) (by decide) (by rfl) rfl F6 (nsub N6 ?mn6) ?mp3 ?ma3 ?mt3 ?mr3
      case mn3 => exact hai.length
      case mn4 => exact hbi.length
      case mn6 => kst_allIn
      case mp3 => simp
      case ma3 =>
        rintro i c x y T C mc s' Q' hi hx hy hT _ hn _ h
        exact asg_pair rfl hT rfl rfl rfl (by decide) hn fun h' tk m₂ n₂ h1 h2 hk => h h' tk m₂ n₂ ⟨h1, h2⟩ hk
      case mt3 =>
        rintro i ys c x y C oC D m₂ h7 tk7 z TI TO i1 i2 oz oTI oTO o1 o2 hi hx hy hP hoC ⟨hm1, hm2⟩ hoff hlo hDC F7 N7
        (try k_fold)
        first | (refine Mine.ex_2 (ints_at hai i x hx) ?_; rintro ka ta h9E; refine Mine.cj_2 h9E ?_; clear h9E; rintro hka rfl) | (obtain ⟨ka, ta, hka, rfl⟩ := ints_at hai i x hx)
        (try k_fold)
        first | (refine Mine.ex_2 (ints_at hbi i y hy) ?_; rintro kb tb h9E; refine Mine.cj_2 h9E ?_; clear h9E; rintro hkb rfl) | (obtain ⟨kb, tb, hkb, rfl⟩ := ints_at hbi i y hy)
        refine wpAny_tests_one ?_
        w_strict repeat' kla_enter
        case refine_1 =>
          rename_i hge
          refine cend () F7 N7 (by kst_allIn) (by simp) (by simp) (by kst_allIn) hoff ?_
          constructor
          · intro e; simp at e
          · intro e
            have := e i ka kb (by kst_p2) hka hkb
            kst_p2
        case refine_2 =>
          rename_i hge
          refine cend () F7 N7 (by kst_allIn) (by simp) (by simp) (by kst_allIn) hoff ?_
          rw [hP]
          constructor
          · intro e j p q hj hp hq
            by_cases hji : j = i
            · (try k_fold)
              subst j
              rw [hka] at hp; rw [hkb] at hq
              (try k_fold)
              cases hp; cases hq
              kst_p2
            · exact e j p q (by kst_p2) hp hq
          · intro e j p q hj hp hq
            exact e j p q (by kst_p2) hp hq
      case mr3 =>
        intro D h8 tk8 ys c F8 N8 off8 hle8 hP8
        w_strict repeat' ((fail_if_success (with_reducible show wpAny _ _ (compareOp _ _ _) _ _ _)); kla_enter)
        refine my_eqnil (by is_list) (by is_list) (by first | ke_room | (show un + _ < cLine; kst_p2)) ?_
        w_strict repeat' kla_enter
        all_goals (
          refine ⟨⟨?_, _, _, rfl, by assumption, nsub (by assumption) (by kst_allIn)⟩⟩
          have h3 := lt3 cc c2
          rename_i hd9
          (try simp only [decide_eq_true_eq, decide_eq_false_iff_not] at hd9)
          first | exact (h3.mp (hP8.mp hd9)).symm | (symm; rw [← Bool.not_eq_true, ← h3]; exact fun x => hd9 (hP8.mpr x)))
    case refine_2 =>
      intro h' tk' h9E
      refine Mine.cj_2 h9E ?_
      clear h9E
      intro F6 N6
      (try dsimp only)
      cases hlt : ltC cc c2 with
      | true =>
        (try k_unfold)
        (try dsimp only)
        rw [if_pos rfl]
        w_strict repeat' kla_enter
        refine wend (af + 1, _) (by assumption) (by assumption) (by kst_allIn) (by kst_all) ⟨by kst_p2, by kst_p2, ?_⟩ (by dsimp only; kst_p2)
        intro x hx
        dsimp only at hx
        rw [show af + 1 - (pl + 1) = af - (pl + 1) + 1 by kst_p2, List.take_add_one, List.getElem?_drop, show pl + 1 + (af - (pl + 1)) = af by kst_p2, hp2] at hx
        rcases List.mem_append.mp hx with hx | hx
        · exact ha3 x hx
        · simp at hx
          (try k_fold)
          subst hx
          exact hlt
      | false =>
        (try k_unfold)
        (try dsimp only)
        rw [if_neg (by simp)]
        exact ⟨⟨rfl, af, t2, u3, _, _, rfl, F6, N6, ha1, ha2, tw_at ha3 (.inr ⟨_, by rw [List.getElem?_drop]; rw [show pl + 1 + (af - (pl + 1)) = af by kst_p2]; exact hp2, hlt⟩)⟩⟩
  case refine_2 =>
    intro af t2 u3 h5 tk5 h9E
    refine Mine.cj_6 h9E ?_
    clear h9E
    intro F5 N5 ha1 ha2 htw hdw
    (try dsimp only)
    w_strict repeat' ((fail_if_success (with_reducible show wpAny _ _ (subscriptTail _ (Expr.Slice _ _ _ _) _ _) _ _ _)); kla_enter)
    refine' my_slice (a := pl + 1) (b := af) (by k_asm) (by k_asm) (by k_mem) (by kmk_part) (by kmk_part) (by kst_p2) rfl (by rw [hw.length]; exact ha2) (by with_unfolding_all rfl) (by kmk_pure) (by rw [List.size_toArray]; exact Nat.le_trans hvl (by decide)) ?_
    intro D8 h8 F8 N8 l8
    w_strict repeat' ((fail_if_success (with_reducible show wpAny _ _ (call (.ref 310) _) _ _ _)); kla_enter)
    have hsub : Items (ItemC news) ((vs.drop (pl + 1)).take (af - (pl + 1))) ((ws.drop (pl + 1)).take (af - (pl + 1))) := (hw.drop _).take _
    have hsl : ((ws.drop (pl + 1)).take (af - (pl + 1))).length < ws.length := by
      rw [List.length_take, List.length_drop]; kst_p2
    have hsok : ∀ x ∈ (ws.drop (pl + 1)).take (af - (pl + 1)), x.2 < 4 := fun x hx => hok x (List.mem_of_mem_drop (List.mem_of_mem_take hx))
    have hI0 := ih (k - 1) (by kst_p2)
    have hb1 := told_len ltC _ _ (Nat.le_refl _) hok
    have hb2 := told_len ltC _ _ (Nat.le_refl _) hsok
    have hb3 : 3 ^ ws.length ≤ 3 ^ 8 := Nat.pow_le_pow_right (by kst_p2) hlen
    have hb4 : 3 ^ ((ws.drop (pl + 1)).take (af - (pl + 1))).length ≤ 3 ^ 8 := Nat.pow_le_pow_right (by kst_p2) (by kst_p2)
    have hb5 : ns.length ≤ (toldOf (forest ltC ws)).length := by rw [← htold, List.length_append]; kst_p2
    have hb6 : (3 : Nat) ^ 8 = 6561 := by decide
    have hdr : ws.drop pl = (cc, w0) :: ws.drop (pl + 1) := by
      have h1 := List.getElem?_eq_some_iff.mp hp
      obtain ⟨h1, h2⟩ := h1
      rw [List.drop_eq_getElem_cons h1, h2]
    have hdd : (ws.drop (pl + 1)).drop (af - (pl + 1)) = ws.drop af := by rw [List.drop_drop]; congr 1; kst_p2
    rw [hdr, forest1] at htold
    dsimp only at htold
    rw [htw, hdw, hdd] at htold
    simp only [toldOf] at htold
    have hw4 : w0 < 4 := hok (cc, w0) (List.mem_of_getElem? hp)
    w_strict repeat' ((fail_if_success (with_reducible show wpAny _ _ (binaryOp _ (.ref _) _) _ _ _)); first | (k_here; (with_reducible show wpAny _ _ (call (Value.ref 310) _) _ _ _); k_dflt (refine' told_use ?hI ⟨?k1, ?k2, ?k3, ?k4, ?k5, ?kK⟩ ?kd ?ku ?q1 ?q2 ?q5 ?q3 ?q4 ?_; (case hI => assumption); (case k2 => k_asm); (case k1 => k_asm); (case k3 => k_asm); (case k4 => k_asm); (case k5 => k_asm); (case kK => first | exact rfl | assumption); (case q3 => k_mem); (case q4 => refine Items.mono (by assumption) (fun v p h => ItemC.mono h (by k_ownIn))); (case q1 => kst_p2); (case q2 => kst_p2); (case q5 => assumption); (case kd => kst_p2); (case ku => kst_p2)); intro _ _ _ _ _ _ _ _ _ _ _; (try dsimp only); (try k_fold)) | kla_enter)
    case' _ =>
      refine kmk_add_ints (by k_asm) (by k_asm) (by is_list) (by is_list) (.cons _ _ .nil) (by assumption) ?_ (by rw [sizeLine_eq, List.length_singleton]; kst_p2)
      intro D9 us9 h9 F9 N9 l9 hi9
      w_strict repeat' ((fail_if_success (with_reducible show wpAny _ _ (binaryOp _ (.ref _) _) _ _ _)); kla_enter)
      refine kmk_add_ints (by k_asm) (by k_asm) (by is_list) (by is_list) hus hi9 ?_ (by rw [sizeLine_eq]; simp only [List.length_append, List.length_singleton]; kst_p2)
      intro D10 us10 h10 F10 N10 l10 hi10
      w_strict repeat' kla_enter
      refine wend (af, _, us10, ns ++ ([(w0 : Int)] ++ toldOf (forest ltC ((ws.drop (pl + 1)).take (af - (pl + 1))))), 0, D10) (by assumption) (by assumption) (by kst_allIn) (by kst_all) ⟨hi10, ?_, fun q hq => l10 q (by simp only [List.mem_append, List.mem_cons, hq, or_true])⟩ (by dsimp only; kst_p2)
      dsimp only
      rw [← htold, if_pos (by kst_p2), List.append_assoc]
      rfl
    case' _ =>
      (try dsimp only)
      refine' KM.mul ?a1 ?a2 ?a3 ?a4 ?a5 ?a6 ?a7 ?_
      case a1 => k_asm
      case a2 => k_asm
      case a3 => is_list
      case a4 => assumption
      case a5 => kst_p2
      case a6 => kst_p2
      case a7 =>
        rename IntsAre _ (toldOf (forest ltC (((ws.drop (pl + 1)).take (af - (pl + 1)))))) => hj9
        rw [hj9.length, Int.toNat_natCast]
        have : w0 = 2 ∨ w0 = 3 := by kst_p2
        rcases this with e | e <;> (first | (rw [e]; kst_p2) | (subst e; kst_p2))
      intro D9 h9 F9 N9 l9 hi9 Nn hN1 hN2 hN3 hN4
      rw [Int.toNat_natCast] at hN1 hN2 hi9 N9
      w_strict repeat' ((fail_if_success (with_reducible show wpAny _ _ (binaryOp _ (.ref _) _) _ _ _)); kla_enter)
      (try dsimp only)
      have hz8 : (List.replicate w0 (toldOf (forest ltC (((ws.drop (pl + 1)).take (af - (pl + 1))))))).flatten.length = w0 * (toldOf (forest ltC (((ws.drop (pl + 1)).take (af - (pl + 1)))))).length := repL_len _ _
      refine kmk_add_ints (by k_asm) (by k_asm) (by is_list) (by is_list) hus hi9 ?_ (by
        rw [sizeLine_eq, hz8]
        have : w0 = 2 ∨ w0 = 3 := by kst_p2
        rcases this with e | e <;> (first | (rw [e]; kst_p2) | (subst e; kst_p2)))
      intro D10 us10 h10 F10 N10 l10 hi10
      w_strict repeat' kla_enter
      refine wend (af, _, us10, ns ++ (List.replicate w0 (toldOf (forest ltC ((ws.drop (pl + 1)).take (af - (pl + 1)))))).flatten, 0, D10) (by assumption) (by assumption) (by kst_allIn) (by kst_all) ⟨hi10, ?_, fun q hq => l10 q (by simp only [List.mem_append, List.mem_cons, hq, or_true])⟩ (by dsimp only; kst_p2)
      dsimp only
      rw [← htold, if_neg (by kst_p2), List.append_assoc]
      rfl
end Mine
end TCtold

section TClvl
open PySem PySem.W PyProof.Rows PySem.Spec PySem.Calls
set_option Elab.async false
set_option maxRecDepth 100000
set_option maxHeartbeats 4000000
set_option linter.unusedVariables false
set_option linter.unusedSimpArgs false

namespace Mine
theorem cnt0 (j : Nat) : cntOf 0 (0 + j) = [] := by simp [cntOf]
theorem cnt1 (j : Nat) : cntOf 1 (1 + j) = [1] := by unfold cntOf; rw [if_neg (by kst_p2)]; rfl
theorem cnt2 (j : Nat) : cntOf 2 (2 + j) = [0, 1] := by unfold cntOf; rw [if_neg (by kst_p2)]; rfl
theorem cnt3 (j : Nat) : cntOf 3 (3 + j) = [0, 0, 1] := by unfold cntOf; rw [if_neg (by kst_p2)]; rfl
theorem run_end (k j : Nat) : runOf k (k + j) = j := by unfold runOf; split <;> kst_p2
theorem tabs_end (k j : Nat) : tabsOf k (k + j) = if k = 0 then 0 else 1 := by unfold tabsOf; split <;> split <;> first | rfl | kst_p2
theorem WsIn.mono {w : World} {news news' : List (Addr × Obj)} {x : Addr} {k j : Nat} (h : WsIn w news x k j) (hs : ∀ q ∈ news, q ∈ news') : WsIn w news' x k j := by
  obtain ⟨dx, nm, ct, us, tr, t1, t2, t3, t4, t5, t6, t7, row, hx, hnm, hct, hus, hdx⟩ := h
  exact ⟨dx, nm, ct, us, tr, t1, t2, t3, t4, t5, t6, t7, row, hs _ hx, hs _ hnm, hs _ hct, hus, hs _ hdx⟩
noncomputable def lvlOf (k j ts : Int) : Int := j + ts * ((if k = 3 ∧ ts = 2 then 1 else 0) + (if k = 0 then 0 else 1))
theorem max_if (a b : Int) : (if b > a then b else a) = max a b := by kst_p2
theorem cnt_len (k j : Nat) (hk : k < 4) : (cntOf k (k + j)).length = k := by
  have hk9 : k = 0 ∨ k = 1 ∨ k = 2 ∨ k = 3 := by kst_p2
  (try k_fold)
  refine Mine.gk ?_
  intro Gz9 kz9
  (try k_fold)
  rcases hk9 with rfl | rfl | rfl | rfl
  all_goals (try (refine kz9 ?_; (try clear kz9 Gz9)))
  · rw [cnt0]; rfl
  · rw [cnt1]; rfl
  · rw [cnt2]; rfl
  · rw [cnt3]; rfl
theorem rsize {a b : Int} {n : Nat} (h : b = a + n) : Builtin.Range.rangeSize a b 1 = (n : Int) := by
  unfold Builtin.Range.rangeSize
  rw [if_pos (by decide)]
  split
  · rw [Int.ediv_one]; kst_p2
  · kst_p2
theorem rsize0 {a b : Int} (h : b ≤ a) : Builtin.Range.rangeSize a b 1 = ((0 : Nat) : Int) := by
  unfold Builtin.Range.rangeSize
  rw [if_pos (by decide), if_neg (by kst_p2)]
  rfl
theorem lvl_eq {k j : Nat} {ts : Int} : lvlOf k j ts = (j : Int) + ts * (((if k = 3 ∧ ts = 2 then 1 else 0 : Nat) : Int) + ((if k = 0 then 0 else 1 : Nat) : Int)) := by
  unfold lvlOf
  have e1 : ((k : Int) = 3 ∧ ts = 2) = (k = 3 ∧ ts = 2) := propext ⟨fun h => ⟨Int.ofNat.inj h.1, h.2⟩, fun h => ⟨congrArg _ h.1, h.2⟩⟩
  have e2 : ((k : Int) = 0) = (k = 0) := propext ⟨fun h => Int.ofNat.inj h, fun h => congrArg _ h⟩
  simp only [e1, e2]
  split <;> split <;> rfl
theorem my_lenT {prog : Program} {w : World} {A : Around} {E : Value → Shared → Prop} {s : Shared} {h₀ : Heap} {L l : Addr} {news : List (Addr × Obj)} {us : List Value} {Q : Value → Shared → Prop} (N : News h₀ L s.heap news) (hm : (l, tupO us) ∈ news) (hz : us.length < 2 ^ 62)
    (h : Q (.int us.length (s.toks + 1)) { s with toks := s.toks + 1 + 1 }) : wpAny (model prog w) A (call (.builtin "len") [.ref l]) Q E s := by
  refine len_tuple (items := us.toArray) ⟨_, (N _ hm).1, rfl, _, rfl⟩ ?_ ?_
  · simp only [List.size_toArray]; kst_p2
  · simpa only [List.size_toArray] using h
section
variable {w : World} {mean : ExcName → Option Value} {mg mb : Str → Option Value} {dp un : Nat} {gd : Option (List Code)} {cn : Str} {cs : Scope} {a : Addr} {ccd : Value} {cl : List (Str × Addr)} {outer : List Env} {A₀ : Around} {base h₀ : Heap} {L : Addr} {m : Str → Option Value} {news : List (Addr × Obj)} {s : Shared} {Q E : Value → Shared → Prop}

theorem long_spec (C : Cx w mean mg mb cs outer A₀ base h₀ L m news s) (hd1 : dp + 5 < recursionLimit) (hu : un + 50 < cLine) {x : Addr} {k j : Nat} (hk4 : k < 4) (hj3 : j < 3) (hw : WsIn w news x k j)
    (hret : ∀ h' tk' t', Fr h₀ L h' m → News h₀ L h' news → Q (.int (max ((k : Int) - 1) j) t') { s with heap := h', toks := tk' }) :
    wpAny (model PySem.Challenge.rw_ti0073_01.row.prog w) (ktrTop dp un gd cn cs L a ccd cl outer) (call (.ref 206) [.ref x]) Q E s := by
  obtain ⟨dx, nm, ct, us, tr, t1, t2, t3, t4, t5, t6, t7, row, hx, hnm, hct, hus, hdx⟩ := hw
  rw [run_end] at hnm
  have hul : us.length = k := by rw [hus.length, cnt_len k j hk4]
  w_top off
  obtain ⟨B, F, X, N, T, hk⟩ := C
  revert X
  k_fill
  intro X
  k_dflt (refine' enter (binds := [(Str.ofString "self", .ref x)]) B F X N T hk ?k6 ?k7 ?k8 ?k9 ?kB ?_ ?c2 ?c3 ?c4 ?c5; (case k6 => k_is); (case k7 => k_is); (case k8 => kst_p2); (case k9 => exact BindsTo.of_eq rfl); (case c5 => decide); (case kB => exact locs rfl); (case c2 => exact rfl); (case c3 => exact rfl); (case c4 => exact rfl))
  intro gH LF hF FG F1 N1 B1 X1 T1 lL
  simp only [List.reverse_cons, List.reverse_nil, List.nil_append, List.cons_append] at F1
  (try k_fold)
  (try (with_reducible refine (let A9 : PySem.Around := _; let e9 : PySem.Env := _; (?_ : PySem.wpAny _ A9 (PySem.execs _ e9) _ _ _))))
  w_strict repeat' (first | (k_here; (with_reducible show wpAny _ _ (call (Value.builtin "len") [Value.ref _]) _ _ _); k_dflt (refine' Mine.my_lenT ?k1 ?k2 ?k3 ?_; (case k1 => k_asm); (case k2 => assumption); (case k3 => kst_p2))) | kla_enter)
  rw [max_if, hul]
  exact hret _ _ _ (by assumption) (by assumption)
theorem lvl_spec (C : Cx w mean mg mb cs outer A₀ base h₀ L m news s) (hd1 : dp + 5 < recursionLimit) (hu : un + 50 < cLine) {x : Addr} {k j : Nat} {ts : Int} {t : Tok} (hk4 : k < 4) (hj3 : j < 3) (hts : ts = 2 ∨ ts = 3) (hw : WsIn w news x k j)
    (hret : ∀ h' tk' t', Fr h₀ L h' m → News h₀ L h' news → Q (.int (lvlOf k j ts) t') { s with heap := h', toks := tk' }) :
    wpAny (model PySem.Challenge.rw_ti0073_01.row.prog w) (ktrTop dp un gd cn cs L a ccd cl outer) (call (.ref 213) [.ref x, .int ts t]) Q E s := by
  obtain ⟨dx, nm, ct, us, tr, t1, t2, t3, t4, t5, t6, t7, row, hx, hnm, hct, hus, hdx⟩ := hw
  rw [run_end] at hnm
  rw [tabs_end] at hdx
  w_top off
  obtain ⟨B, F, X, N, T, hk⟩ := C
  revert X
  k_fill
  intro X
  k_dflt (refine' enter (binds := [(Str.ofString "self", .ref x), (Str.ofString "tabsize", .int ts t)]) B F X N T hk ?k6 ?k7 ?k8 ?k9 ?kB ?_ ?c2 ?c3 ?c4 ?c5; (case k6 => k_is); (case k7 => k_is); (case k8 => kst_p2); (case k9 => exact BindsTo.of_eq rfl); (case c5 => decide); (case kB => exact locs rfl); (case c2 => exact rfl); (case c3 => exact rfl); (case c4 => exact rfl))
  intro gH LF hF FG F1 N1 B1 X1 T1 lL
  simp only [List.reverse_cons, List.reverse_nil, List.nil_append, List.cons_append] at F1
  (try k_fold)
  (try (with_reducible refine (let A9 : PySem.Around := _; let e9 : PySem.Env := _; (?_ : PySem.wpAny _ A9 (PySem.execs _ e9) _ _ _))))
  have hul : us.length = k := by rw [hus.length, cnt_len k j hk4]
  have hn9 : Builtin.Range.rangeSize ts (us.length : Int) 1 = ((if k = 3 ∧ ts = 2 then 1 else 0 : Nat) : Int) := by
    by_cases h32 : k = 3 ∧ ts = 2
    · rw [if_pos h32, hul, h32.1, h32.2]; decide
    · rw [if_neg h32]; exact rsize0 (by rw [hul]; kst_p2)
  rw [lvl_eq] at hret
  w_strict repeat' ((fail_if_success (with_reducible show wpAny _ _ (exec (Stmt.For _ _ _ _ _) _) _ _ _)); kla_enter)
  refine wpAny_For ?_
  w_strict repeat' ((fail_if_success (with_reducible show wpAny _ _ (pyIter _) _ _ _)); first | (k_here; (with_reducible show wpAny _ _ (call (Value.builtin "len") [Value.ref _]) _ _ _); k_dflt (refine' Mine.my_lenT ?k1 ?k2 ?k3 ?_; (case k1 => k_asm); (case k2 => assumption); (case k3 => kst_p2))) | kla_enter)
  rename Fr gH LF _ _ => F4
  rename News gH LF _ _ => N4
  rename IsRange _ _ _ _ _ _ _ _ => R4
  (try k_fold)
  refine' forr (L := LF) (n := if k = 3 ∧ ts = 2 then 1 else 0) (σ := Tok × Nat) (fun _ => s.gens) (fun _ => news) (fun c => [(Str.ofString "self", .ref x), (Str.ofString "tabsize", .int ts t), (Str.ofString "count", .ref ct), (Str.ofString "trailing", .int j t7), (Str.ofString "il", .int c.2 c.1)])
      (fun i c => c.2 = i) (_, 0) rfl rfl R4 ?hs2 ?hn2 rfl F4 (nsub N4 (by kst_allIn)) ?mk2 rfl ?mt2 ?md2
  case hn2 => first | exact hn9 | exact (congrArg (fun z : Nat => Builtin.Range.rangeSize ts (z : Int) 1) ((cnt_len k j hk4).trans hul.symm)).trans hn9
  case hs2 => exact small_one (by kst_p2) (by kst_p2) (by kst_p2) (by kst_p2)
  case mk2 => kst_all
  case mt2 =>
    rintro i
    (try k_fold)
    first | (refine Mine.poxxc ?_; intro tq vq) | (rintro ⟨tq, vq⟩)
    rintro ti u h3 tk3 it o hi hI hit F5 N5
    have h32 : k = 3 ∧ ts = 2 := by
      false_or_by_contra
      rename_i h9
      rw [if_neg h9] at hi
      exact absurd hi (Nat.not_lt_zero _)
    have hi0 : i = 0 := by rw [if_pos h32] at hi; kst_p2
    clear hi R4 hn9 F4 N4
    (try k_fold)
    subst hi0
    (try k_fold)
    subst hI
    (try k_fold)
    obtain ⟨rfl, rfl⟩ := h32
    rename IntsAre us _ => hus
    rw [cnt3] at hus
    (try k_fold)
    refine Mine.gk ?_
    intro Gz9 kz9
    rcases hus with _ | ⟨_, ta, hu1⟩
    all_goals (try (refine kz9 ?_; (try clear kz9 Gz9)))
    (try k_fold)
    refine Mine.gk ?_
    intro Gz9 kz9
    rcases hu1 with _ | ⟨_, tb, hu2⟩
    all_goals (try (refine kz9 ?_; (try clear kz9 Gz9)))
    (try k_fold)
    refine Mine.gk ?_
    intro Gz9 kz9
    rcases hu2 with _ | ⟨_, tc, hu3⟩
    all_goals (try (refine kz9 ?_; (try clear kz9 Gz9)))
    (try k_fold)
    refine Mine.gk ?_
    intro Gz9 kz9
    rcases hu3 with _ | _
    all_goals (try (refine kz9 ?_; (try clear kz9 Gz9)))
    w_strict repeat' kla_enter
    case' _ =>
      rename Fr gH LF _ _ => F6
      rename News gH LF _ _ => N6
      refine' fend (_, 1) F6 N6 (by kst_allIn) (by kst_allIn) (fun p hp e => hit p hp (List.mem_singleton.mp e)) ?wk1 rfl
      case wk1 => kst_all
  case md2 =>
    (try k_fold)
    first | (refine Mine.poxxc ?_; intro tq vq) | (rintro ⟨tq, vq⟩)
    rintro u h3 tk3 hI F5 N5
    dsimp only at hI F5 N5 ⊢
    rw [← hI] at hret
    w_strict repeat' kla_enter
    exact hret _ _ _ (by assumption) (by assumption)
noncomputable def topOf (k j k' j' : Nat) : Nat := max (max (k - 1) j) (max (k' - 1) j')
theorem top_a : ∀ k < 4, ∀ j < 3, ∀ k' < 4, ∀ j' < 3, max (((k' : Nat) : Int) - 1) ((j' : Nat) : Int) > max (((k : Nat) : Int) - 1) ((j : Nat) : Int) → max ((k' : Int) - 1) (j' : Int) + 1 + 1 = 2 + ((max (max (k - 1) j) (max (k' - 1) j') : Nat) : Int) := by decide +kernel
theorem top_b : ∀ k < 4, ∀ j < 3, ∀ k' < 4, ∀ j' < 3, ¬ max (((k' : Nat) : Int) - 1) ((j' : Nat) : Int) > max (((k : Nat) : Int) - 1) ((j : Nat) : Int) → max ((k : Int) - 1) (j : Int) + 1 + 1 = 2 + ((max (max (k - 1) j) (max (k' - 1) j') : Nat) : Int) := by decide +kernel
theorem top_s : ∀ k < 4, ∀ j < 3, -2 ^ 62 ≤ max (((k : Nat) : Int) - 1) ((j : Nat) : Int) + 1 + 1 ∧ max ((k : Int) - 1) (j : Int) + 1 + 1 < 2 ^ 62 := by decide +kernel
theorem top_le : ∀ k < 4, ∀ j < 3, ∀ k' < 4, ∀ j' < 3, topOf k j k' j' ≤ 2 := by decide +kernel
noncomputable def lessOf (k j k' j' : Nat) : Bool :=
  if k' + j' ≤ k + j then false else if k ≤ 1 ∧ k' ≤ 1 then decide ((if k = 0 then 0 else 1) ≤ (if k' = 0 then 0 else 1)) else
    (List.range (topOf k j k' j')).all fun i => decide (lvlOf k j (2 + (i : Int)) < lvlOf k' j' (2 + (i : Int)))
theorem less_spec (C : Cx w mean mg mb cs outer A₀ base h₀ L m news s) (hd1 : dp + 9 < recursionLimit) (hu : un + 100 < cLine) {x y : Addr} {k j k' j' : Nat} (hk4 : k < 4) (hj3 : j < 3) (hw : WsIn w news x k j) (hk4' : k' < 4) (hj3' : j' < 3) (hw' : WsIn w news y k' j')
    (hret : ∀ h' tk', Fr h₀ L h' m → News h₀ L h' news → Q (.bool (lessOf k j k' j')) { s with heap := h', toks := tk' }) :
    wpAny (model PySem.Challenge.rw_ti0073_01.row.prog w) (ktrTop dp un gd cn cs L a ccd cl outer) (call (.ref 234) [.ref x, .ref y]) Q E s := by
  have hw1 := hw
  have hw2 := hw'
  obtain ⟨dx, nm, ct, us, tr, t1, t2, t3, t4, t5, t6, t7, row, hx, hnm, hct, hus, hdx⟩ := hw
  obtain ⟨dy, nm', ct', us', tr', t1', t2', t3', t4', t5', t6', t7', row', hy, hnm', hct', hus', hdy⟩ := hw'
  rw [run_end] at hnm hnm'
  have hul : us.length = k := by rw [hus.length, cnt_len k j hk4]
  have hul' : us'.length = k' := by rw [hus'.length, cnt_len k' j' hk4']
  rw [tabs_end, hul] at hdx
  rw [tabs_end, hul'] at hdy
  w_top off
  obtain ⟨B, F, X, N, T, hk⟩ := C
  revert X
  k_fill
  intro X
  k_dflt (refine' enter (binds := [(Str.ofString "self", .ref x), (Str.ofString "other", .ref y)]) B F X N T hk ?k6 ?k7 ?k8 ?k9 ?kB ?_ ?c2 ?c3 ?c4 ?c5; (case k6 => k_is); (case k7 => k_is); (case k8 => kst_p2); (case k9 => exact BindsTo.of_eq rfl); (case c5 => decide); (case kB => exact locs rfl); (case c2 => exact rfl); (case c3 => exact rfl); (case c4 => exact rfl))
  intro gH LF hF FG F1 N1 B1 X1 T1 lL
  simp only [List.reverse_cons, List.reverse_nil, List.nil_append, List.cons_append] at F1
  (try k_fold)
  (try (with_reducible refine (let A9 : PySem.Around := _; let e9 : PySem.Env := _; (?_ : PySem.wpAny _ A9 (PySem.execs _ e9) _ _ _))))
  have hlo : lessOf k j k' j' = if k' + j' ≤ k + j then false else if k ≤ 1 ∧ k' ≤ 1 then decide ((if k = 0 then 0 else 1) ≤ (if k' = 0 then 0 else 1)) else
    (List.range (topOf k j k' j')).all fun i => decide (lvlOf k j (2 + (i : Int)) < lvlOf k' j' (2 + (i : Int))) := rfl
  w_strict repeat' ((fail_if_success (with_reducible show wpAny _ _ (exec (Stmt.If (Expr.BoolOp _ _ _) _ _ _) _) _ _ _)); kla_enter)
  case' _ =>
    have e : lessOf k j k' j' = false := by rw [hlo, if_pos (by kst_p2)]
    rw [e] at hret
    exact hret _ _ (by assumption) (by assumption)
  rename Fr gH LF _ _ => F4
  rename News gH LF _ _ => N4
  refine (let q7 : PySem.Flow → PySem.Shared → Prop := _; let e7 : PySem.Value → PySem.Shared → Prop := _; (?_ : PySem.wpAny _ _ _ q7 e7 _))
  have hq : ¬ (k ≤ 1 ∧ k' ≤ 1) → ∀ (m5 : Str → Option Value) (h5 : Heap) (tk5 : Nat), Fr gH LF h5 m5 → (∀ p ∈ [(Str.ofString "self", .ref x), (Str.ofString "other", .ref y)], m5 p.1 = some p.2) → News gH LF h5 news → q7 .next { s with heap := h5, gens := s.gens, toks := tk5 } := by
    intro hno m5 h5 tk5 F5 hm5 N5
    rw [← kst_agree hm5] at F5
    clear hm5 F4 N4
    w_strict repeat' ((fail_if_success (with_reducible show wpAny _ _ (exec (Stmt.For _ _ _ _ _) _) _ _ _)); first | (k_here; (with_reducible show wpAny _ _ (call (Value.ref 206) _) _ _ _); k_dflt (refine' long_spec ⟨?k1, ?k2, ?k3, ?k4, ?k5, ?kK⟩ ?kd ?ku ?q1 ?q2 ?q3 ?_; (case k2 => k_asm); (case k1 => k_asm); (case k3 => k_asm); (case k4 => k_asm); (case k5 => k_asm); (case kK => first | exact rfl | assumption); (case kd => kst_p2); (case ku => kst_p2); (case q3 => refine Mine.WsIn.mono (by assumption) (by k_ownIn)); (case q1 => assumption); (case q2 => assumption)); intro _ _ _ _ _; (try dsimp only); (try k_fold)) | kla_enter)
    have e : lessOf k j k' j' = (List.range (topOf k j k' j')).all fun i => decide (lvlOf k j (2 + (i : Int)) < lvlOf k' j' (2 + (i : Int))) := by rw [hlo, if_neg (by kst_p2), if_neg hno]
    refine wpAny_For ?_
    w_strict repeat' ((fail_if_success (with_reducible show wpAny _ _ (pyIter _) _ _ _)); kla_enter)
    rename Fr gH LF _ _ => F4
    rename News gH LF _ _ => N4
    rename IsRange _ _ _ _ _ _ _ _ => R4
    (try k_fold)
    refine' forr (L := LF) (n := topOf k j k' j') (σ := Unit) (fun _ => s.gens) (fun _ => news) (fun c => [(Str.ofString "self", .ref x), (Str.ofString "other", .ref y)])
        (fun i c => ∀ z, z < i → lvlOf k j (2 + (z : Int)) < lvlOf k' j' (2 + (z : Int))) () rfl rfl R4 ?hs2 ?hn2 rfl F4 N4 ?mk2 ?mp2 ?mt2 ?md2
    case hs2 => exact small_one (by decide) (by decide) (by split <;> first | exact (top_s _ (by assumption) _ (by assumption)).1 | kst_p2) (by split <;> first | exact (top_s _ (by assumption) _ (by assumption)).2 | kst_p2)
    case hn2 => exact rsize (by unfold topOf; split <;> first | exact top_a _ (by assumption) _ (by assumption) _ (by assumption) _ (by assumption) (by assumption) | exact top_b _ (by assumption) _ (by assumption) _ (by assumption) _ (by assumption) (by assumption) | kst_p2)
    case mk2 => kst_all
    case mp2 => intro z hz; kst_p2
    case mt2 =>
      rintro i ⟨⟩ ti u h3 tk3 it o hi hI hit F5 N5
      have hi2 : i < 2 := Nat.lt_of_lt_of_le hi (top_le _ (by assumption) _ (by assumption) _ (by assumption) _ (by assumption))
      w_strict repeat' (first | (k_here; (with_reducible show wpAny _ _ (call (Value.ref 213) _) _ _ _); k_dflt (refine' lvl_spec ⟨?k1, ?k2, ?k3, ?k4, ?k5, ?kK⟩ ?kd ?ku ?q1 ?q2 ?q4 ?q3 ?_; (case k2 => k_asm); (case k1 => k_asm); (case k3 => k_asm); (case k4 => k_asm); (case k5 => k_asm); (case kK => first | exact rfl | assumption); (case kd => kst_p2); (case ku => kst_p2); (case q3 => refine Mine.WsIn.mono (by assumption) (by k_ownIn)); (case q1 => assumption); (case q2 => assumption); (case q4 => kst_p2)); intro _ _ _ _ _; (try dsimp only); (try k_fold)) | kla_enter)
      case' _ =>
        have e3 : lessOf k j k' j' = false := by
          rw [e, List.all_eq_false]
          exact ⟨i, List.mem_range.mpr hi, by simp; kst_p2⟩
        rw [e3] at hret
        exact hret _ _ (by assumption) (nsub (by assumption) (by kst_allIn))
      case' _ =>
        rename Fr gH LF _ _ => F6
        rename News gH LF _ _ => N6
        refine' fend () F6 N6 (by kst_allIn) (by kst_allIn) (fun p hp e => hit p hp (List.mem_singleton.mp e)) ?wk1 ?wk2
        case wk1 => kst_all
        case wk2 =>
          intro z hz
          by_cases hzi : z = i
          · (try k_fold)
            subst hzi; kst_p2
          · exact hI z (by kst_p2)
    case md2 =>
      rintro ⟨⟩ u h3 tk3 hI F5 N5
      w_strict repeat' kla_enter
      have e3 : lessOf k j k' j' = true := by
        rw [e, List.all_eq_true]
        intro z hz
        have := hI z (List.mem_range.mp hz)
        simpa using this
      rw [e3] at hret
      exact hret _ _ (by assumption) (by assumption)
  have hr : ∀ (v : Value) (m5 : Str → Option Value) (h5 : Heap) (tk5 : Nat), v = .bool (lessOf k j k' j') → Fr gH LF h5 m5 → News gH LF h5 news → q7 (.ret v) { s with heap := h5, gens := s.gens, toks := tk5 } := by
    rintro v m5 h5 tk5 rfl F5 N5
    clear F4 N4
    w_strict repeat' kla_enter
    exact hret _ _ (by assumption) (nsub (by assumption) (by kst_allIn))
  clear_value q7
  w_strict repeat' kla_enter
  case' _ =>
    have e : lessOf k j k' j' = decide ((if k = 0 then 0 else 1) ≤ (if k' = 0 then 0 else 1)) := by rw [hlo, if_neg (by kst_p2), if_pos ⟨by kst_p2, by kst_p2⟩]
    have e2 : ∀ p q : Nat, decide ((p : Int) ≤ (q : Int)) = decide (p ≤ q) := fun p q => by simp
    rename Fr gH LF _ _ => F6
    rename News gH LF _ _ => N6
    refine hr _ _ _ _ ?h0 F6 N6
    (case h0 => rw [e, e2])
  all_goals (
    rename Fr gH LF _ _ => F6
    rename News gH LF _ _ => N6
    refine hq ?h0 _ _ _ F6 ?h2 N6
    (case h0 => kst_p2)
    (case h2 => kst_all))
noncomputable def stepCol (ts : Int) (col : Int) (c : Nat) : Int := if c = 32 then col + 1 else (col.fdiv ts + 1) * ts
noncomputable def colOf (k j : Nat) (ts : Int) : Int := (leadOf k j).foldl (stepCol ts) 0
noncomputable def colsOf (k j : Nat) : Cols := (colOf k j 1, colOf k j 2, colOf k j 3)
theorem less_cols : ∀ k j k' j' : Nat, k < 4 → j < 3 → k' < 4 → j' < 3 → lessOf k j k' j' = ltC (colsOf k j) (colsOf k' j') := by
  have h : ∀ k j k' j' : Fin 4, j.val < 3 → j'.val < 3 → lessOf k j k' j' = ltC (colsOf k j) (colsOf k' j') := by decide +kernel
  intro k j k' j' h1 h2 h3 h4
  exact h ⟨k, h1⟩ ⟨j, by kst_p2⟩ ⟨k', h3⟩ ⟨j', by kst_p2⟩ h2 h4
end
end Mine
end TClvl

section TCtree
open PySem PySem.W PyProof.Rows PySem.Spec PySem.Calls
set_option Elab.async false
set_option maxRecDepth 100000
set_option maxHeartbeats 4000000
set_option linter.unusedVariables false
set_option linter.unusedSimpArgs false

namespace Mine
noncomputable def ltW (a b : Nat × Nat) : Bool := lessOf a.1 a.2 b.1 b.2
inductive ItemW (w : World) (news : List (Addr × Obj)) (v : Value) (p : (Nat × Nat) × Nat) : Prop
  | mk (t wx wl) : v = .ref t → (t, tupO [.ref wx, .ref wl]) ∈ news → WsIn w news wx p.1.1 p.1.2 → p.1.1 < 4 → p.1.2 < 3 → WordIn news wl p.2 → ItemW w news v p
theorem app_nil (f : Fo) : f.app .nil = f := by
  induction f with
  | nil => rfl
  | cons w b r _ ih => exact congrArg (Fo.cons w b) ih
theorem app_assoc (f g h : Fo) : (f.app g).app h = f.app (g.app h) := by
  induction f with
  | nil => rfl
  | cons w b r _ ih => exact congrArg (Fo.cons w b) ih
theorem ForL.snoc {news : List (Addr × Obj)} {vs : List Value} {f : Fo} (h : ForL news vs f) {t wl bl : Addr} {bvs : List Value} {nb wd : Nat} {b : Fo} (h1 : (t, tupO [.ref wl, .ref bl]) ∈ news) (h2 : WordIn news wl wd) (h3 : (bl, listOf bvs.toArray nb) ∈ news) (h4 : ForL news bvs b) : ForL news (vs ++ [.ref t]) (f.app (.cons wd b .nil)) := by
  induction h with
  | nil => exact .cons h1 h2 h3 h4 .nil
  | cons g1 g2 g3 g4 _ _ ih => exact .cons g1 g2 g3 g4 ih
noncomputable def TreeAll (w : World) (k : Nat) : Prop := ∀ (W : List (Addr × Obj)) (ws : List ((Nat × Nat) × Nat)) (vs : List Value) (l : Addr) (n : Nat) (mean : ExcName → Option Value) (mg mb : Str → Option Value) (dp un : Nat) (gd : Option (List Code)) (cn : Str) (cs : Scope) (a : Addr) (ccd : Value) (cl : List (Str × Addr)) (outer : List Env) (A₀ : Around) (base h₀ : Heap) (L : Addr) (m : Str → Option Value) (news : List (Addr × Obj)) (s : Shared) (Q E : Value → Shared → Prop)
    (C : Cx w mean mg mb cs outer A₀ base h₀ L m news s) (hd1 : dp + ws.length + 20 < recursionLimit) (hu : un + 8 * ws.length + 150 < cLine)
    (hk : ws.length ≤ k) (hlen : ws.length ≤ 8) (hl : (l, listOf vs.toArray n) ∈ news) (hw : Items (ItemW w W) vs ws) (hW : ∀ p ∈ W, p ∈ news)
    (hret : ∀ r us nu tl h' tk', Fr h₀ L h' m → News h₀ L h' (tl ++ news) → (∀ p ∈ tl, ∀ q ∈ news, q.1 < p.1) → (r, listOf us.toArray nu) ∈ tl → ForL (tl ++ W) us (forest ltW ws) → Q (.ref r) { s with heap := h', toks := tk' }),
    wpAny (model PySem.Challenge.rw_ti0073_01.row.prog w) (ktrTop dp un gd cn cs L a ccd cl outer) (call (.ref 291) [.ref l]) Q E s
section
variable {w : World} {mean : ExcName → Option Value} {mg mb : Str → Option Value} {dp un : Nat} {gd : Option (List Code)} {cn : Str} {cs : Scope} {a : Addr} {ccd : Value} {cl : List (Str × Addr)} {outer : List Env} {A₀ : Around} {base h₀ : Heap} {L : Addr} {m : Str → Option Value} {news : List (Addr × Obj)} {s : Shared} {Q E : Value → Shared → Prop}

theorem tree_use {k : Nat} (h : TreeAll w k) (C : Cx w mean mg mb cs outer A₀ base h₀ L m news s) {W : List (Addr × Obj)} {ws : List ((Nat × Nat) × Nat)} {vs : List Value} {l : Addr} {n : Nat} (hd1 : dp + ws.length + 20 < recursionLimit) (hu : un + 8 * ws.length + 150 < cLine)
    (hk : ws.length ≤ k) (hlen : ws.length ≤ 8) (hl : (l, listOf vs.toArray n) ∈ news) (hw : Items (ItemW w W) vs ws) (hW : ∀ p ∈ W, p ∈ news)
    (hret : ∀ r us nu tl h' tk', Fr h₀ L h' m → News h₀ L h' (tl ++ news) → (∀ p ∈ tl, ∀ q ∈ news, q.1 < p.1) → (r, listOf us.toArray nu) ∈ tl → ForL (tl ++ W) us (forest ltW ws) → Q (.ref r) { s with heap := h', toks := tk' }) :
    wpAny (model PySem.Challenge.rw_ti0073_01.row.prog w) (ktrTop dp un gd cn cs L a ccd cl outer) (call (.ref 291) [.ref l]) Q E s := h _ _ _ _ _ _ _ _ _ _ _ _ _ _ _ _ _ _ _ _ _ _ _ _ _ _ C hd1 hu hk hlen hl hw hW hret
end
theorem tree_all (w : World) (k : Nat) : TreeAll w k := by
  induction k using Nat.strongRecOn with
  | _ k ih =>
  intro W ws vs l n mean mg mb dp un gd cn cs a ccd cl outer A₀ base h₀ L m news s Q E C hd1 hu hk hlen hl hw hW hret
  w_top off
  obtain ⟨B, F, X, N, T, hk⟩ := C
  revert X
  k_fill
  intro X
  k_dflt (refine' enter (binds := [(Str.ofString "items", .ref l)]) B F X N T hk ?k6 ?k7 ?k8 ?k9 ?kB ?_ ?c2 ?c3 ?c4 ?c5; (case k6 => k_is); (case k7 => k_is); (case k8 => kst_p2); (case k9 => exact BindsTo.of_eq rfl); (case c5 => decide); (case kB => exact locs rfl); (case c2 => exact rfl); (case c3 => exact rfl); (case c4 => exact rfl))
  intro gH LF hF FG F1 N1 B1 X1 T1 lL
  simp only [List.reverse_cons, List.reverse_nil, List.nil_append, List.cons_append] at F1
  (try k_fold)
  (try (with_reducible refine (let A9 : PySem.Around := _; let e9 : PySem.Env := _; (?_ : PySem.wpAny _ A9 (PySem.execs _ e9) _ _ _))))
  w_strict repeat' ((fail_if_success (with_reducible show wpAny _ _ (exec (Stmt.While _ _ _ _) _) _ _ _)); kla_enter)
  rename Fr gH LF _ _ => F2
  rename News gH LF _ _ => N2
  (try k_fold)
  refine' whl (σ := Nat × Tok × List Value × List (Addr × Obj) × Nat × Addr) (fun c => (c.2.2.2.2.2, listOf c.2.2.1.toArray c.2.2.2.2.1) :: (c.2.2.2.1 ++ news)) (fun c => [(Str.ofString "items", .ref l), (Str.ofString "place", .int c.1 c.2.1), (Str.ofString "tree", .ref c.2.2.2.2.2)]) (fun c => (∃ f0, ForL (c.2.2.2.1 ++ W) c.2.2.1 f0 ∧ f0.app (forest ltW (ws.drop c.1)) = forest ltW ws) ∧ (∀ q ∈ news, q.1 < c.2.2.2.2.2) ∧ (∀ p ∈ c.2.2.2.1, c.2.2.2.2.2 < p.1) ∧ c.2.2.1.length ≤ c.1) (fun c => vs.length - c.1) (0, _, [], [], 0, _) F2 (nsub N2 ?mn1) ?mk1 ?mp1 ?_
  case mk1 => kst_all
  case mn1 => kst_allIn
  case mp1 => exact ⟨⟨.nil, .nil, rfl⟩, by dsimp only; assumption, by simp, Nat.le_refl _⟩
  (try k_fold)
  first | (refine Mine.poxxxxxxc ?_; intro pl t1 us tl un2 l2) | (rintro ⟨pl, t1, us, tl, un2, l2⟩)
  rintro u h2 tk2 h9Q1 F3 N3
  (try k_fold)
  refine Mine.gk ?_
  intro Gz9 kz9
  obtain ⟨⟨f0, hf0, htree⟩, hnew, hltl, hul⟩ := h9Q1
  refine kz9 ?_
  (try clear kz9 Gz9)
  dsimp only at hf0 htree hnew hltl hul F3 N3 ⊢
  have hvl : vs.length ≤ 8 := by rw [hw.length]; exact hlen
  by_cases hpl : pl < ws.length
  case neg =>
    have hpl' : ¬ pl < vs.length := by rw [hw.length]; exact hpl
    w_strict repeat' kla_enter
    rename Fr h₀ L _ _ => F6
    rename News h₀ L _ _ => N6
    rw [List.drop_eq_nil_of_le (by kst_p2), forest0, app_nil] at htree
    refine hret l2 us un2 ((l2, listOf us.toArray un2) :: tl) _ _ F6 N6 ?lt1 (List.Mem.head _) (htree ▸ hf0.mono (fun p hp => List.mem_cons_of_mem _ hp))
    intro p hp q hq
    (try k_fold)
    rcases List.mem_cons.mp hp with rfl | hp
    · exact hnew q hq
    · exact Nat.lt_trans (hnew q hq) (hltl p hp)
  (try k_fold)
  refine Mine.gk ?_
  intro Gz9 kz9
  (try k_fold)
  obtain ⟨v, ⟨⟨ck, cj⟩, w0⟩, hv, hp, t0, wx0, wl0, rfl, ht0, hws0, hck, hcj, hwd0⟩ := hw.at pl hpl
  refine kz9 ?_
  (try clear kz9 Gz9)
  dsimp only at ht0 hws0 hck hcj hwd0
  replace ht0 := hW _ ht0
  replace hws0 := hws0.mono hW
  have hwsA := hws0
  obtain ⟨dxA, nmA, ctA, usA, trA, a1, a2, a3, a4, a5, a6, a7, rowA, hxA, hnmA, hctA, husA, hdxA⟩ := hwsA
  have hpl' : pl < vs.length := by rw [hw.length]; exact hpl
  w_strict repeat' ((fail_if_success (with_reducible show wpAny _ _ (exec (Stmt.While _ _ _ _) _) _ _ _)); kla_enter)
  rename Fr gH LF _ _ => F4
  rename News gH LF _ _ => N4
  (try k_fold)
  refine wpAny_mono (E := fun _ _ => False) (Q := fun f s₂ => Hold (f = .next ∧ ∃ af t2 u3 h' tk', s₂ = { s with heap := h', toks := tk' } ∧ Fr gH LF h' (kstB u3 ([(Str.ofString "items", .ref l), (Str.ofString "place", .int pl t1), (Str.ofString "tree", .ref l2), (Str.ofString "lead", .ref wx0), (Str.ofString "word", .ref wl0), (Str.ofString "after", .int (af : Nat) t2)])) ∧ News gH LF h' ((l2, listOf us.toArray un2) :: (tl ++ news)) ∧
      pl + 1 ≤ af ∧ af ≤ ws.length ∧ (ws.drop (pl + 1)).takeWhile (fun q => ltW (ck, cj) q.1) = (ws.drop (pl + 1)).take (af - (pl + 1)) ∧ (ws.drop (pl + 1)).dropWhile (fun q => ltW (ck, cj) q.1) = (ws.drop (pl + 1)).drop (af - (pl + 1)))) ?_ (Mine.hq_5 ?_) fun _ _ x => x
  case refine_1 =>
    refine' whl (σ := Nat × Tok) (fun c => ((l2, listOf us.toArray un2) :: (tl ++ news))) (fun c => [(Str.ofString "items", .ref l), (Str.ofString "place", .int pl t1), (Str.ofString "tree", .ref l2), (Str.ofString "lead", .ref wx0), (Str.ofString "word", .ref wl0), (Str.ofString "after", .int c.1 c.2)]) (fun c => pl + 1 ≤ c.1 ∧ c.1 ≤ ws.length ∧ ∀ x ∈ (ws.drop (pl + 1)).take (c.1 - (pl + 1)), ltW (ck, cj) x.1 = true) (fun c => vs.length - c.1) (pl + 1, _) F4 (nsub N4 ?mn2) ?mk2 ?mp2 ?_
    case mk2 => kst_all
    case mn2 => kst_allIn
    case mp2 => exact ⟨Nat.le_refl _, hpl, by simp⟩
    (try k_fold)
    first | (refine Mine.poxxc ?_; intro af t2) | (rintro ⟨af, t2⟩)
    rintro u3 h5 tk5 h9Q1 F5 N5
    obtain ⟨ha1, ha2, ha3⟩ := h9Q1
    dsimp only at ha1 ha2 ha3 F5 N5 ⊢
    by_cases haf : af < ws.length
    case neg =>
      have haf' : ¬ af < vs.length := by rw [hw.length]; exact haf
      w_strict repeat' kla_enter
      exact ⟨⟨by first | trivial | rfl, af, t2, u3, _, _, rfl, F5, N5, ha1, ha2, tw_at ha3 (.inl (by rw [List.length_drop]; kst_p2))⟩⟩
    (try k_fold)
    refine Mine.gk ?_
    intro Gz9 kz9
    (try k_fold)
    obtain ⟨v2, ⟨⟨ck2, cj2⟩, w2⟩, hv2, hp2, t5, wx2, wl2, rfl, ht2, hws2, hck2, hcj2, hwd2⟩ := hw.at af haf
    refine kz9 ?_
    (try clear kz9 Gz9)
    dsimp only at ht2 hws2 hck2 hcj2
    replace ht2 := hW _ ht2
    replace hws2 := hws2.mono hW
    have haf' : af < vs.length := by rw [hw.length]; exact haf
    refine wpAny_mono (Q := fun b s₂ => Hold (b = ltW (ck, cj) (ck2, cj2) ∧ ∃ h' tk', s₂ = { s with heap := h', toks := tk' } ∧ Fr gH LF h' (kstB u3 ([(Str.ofString "items", .ref l), (Str.ofString "place", .int pl t1), (Str.ofString "tree", .ref l2), (Str.ofString "lead", .ref wx0), (Str.ofString "word", .ref wl0), (Str.ofString "after", .int af t2)])) ∧ News gH LF h' ((l2, listOf us.toArray un2) :: (tl ++ news)))) ?_ (Mine.hq_2 ?_) fun _ _ x => x
    case refine_1 =>
      w_strict repeat' (first | (k_here; (with_reducible show wpAny _ _ (call (Value.ref 234) _) _ _ _); k_dflt (refine' less_spec ⟨?k1, ?k2, ?k3, ?k4, ?k5, ?kK⟩ ?kd ?ku ?q1 ?q2 ?q3 ?q4 ?q5 ?q6 ?_; (case k2 => k_asm); (case k1 => k_asm); (case k3 => k_asm); (case k4 => k_asm); (case k5 => k_asm); (case kK => first | exact rfl | assumption); (case kd => kst_p2); (case ku => kst_p2); (case q3 => refine Mine.WsIn.mono (by assumption) (by k_ownIn)); (case q6 => refine Mine.WsIn.mono (by assumption) (by k_ownIn)); (case q1 => assumption); (case q2 => assumption); (case q4 => assumption); (case q5 => assumption)); intro _ _ _ _; (try dsimp only); (try k_fold)) | kla_enter)
      all_goals (
        rename lessOf _ _ _ _ = _ => hb9
        exact ⟨⟨hb9.symm, _, _, rfl, by assumption, by assumption⟩⟩)
    case refine_2 =>
      intro h' tk' h9E
      refine Mine.cj_2 h9E ?_
      clear h9E
      intro F6 N6
      (try dsimp only)
      cases hlt : ltW (ck, cj) (ck2, cj2) with
      | true =>
        (try k_unfold)
        (try dsimp only)
        rw [if_pos rfl]
        w_strict repeat' kla_enter
        refine wend (af + 1, _) (by assumption) (by assumption) (by kst_allIn) (by kst_all) ⟨by kst_p2, by kst_p2, ?_⟩ (by dsimp only; kst_p2)
        intro x hx
        dsimp only at hx
        rw [show af + 1 - (pl + 1) = af - (pl + 1) + 1 by kst_p2, List.take_add_one, List.getElem?_drop, show pl + 1 + (af - (pl + 1)) = af by kst_p2, hp2] at hx
        rcases List.mem_append.mp hx with hx | hx
        · exact ha3 x hx
        · simp at hx
          (try k_fold)
          subst hx
          exact hlt
      | false =>
        (try k_unfold)
        (try dsimp only)
        rw [if_neg (by simp)]
        exact ⟨⟨rfl, af, t2, u3, _, _, rfl, F6, N6, ha1, ha2, tw_at ha3 (.inr ⟨_, by rw [List.getElem?_drop]; rw [show pl + 1 + (af - (pl + 1)) = af by kst_p2]; exact hp2, hlt⟩)⟩⟩
  case refine_2 =>
    intro af t2 u3 h5 tk5 h9E
    refine Mine.cj_6 h9E ?_
    clear h9E
    intro F5 N5 ha1 ha2 htw hdw
    (try dsimp only)
    w_strict repeat' ((fail_if_success (with_reducible show wpAny _ _ (subscriptTail _ (Expr.Slice _ _ _ _) _ _) _ _ _)); kla_enter)
    refine' my_slice (a := pl + 1) (b := af) (by k_asm) (by k_asm) (by k_mem) (by kmk_part) (by kmk_part) (by kst_p2) rfl (by rw [hw.length]; exact ha2) (by with_unfolding_all rfl) (by kmk_pure) (by rw [List.size_toArray]; exact Nat.le_trans hvl (by decide)) ?_
    intro D8 h8 F8 N8 l8
    w_strict repeat' ((fail_if_success (with_reducible show wpAny _ _ (call (.ref 291) _) _ _ _)); kla_enter)
    have hsub : Items (ItemW w W) ((vs.drop (pl + 1)).take (af - (pl + 1))) ((ws.drop (pl + 1)).take (af - (pl + 1))) := (hw.drop _).take _
    have hsl : ((ws.drop (pl + 1)).take (af - (pl + 1))).length < ws.length := by
      rw [List.length_take, List.length_drop]; kst_p2
    have hI0 := ih (k - 1) (by kst_p2)
    w_strict repeat' ((fail_if_success (with_reducible show wpAny _ _ (call (.builtin "list.append") _) _ _ _)); first | (k_here; (with_reducible show wpAny _ _ (call (Value.ref 291) _) _ _ _); k_dflt (refine' tree_use ?hI ⟨?k1, ?k2, ?k3, ?k4, ?k5, ?kK⟩ ?kd ?ku ?q1 ?q2 ?q3 ?q4 ?q5 ?_; (case hI => assumption); (case k2 => k_asm); (case k1 => k_asm); (case k3 => k_asm); (case k4 => k_asm); (case k5 => k_asm); (case kK => first | exact rfl | assumption); (case q3 => k_mem); (case q4 => assumption); (case q5 => (rename ∀ q : PySem.Addr × PySem.Obj, q ∈ _ → q ∈ _ => hW9; intro p9 hp9; have hp8 := hW9 p9 hp9; clear hp9 hW9; simp only [List.mem_append, List.mem_cons, hp8, or_true, true_or])); (case q1 => kst_p2); (case q2 => kst_p2); (case kd => kst_p2); (case ku => kst_p2)); intro _ _ _ _ _ _ _ _ _ _ _; (try dsimp only); (try k_fold)) | kla_enter)
    rename Fr gH LF _ _ => F9
    rename News gH LF _ _ => N9
    rename_i r2 us2 nu2 tl2 _ _ hlt2 hr2 hf2 D9 _ l9
    refine my_append (rest := (D9, tupO [.ref wl0, .ref r2]) :: (tl2 ++ (tl ++ news))) F9 N9 (vs := us) (n := un2) ?ap1 ?ap2 ?ap3 ?_
    case ap3 => rw [sizeLine_eq]; kst_p2
    case ap1 => kst_allIn
    case ap2 =>
      refine Mine.fmc (Nat.ne_of_gt (l9 (l2, listOf us.toArray un2) (by simp))) (fun p hp => ?_)
      rcases List.mem_append.mp hp with hp | hp
      · exact Nat.ne_of_gt (hlt2 p hp (l2, listOf us.toArray un2) (by simp))
      rcases List.mem_append.mp hp with hp | hp
      · exact Nat.ne_of_gt (hltl p hp)
      · exact Nat.ne_of_lt (hnew p hp)
    intro h10 F10 N10
    w_strict repeat' kla_enter
    have hdr : ws.drop pl = ((ck, cj), w0) :: ws.drop (pl + 1) := by
      have h1 := List.getElem?_eq_some_iff.mp hp
      obtain ⟨h1, h2⟩ := h1
      rw [List.drop_eq_getElem_cons h1, h2]
    have hdd : (ws.drop (pl + 1)).drop (af - (pl + 1)) = ws.drop af := by rw [List.drop_drop]; congr 1; kst_p2
    rw [hdr, forest1] at htree
    dsimp only at htree
    rw [htw, hdw, hdd] at htree
    refine wend (af, _, us ++ [.ref D9], (D9, tupO [.ref wl0, .ref r2]) :: (tl2 ++ tl), un2 + 1, l2) (by assumption) (by assumption) (by kst_allIn) (by kst_all) ⟨⟨f0.app (.cons w0 (forest ltW ((ws.drop (pl + 1)).take (af - (pl + 1)))) .nil), ?_, ?_⟩, hnew, ?_, ?_⟩ (by dsimp only; kst_p2)
    · dsimp only
      (try k_fold)
      first | (refine Mine.ex_2 hwd0 ?_; (try clear hwd0); rintro us0 n0 h9E; refine Mine.cj_2 h9E ?_; clear h9E; rintro hwd1 hwd2) | (obtain ⟨us0, n0, hwd1, hwd2⟩ := hwd0)
      refine (hf0.mono ?_).snoc (nb := nu2) (bvs := us2) (.head _) ⟨us0, n0, ?_, hwd2⟩ ?_ (hf2.mono ?_)
      · intro p hp
        rcases List.mem_append.mp hp with hp | hp <;> simp only [List.mem_append, List.mem_cons, hp, true_or, or_true]
      · simp only [List.mem_append, List.mem_cons, hwd1, true_or, or_true]
      · simp only [List.mem_append, List.mem_cons, hr2, true_or, or_true]
      · intro p hp
        rcases List.mem_append.mp hp with hp | hp <;> simp only [List.mem_append, List.mem_cons, hp, true_or, or_true]
    · dsimp only
      rw [app_assoc]
      exact htree
    · dsimp only
      refine Mine.fmc (l9 (l2, listOf us.toArray un2) (by simp)) (fun p hp => ?_)
      rcases List.mem_append.mp hp with hp | hp
      · exact hlt2 p hp (l2, listOf us.toArray un2) (by simp)
      · exact hltl p hp
    · dsimp only
      rw [List.length_append, List.length_singleton]; kst_p2
end Mine
end TCtree

section TCitems
open PySem PySem.W PyProof.Rows PySem.Spec PySem.Calls
set_option Elab.async false
set_option maxRecDepth 100000
set_option maxHeartbeats 4000000
set_option linter.unusedVariables false
set_option linter.unusedSimpArgs false

namespace Mine
noncomputable def cut : List Int → List Int → List (List Int)
  | _, [] => []
  | cur, n :: r => if n = 12 ∨ n = 13 then cur :: cut [] r else cut (cur ++ [n]) r
noncomputable abbrev RowD := (Nat × Nat) × List Nat
noncomputable def wordsOfRow (r : RowD) : List ((Nat × Nat) × List Int) := (cut [] (lexN r.2.length r.2)).map fun W => (r.1, W)
inductive RowV (v : Value) (r : RowD) : Prop
  | mk (t) : v = .str ⟨r.2.toArray⟩ t → RowIs ⟨r.2.toArray⟩ r.1.1 r.1.2 → r.1.1 < 4 → r.1.2 < 3 → r.2.length ≤ 100 → (∀ c ∈ r.2, c < 128) → RowV v r
inductive ItemI (w : World) (news : List (Addr × Obj)) (v : Value) (p : (Nat × Nat) × List Int) : Prop
  | mk (t wx wl us n) : v = .ref t → (t, tupO [.ref wx, .ref wl]) ∈ news → WsIn w news wx p.1.1 p.1.2 → p.1.1 < 4 → p.1.2 < 3 → (wl, listOf (List.toArray us) n) ∈ news → IntsAre us p.2 → ItemI w news v p
theorem ItemI.mono {w : World} {news news' : List (Addr × Obj)} {v : Value} {p : (Nat × Nat) × List Int} (h : ItemI w news v p) (hs : ∀ q ∈ news, q ∈ news') : ItemI w news' v p := by
  obtain ⟨t, wx, wl, us, n, e, h1, h2, h3, h4, h5, hi⟩ := h
  exact ⟨t, wx, wl, us, n, e, hs _ h1, h2.mono hs, h3, h4, hs _ h5, hi⟩
theorem Items.snoc {α : Type} {R : Value → α → Prop} {vs : List Value} {ps : List α} {v : Value} {p : α} (h : Items R vs ps) (h1 : R v p) : Items R (vs ++ [v]) (ps ++ [p]) := by
  induction h with
  | nil => exact .cons h1 .nil
  | cons g _ ih => exact .cons g ih
theorem lexN_len : ∀ (f : Nat) (l : List Nat), (lexN f l).length ≤ f := by
  intro f
  induction f with
  | zero => intro l; simp [lexN]
  | succ n ih =>
    intro l
    cases l with
    | nil => simp [lexN]
    | cons c r =>
      simp only [lexN]
      split
      · exact Nat.succ_le_succ (ih _)
      · rw [List.length_append]
        have := ih r
        split <;> simp <;> kst_p2
section
variable {w : World} {mean : ExcName → Option Value} {mg mb : Str → Option Value} {dp un : Nat} {gd : Option (List Code)} {cn : Str} {cs : Scope} {a : Addr} {ccd : Value} {cl : List (Str × Addr)} {outer : List Env} {A₀ : Around} {base h₀ : Heap} {L : Addr} {m : Str → Option Value} {news : List (Addr × Obj)} {s : Shared} {Q E : Value → Shared → Prop}

theorem items_spec (C : Cx w mean mg mb cs outer A₀ base h₀ L m news s) (hd1 : dp + 30 < recursionLimit) (hu : un + 300 < cLine) {pg : Addr} {pv : List Value} {pn : Nat} {rows : List RowD} (hpg : (pg, listOf pv.toArray pn) ∈ news) (hrows : Items RowV pv rows) (hlen : rows.length ≤ 8)
    (hret : ∀ c us n tl h' tk', Fr h₀ L h' m → News h₀ L h' (tl ++ news) → (∀ p ∈ tl, ∀ q ∈ news, q.1 < p.1) → (c, listOf us.toArray n) ∈ tl → Items (ItemI w tl) us (rows.flatMap wordsOfRow) → Q (.ref c) { s with heap := h', toks := tk' }) :
    wpAny (model PySem.Challenge.rw_ti0073_01.row.prog w) (ktrTop dp un gd cn cs L a ccd cl outer) (call (.ref 284) [.ref pg]) Q E s := by
  w_top off
  obtain ⟨B, F, X, N, T, hk⟩ := C
  revert X
  k_fill
  intro X
  k_dflt (refine' enter (binds := [(Str.ofString "page", .ref pg)]) B F X N T hk ?k6 ?k7 ?k8 ?k9 ?kB ?_ ?c2 ?c3 ?c4 ?c5; (case k6 => k_is); (case k7 => k_is); (case k8 => kst_p2); (case k9 => exact BindsTo.of_eq rfl); (case c5 => decide); (case kB => exact locs rfl); (case c2 => exact rfl); (case c3 => exact rfl); (case c4 => exact rfl))
  intro gH LF hF FG F1 N1 B1 X1 T1 lL
  simp only [List.reverse_cons, List.reverse_nil, List.nil_append, List.cons_append] at F1
  (try k_fold)
  (try (with_reducible refine (let A9 : PySem.Around := _; let e9 : PySem.Env := _; (?_ : PySem.wpAny _ A9 (PySem.execs _ e9) _ _ _))))
  w_strict repeat' ((fail_if_success (with_reducible show wpAny _ _ (exec (Stmt.For _ _ _ _ _) _) _ _ _)); kla_enter)
  refine wpAny_For ?_
  w_strict repeat' ((fail_if_success (with_reducible show wpAny _ _ (pyIter _) _ _ _)); kla_enter)
  rename Fr gH LF _ _ => F2
  rename News gH LF _ _ => N2
  rename_i lI _ lcI _
  have hpl : pv.length = rows.length := hrows.length
  refine' forl (L := LF) (vs := pv) (σ := List Value × Nat × List (Addr × Obj)) (fun _ => s.gens) (fun c => (lI, listOf c.1.toArray c.2.1) :: (c.2.2 ++ news)) (fun c => [(Str.ofString "page", .ref pg), (Str.ofString "items", .ref lI)])
    (fun i c => Items (ItemI w c.2.2) c.1 ((rows.take i).flatMap wordsOfRow) ∧ (∀ p ∈ c.2.2, lI < p.1) ∧ c.1.length ≤ 100 * i) ([], 0, []) rfl rfl (fun c => List.mem_cons_of_mem _ (List.mem_append_right _ hpg)) rfl F2 (nsub N2 ?mn1) ?mk1 ?mp1 ?mt1 ?md1
  case mn1 => kst_allIn
  case mk1 => kst_all
  case mp1 => exact ⟨.nil, by simp, Nat.zero_le _⟩
  case md1 =>
    (try k_fold)
    first | (refine Mine.poxxxc ?_; intro iv ni tl) | (rintro ⟨iv, ni, tl⟩)
    rintro u h2 tk2 h9Q1 F3 N3
    obtain ⟨hit, htl, -⟩ := h9Q1
    dsimp only at hit htl F3 N3 ⊢
    w_strict repeat' kla_enter
    rw [List.take_of_length_le (by kst_p2)] at hit
    refine hret lI iv ni ((lI, listOf iv.toArray ni) :: tl) _ _ (by assumption) (by assumption) ?_ (.head _) (hit.mono fun v p h => h.mono fun q hq => List.mem_cons_of_mem _ hq)
    intro p hp q hq
    (try k_fold)
    rcases List.mem_cons.mp hp with rfl | hp
    · exact lcI q hq
    · exact Nat.lt_trans (lcI q hq) (htl p hp)
  case mt1 =>
    rintro i
    (try k_fold)
    first | (refine Mine.poxxxc ?_; intro iv ni tl) | (rintro ⟨iv, ni, tl⟩)
    rintro v u h3 tk3 it o hi hv h9Q1 hit F3 N3
    obtain ⟨hiv, htl, hil⟩ := h9Q1
    dsimp only at hiv htl hil hit F3 N3 ⊢
    have hit0 := hit
    (try k_fold)
    refine Mine.gk ?_
    intro Gz9 kz9
    (try k_fold)
    obtain ⟨v', ⟨⟨rk, rj⟩, l⟩, hv', hr, tr, rfl, hrow, hk4, hj3, hl100, hasc⟩ := hrows.at i (by kst_p2)
    refine kz9 ?_
    (try clear kz9 Gz9)
    rw [hv] at hv'
    (try k_fold)
    refine Mine.gk ?_
    intro Gz9 kz9
    (try k_fold)
    cases hv'
    all_goals (try (refine kz9 ?_; (try clear kz9 Gz9)))
    dsimp only at hrow hk4 hj3 hl100 hasc
    w_strict repeat' ((fail_if_success (with_reducible show wpAny _ _ (exec (Stmt.For _ _ _ _ _) _) _ _ _)); first | (k_here; (with_reducible show wpAny _ _ (call (Value.ref 244) _) _ _ _); k_dflt (refine' ws_spec ⟨?k1, ?k2, ?k3, ?k4, ?k5, ?kK⟩ ?kd ?ku ?q1 ?q2 ?q3 ?_; (case k2 => k_asm); (case k1 => k_asm); (case k3 => k_asm); (case k4 => k_asm); (case k5 => k_asm); (case kK => first | exact rfl | assumption); (case kd => kst_p2); (case ku => kst_p2); (case q3 => assumption); (case q1 => assumption); (case q2 => assumption)); intro _ _ _ _ _ _ _ _; (try dsimp only); (try k_fold)) | kla_enter)
    rename Fr gH LF _ _ => F4
    rename News gH LF _ _ => N4
    rename_i xW tlW _ _ hltW hws wA _ lwA _ _ lD _ _ _
    refine wpAny_For ?_
    w_strict repeat' ((fail_if_success (with_reducible show wpAny _ _ (pyIter _) _ _ _)); first | (k_here; (with_reducible show wpAny _ _ (call (Value.ref 277) _) _ _ _); k_dflt (refine' num_spec ⟨?k1, ?k2, ?k3, ?k4, ?k5, ?kK⟩ ?kd ?ku ?q1 ?q2 ?q3 ?_; (case k2 => k_asm); (case k1 => k_asm); (case k3 => k_asm); (case k4 => k_asm); (case k5 => k_asm); (case kK => first | exact rfl | assumption); (case kd => kst_p2); (case ku => kst_p2); (case q3 => rfl); (case q1 => assumption); (case q2 => assumption)); intro _ _ _ _ _ _ _ _ _ _ _; (try dsimp only); (try k_fold)) | kla_enter)
    rename Fr gH LF _ _ => F5
    rename News gH LF _ _ => N5
    rename_i cN usN nN tlN _ _ hltN hcN hiN
    have hltIW : ∀ p ∈ tlW, lI < p.1 := fun p hp => hltW p hp (lI, _) (.tail _ (.head _))
    have hnl : (lexN l.length l).length ≤ 100 := Nat.le_trans (lexN_len _ _) hl100
    have hltc : lI < cN := hltN (cN, _) hcN (lI, listOf iv.toArray ni) (by simp)
    have hltw : lI < wA := lwA (lI, listOf iv.toArray ni) (by simp)
    refine' forl (L := LF) (vs := usN) (σ := List Value × Nat × List (Addr × Obj) × Addr × List Value × Nat) (fun _ => s.gens) (fun c => (cN, listOf usN.toArray nN) :: (it, o) :: (lI, listOf c.1.toArray c.2.1) :: (c.2.2.2.1, listOf c.2.2.2.2.1.toArray c.2.2.2.2.2) :: (tlW ++ (c.2.2.1 ++ news)))
      (fun c => [(Str.ofString "page", .ref pg), (Str.ofString "items", .ref lI), (Str.ofString "lead", .ref xW), (Str.ofString "word", .ref c.2.2.2.1)])
      (fun q c => (∃ done cur, Items (ItemI w (tlW ++ c.2.2.1)) c.1 done ∧ IntsAre c.2.2.2.2.1 cur ∧ done ++ (cut cur ((lexN l.length l).drop q)).map (fun W => ((rk, rj), W)) = ((rows.take i).flatMap wordsOfRow) ++ wordsOfRow ((rk, rj), l)) ∧ (∀ p ∈ c.2.2.1, lI < p.1 ∧ p.1 ≠ it) ∧ (lI < c.2.2.2.1 ∧ c.2.2.2.1 ≠ it) ∧ c.1.length ≤ 100 * i + q ∧ c.2.2.2.2.1.length ≤ q) (iv, ni, tl, wA, [], 0) rfl rfl (fun _ => .head _) rfl F5 (nsub N5 ?mn4) ?mk4 ?mp4 ?mt4 ?md4
    case mn4 =>
      refine Mine.fmc (List.mem_append_left _ hcN) (?_)
      kst_allIn
    case mk4 => kst_all
    case mp4 => exact ⟨⟨_, [], hiv.mono (fun v p h => h.mono fun q hq => List.mem_append_right _ hq), .nil, rfl⟩, fun p hp => ⟨htl p hp, hit0 p (.tail _ (List.mem_append_left _ hp))⟩, ⟨hltw, Nat.ne_of_gt (lwA (it, o) (by simp))⟩, by dsimp only; kst_p2, Nat.zero_le _⟩
    case md4 =>
      (try k_fold)
      first | (refine Mine.poxxxxxxc ?_; intro iv2 ni2 tl2 wa2 wv2 wn2) | (rintro ⟨iv2, ni2, tl2, wa2, wv2, wn2⟩)
      rintro u h2 tk2 h9Q1 F3 N3
      (try k_fold)
      refine Mine.gk ?_
      intro Gz9 kz9
      obtain ⟨⟨done, cur, hdone, hcur, htot⟩, htl2, hlw2, hil2, -⟩ := h9Q1
      refine kz9 ?_
      (try clear kz9 Gz9)
      dsimp only at hdone hcur htot htl2 hlw2 hil2 F3 N3 ⊢
      rw [hiN.length, List.drop_eq_nil_of_le (Nat.le_refl _), cut, List.map_nil, List.append_nil] at htot
      w_strict repeat' kla_enter
      (try k_fold)
      subst htot
      refine' fend (iv2, ni2, tlW ++ tl2) (by assumption) (by assumption) (by kst_allIn) ?wf1 ?wf2 ?wf3 ⟨?wf4, ?wf5, ?wf6⟩
      case wf1 =>
        dsimp only
        rw [List.append_assoc]
        kst_allIn
      case wf2 =>
        intro p hp e
        have e2 := List.mem_singleton.mp e
        dsimp only at hp
        (try k_fold)
        rcases List.mem_cons.mp hp with rfl | hp
        · exact hit0 (lI, listOf iv.toArray ni) (.head _) e2
        rcases List.mem_append.mp hp with hp | hp
        · rcases List.mem_append.mp hp with hp | hp
          · exact Nat.ne_of_gt (hltW p hp (it, o) (.head _)) e2
          · exact (htl2 p hp).2 e2
        · exact hit0 p (.tail _ (List.mem_append_right _ hp)) e2
      case wf3 => kst_all
      case wf4 =>
        dsimp only
        rw [List.take_add_one, hr, Option.toList_some, List.flatMap_append]
        simpa using hdone
      case wf5 =>
        intro p hp
        rcases List.mem_append.mp hp with hp | hp
        · exact hltIW p hp
        · exact (htl2 p hp).1
      case wf6 =>
        dsimp only
        rw [hiN.length] at hil2
        kst_p2
    case mt4 =>
      rintro q
      (try k_fold)
      first | (refine Mine.poxxxxxxc ?_; intro iv2 ni2 tl2 wa2 wv2 wn2) | (rintro ⟨iv2, ni2, tl2, wa2, wv2, wn2⟩)
      rintro v2 u h2 tk2 it2 o2 hq hv2 h9Q1 hit2 F3 N3
      (try k_fold)
      refine Mine.gk ?_
      intro Gz9 kz9
      obtain ⟨⟨done, cur, hdone, hcur, htot⟩, htl2, hlw2, hil2, hwl2⟩ := h9Q1
      refine kz9 ?_
      (try clear kz9 Gz9)
      dsimp only at hdone hcur htot htl2 hlw2 hil2 hwl2 hit2 F3 N3 ⊢
      (try k_fold)
      first | (refine Mine.ex_2 (ints_at hiN q v2 hv2) ?_; rintro kn tn h9E; refine Mine.cj_2 h9E ?_; clear h9E; rintro hkn rfl) | (obtain ⟨kn, tn, hkn, rfl⟩ := ints_at hiN q v2 hv2)
      have hqn : q < (lexN l.length l).length := (List.getElem?_eq_some_iff.mp hkn).1
      have hdr : (lexN l.length l).drop q = kn :: (lexN l.length l).drop (q + 1) := by
        obtain ⟨h1, h2⟩ := List.getElem?_eq_some_iff.mp hkn
        rw [List.drop_eq_getElem_cons h1, h2]
      rw [hdr] at htot
      w_strict repeat' ((fail_if_success (with_reducible show wpAny _ _ (binaryOp _ (.ref _) _) _ _ _)); (fail_if_success (with_reducible show wpAny _ _ (call (.builtin "list.append") _) _ _ _)); kla_enter)
      case' _ =>
        rename Fr gH LF _ _ => F8
        rename News gH LF _ _ => N8
        rename List.any _ _ = true => h12
        rename_i tI _ lT
        have hk : kn = 12 ∨ kn = 13 := by
          simp at h12
          kst_p2
        rw [cut, if_pos hk, List.map_cons] at htot
        refine my_append (rest := (tI, tupO [.ref xW, .ref wa2]) :: (it2, o2) :: (cN, listOf usN.toArray nN) :: (it, o) :: (wa2, listOf wv2.toArray wn2) :: (tlW ++ (tl2 ++ news))) F8 N8 (vs := iv2) (n := ni2) ?ap1 ?ap2 ?ap3 ?_
        case ap3 => rw [sizeLine_eq]; kst_p2
        case ap1 => kst_allIn
        case ap2 =>
          refine Mine.fmc (Nat.ne_of_gt lT.2.2.2.2.1) (Mine.fmc (Ne.symm (hit2 (lI, listOf iv2.toArray ni2) (by simp))) (Mine.fmc (Nat.ne_of_gt hltc) (Mine.fmc (Ne.symm (hit0 (lI, listOf iv.toArray ni) (.head _))) (Mine.fmc (Nat.ne_of_gt hlw2.1) (fun p hp => ?_)))))
          rcases List.mem_append.mp hp with hp | hp
          · exact Nat.ne_of_gt (hltIW p hp)
          rcases List.mem_append.mp hp with hp | hp
          · exact Nat.ne_of_gt (htl2 p hp).1
          · exact Nat.ne_of_lt (lcI p hp)
        intro h9 F9 N9
        w_strict repeat' kla_enter
        rename Fr gH LF _ _ => F6
        rename News gH LF _ _ => N6
        rename_i wN _ lW _
        refine' fend (iv2 ++ [.ref tI], ni2 + 1, (tI, tupO [.ref xW, .ref wa2]) :: (wa2, listOf wv2.toArray wn2) :: tl2, wN, [], 0) F6 N6 (by kst_allIn) (by kst_allIn) ?wf2 ?wf3 ⟨⟨done ++ [((rk, rj), cur)], [], ?wf4, .nil, ?wf9⟩, ?wf5, ?wf6, ?wf7, ?wf8⟩
        case wf3 => kst_all
        case wf9 => rw [List.append_assoc]; exact htot
        case wf4 =>
          refine Items.snoc (hdone.mono fun v p h => h.mono fun x hx => by rcases List.mem_append.mp hx with hx | hx <;> simp [hx]) ⟨tI, xW, wa2, wv2, wn2, rfl, by simp, hws.mono (fun x hx => List.mem_append_left _ hx), hk4, hj3, by simp, hcur⟩
        case wf7 => dsimp only; rw [List.length_append, List.length_singleton]; kst_p2
        case wf8 => exact Nat.zero_le _
        case wf5 =>
          refine Mine.fmc (⟨lT.2.2.2.2.1, Nat.ne_of_gt lT.2.2.2.1⟩) (Mine.fmc (hlw2) (fun p hp => ?_))
          · exact htl2 p hp
        case wf6 =>
          exact ⟨lW.1, Nat.ne_of_gt lW.2.2.2.2.1⟩
        case wf2 =>
          intro p hp e
          have e2 := List.mem_singleton.mp e
          dsimp only at hp
          (try k_fold)
          rcases List.mem_cons.mp hp with rfl | hp
          · exact hit2 _ (.head _) e2
          (try k_fold)
          rcases List.mem_cons.mp hp with rfl | hp
          · exact hit2 (it, o) (.tail _ (.head _)) e2
          (try k_fold)
          rcases List.mem_cons.mp hp with rfl | hp
          · exact hit2 (lI, listOf iv2.toArray ni2) (.tail _ (.tail _ (.head _))) e2
          (try k_fold)
          rcases List.mem_cons.mp hp with rfl | hp
          · exact Nat.ne_of_gt lW.2.2.1 e2
          rcases List.mem_append.mp hp with hp | hp
          · exact hit2 p (.tail _ (.tail _ (.tail _ (.tail _ (List.mem_append_left _ hp))))) e2
          (try k_fold)
          rcases List.mem_cons.mp hp with rfl | hp
          · exact Nat.ne_of_gt lT.2.1 e2
          (try k_fold)
          rcases List.mem_cons.mp hp with rfl | hp
          · exact hit2 (wa2, _) (.tail _ (.tail _ (.tail _ (.head _)))) e2
          · exact hit2 p (.tail _ (.tail _ (.tail _ (.tail _ (List.mem_append_right _ hp))))) e2
      case' _ =>
        rename (List.any _ _ = false) => h12
        have hk : ¬ (kn = 12 ∨ kn = 13) := by
          simp at h12
          kst_p2
        rw [cut, if_neg hk] at htot
        refine kmk_add_ints (by k_asm) (by k_asm) (by is_list) (by is_list) hcur (.cons _ _ .nil) ?_ (by rw [sizeLine_eq, List.length_singleton, ← hcur.length]; kst_p2)
        intro D9 us9 h9 F9 N9 l9 hi9
        w_strict repeat' kla_enter
        rename Fr gH LF _ _ => F6
        rename News gH LF _ _ => N6
        refine' fend (iv2, ni2, (wa2, listOf wv2.toArray wn2) :: tl2, D9, us9, 0) F6 N6 (by kst_allIn) (by kst_allIn) ?wf2 ?wf3 ⟨⟨done, cur ++ [kn], ?wf4, hi9, htot⟩, ?wf5, ?wf6, ?wf7, ?wf8⟩
        case wf3 => kst_all
        case wf4 => exact hdone.mono fun v p h => h.mono fun x hx => by rcases List.mem_append.mp hx with hx | hx <;> simp [hx]
        case wf7 => dsimp only; kst_p2
        case wf8 => dsimp only; rw [hi9.length, List.length_append, ← hcur.length, List.length_singleton]; kst_p2
        case wf5 =>
          refine Mine.fmc (hlw2) (fun p hp => ?_)
          · exact htl2 p hp
        case wf6 => exact ⟨l9 (lI, listOf iv2.toArray ni2) (by simp), Nat.ne_of_gt (l9 (it, o) (by simp))⟩
        case wf2 =>
          intro p hp e
          have e2 := List.mem_singleton.mp e
          dsimp only at hp
          (try k_fold)
          rcases List.mem_cons.mp hp with rfl | hp
          · exact hit2 _ (.head _) e2
          (try k_fold)
          rcases List.mem_cons.mp hp with rfl | hp
          · exact hit2 (it, o) (.tail _ (.head _)) e2
          (try k_fold)
          rcases List.mem_cons.mp hp with rfl | hp
          · exact hit2 (lI, _) (.tail _ (.tail _ (.head _))) e2
          (try k_fold)
          rcases List.mem_cons.mp hp with rfl | hp
          · exact Nat.ne_of_gt (l9 (it2, o2) (by simp)) e2
          rcases List.mem_append.mp hp with hp | hp
          · exact hit2 p (.tail _ (.tail _ (.tail _ (.tail _ (List.mem_append_left _ hp))))) e2
          (try k_fold)
          rcases List.mem_cons.mp hp with rfl | hp
          · exact hit2 (wa2, _) (.tail _ (.tail _ (.tail _ (.head _)))) e2
          · exact hit2 p (.tail _ (.tail _ (.tail _ (.tail _ (List.mem_append_right _ hp))))) e2
end
end Mine
end TCitems

section TCdrawn
open PySem PySem.W PyProof.Rows PySem.Spec PySem.Calls
set_option Elab.async false
set_option maxRecDepth 100000
set_option maxHeartbeats 4000000
set_option linter.unusedVariables false
set_option linter.unusedSimpArgs false

namespace Mine
theorem cs4 {P : Int → Prop} {a b c d : Prop} (h0 : a → P 0) (h1 : b → P 1) (h2 : c → P 2) (h3 : d → P 3) : ∀ x, (a ∧ x = 0 ∨ b ∧ x = 1 ∨ c ∧ x = 2 ∨ d ∧ x = 3) → P x := by
  rintro x (⟨k, rfl⟩ | ⟨k, rfl⟩ | ⟨k, rfl⟩ | ⟨k, rfl⟩)
  · exact h0 k
  · exact h1 k
  · exact h2 k
  · exact h3 k
theorem cs3 {P : Int → Prop} {a b c : Prop} (h0 : a → P 0) (h1 : b → P 1) (h2 : c → P 2) : ∀ x, (a ∧ x = 0 ∨ b ∧ x = 1 ∨ c ∧ x = 2) → P x := by
  rintro x (⟨k, rfl⟩ | ⟨k, rfl⟩ | ⟨k, rfl⟩)
  · exact h0 k
  · exact h1 k
  · exact h2 k
noncomputable def kOf (n : Nat) : Nat := n % 4
noncomputable def jOf (n : Nat) : Nat := n / 4 % 3
noncomputable def leadS (n : Nat) : Str := ⟨(leadOf (kOf n) (jOf n)).toArray⟩
inductive RowT (news : List (Addr × Obj)) (v : Value) (n : Nat) : Prop
  | mk (t tk wl ta tb wn) : v = .ref t → (t, tupO [.str (leadS n) tk, .ref wl]) ∈ news → (wl, listOf (List.toArray [.int ((n / 12 % 2 : Nat) : Int) ta, .int ((n / 24 % 4 : Nat) : Int) tb]) wn) ∈ news → RowT news v n
theorem RowT.mono {news news' : List (Addr × Obj)} {v : Value} {n : Nat} (h : RowT news v n) (hs : ∀ q ∈ news, q ∈ news') : RowT news' v n := by
  obtain ⟨t, tk, wl, ta, tb, wn, e, h1, h2⟩ := h
  exact ⟨t, tk, wl, ta, tb, wn, e, hs _ h1, hs _ h2⟩
theorem fmod_nat (a b : Nat) : Int.fmod (a : Int) (b : Int) = ((a % b : Nat) : Int) := by rw [Int.fmod_eq_emod_of_nonneg _ (by kst_p2)]; rfl
theorem fdiv_nat (a b : Nat) : Int.fdiv (a : Int) (b : Int) = ((a / b : Nat) : Int) := by rw [Int.fdiv_eq_ediv_of_nonneg _ (by kst_p2)]; rfl
theorem fdm (n a b : Nat) : Int.fmod (Int.fdiv (n : Int) (a : Int)) (b : Int) = ((n / a % b : Nat) : Int) := by rw [fdiv_nat, fmod_nat]
theorem fdm43 (n : Nat) : (Int.fdiv (n : Int) 4).fmod 3 = ((n / 4 % 3 : Nat) : Int) := fdm n 4 3
theorem fdm122 (n : Nat) : (Int.fdiv (n : Int) 12).fmod 2 = ((n / 12 % 2 : Nat) : Int) := fdm n 12 2
theorem fdm244 (n : Nat) : (Int.fdiv (n : Int) 24).fmod 4 = ((n / 24 % 4 : Nat) : Int) := fdm n 24 4
theorem fm4 (n : Nat) : Int.fmod (n : Int) 4 = ((n % 4 : Nat) : Int) := fmod_nat n 4
theorem add_lead {prog : Program} {w : World} {A : Around} {E : Value → Shared → Prop} {s : Shared} {x y z : Str} {t u : Tok} {Q : Value → Shared → Prop} (hz : x ++ y = z) (hsz : x.length + y.length ≤ sizeLine) (h : ∀ t' tk, Q (.str z t') { s with toks := tk }) : wpAny (model prog w) A (binaryOp .Add (.str x t) (.str y u)) Q E s := by
  (try k_fold)
  subst hz
  exact add_str (hsz := hsz) h
section
variable {w : World} {mean : ExcName → Option Value} {mg mb : Str → Option Value} {dp un : Nat} {gd : Option (List Code)} {cn : Str} {cs : Scope} {a : Addr} {ccd : Value} {cl : List (Str × Addr)} {outer : List Env} {A₀ : Around} {base h₀ : Heap} {L : Addr} {m : Str → Option Value} {news : List (Addr × Obj)} {s : Shared} {Q E : Value → Shared → Prop}

theorem drawn_spec (C : Cx w mean mg mb cs outer A₀ base h₀ L m news s) {ns : List Nat} (hd1 : dp + 5 < recursionLimit) (hu : un + 100 < cLine) {nl : Addr} {nv : List Value} {nn : Nat} (hnl : (nl, listOf nv.toArray nn) ∈ news) (hns : IntsAre nv (List.map (fun y : Nat => (y : Int)) ns)) (hlen : ns.length ≤ 8)
    (hret : ∀ c us n tl h' tk', Fr h₀ L h' m → News h₀ L h' (tl ++ news) → (∀ p ∈ tl, ∀ q ∈ news, q.1 < p.1) → (c, listOf us.toArray n) ∈ tl → Items (RowT tl) us ns → Q (.ref c) { s with heap := h', toks := tk' }) :
    wpAny (model PySem.Challenge.rw_ti0073_01.row.prog w) (ktrTop dp un gd cn cs L a ccd cl outer) (call (.ref 265) [.ref nl]) Q E s := by
  w_top off
  obtain ⟨B, F, X, N, T, hk⟩ := C
  revert X
  k_fill
  intro X
  k_dflt (refine' enter (binds := [(Str.ofString "numbers", .ref nl)]) B F X N T hk ?k6 ?k7 ?k8 ?k9 ?kB ?_ ?c2 ?c3 ?c4 ?c5; (case k6 => k_is); (case k7 => k_is); (case k8 => kst_p2); (case k9 => exact BindsTo.of_eq rfl); (case c5 => decide); (case kB => exact locs rfl); (case c2 => exact rfl); (case c3 => exact rfl); (case c4 => exact rfl))
  intro gH LF hF FG F1 N1 B1 X1 T1 lL
  simp only [List.reverse_cons, List.reverse_nil, List.nil_append, List.cons_append] at F1
  (try k_fold)
  (try (with_reducible refine (let A9 : PySem.Around := _; let e9 : PySem.Env := _; (?_ : PySem.wpAny _ A9 (PySem.execs _ e9) _ _ _))))
  w_strict repeat' ((fail_if_success (with_reducible show wpAny _ _ (exec (Stmt.For _ _ _ _ _) _) _ _ _)); kla_enter)
  refine wpAny_For ?_
  w_strict repeat' ((fail_if_success (with_reducible show wpAny _ _ (pyIter _) _ _ _)); kla_enter)
  rename Fr gH LF _ _ => F2
  rename News gH LF _ _ => N2
  rename_i lI _ lcI _
  have hpl : nv.length = ns.length := by rw [hns.length, List.length_map]
  refine' forl (L := LF) (vs := nv) (σ := List Value × Nat × List (Addr × Obj)) (fun _ => s.gens) (fun c => (lI, listOf c.1.toArray c.2.1) :: (c.2.2 ++ news)) (fun c => [(Str.ofString "numbers", .ref nl), (Str.ofString "rows", .ref lI)])
    (fun i c => Items (RowT c.2.2) c.1 (ns.take i) ∧ (∀ p ∈ c.2.2, lI < p.1) ∧ c.1.length ≤ i) ([], 0, []) rfl rfl (fun c => List.mem_cons_of_mem _ (List.mem_append_right _ hnl)) rfl F2 (nsub N2 ?mn1) ?mk1 ?mp1 ?mt1 ?md1
  case mn1 => kst_allIn
  case mk1 => kst_all
  case mp1 => exact ⟨.nil, by simp, Nat.zero_le _⟩
  case md1 =>
    (try k_fold)
    first | (refine Mine.poxxxc ?_; intro iv ni tl) | (rintro ⟨iv, ni, tl⟩)
    rintro u h2 tk2 h9Q1 F3 N3
    obtain ⟨hit, htl, -⟩ := h9Q1
    dsimp only at hit htl F3 N3 ⊢
    w_strict repeat' kla_enter
    rw [List.take_of_length_le (by kst_p2)] at hit
    refine hret lI iv ni ((lI, listOf iv.toArray ni) :: tl) _ _ (by assumption) (by assumption) ?_ (.head _) (hit.mono fun v p h => h.mono fun q hq => List.mem_cons_of_mem _ hq)
    intro p hp q hq
    (try k_fold)
    rcases List.mem_cons.mp hp with rfl | hp
    · exact lcI q hq
    · exact Nat.lt_trans (lcI q hq) (htl p hp)
  case mt1 =>
    rintro i
    (try k_fold)
    first | (refine Mine.poxxxc ?_; intro iv ni tl) | (rintro ⟨iv, ni, tl⟩)
    rintro v u h3 tk3 it o hi hv h9Q1 hit F3 N3
    obtain ⟨hiv, htl, hil⟩ := h9Q1
    dsimp only at hiv htl hil hit F3 N3 ⊢
    (try k_fold)
    first | (refine Mine.ex_2 (ints_at hns i v hv) ?_; rintro kn tn h9E; refine Mine.cj_2 h9E ?_; clear h9E; rintro hkn rfl) | (obtain ⟨kn, tn, hkn, rfl⟩ := ints_at hns i v hv)
    (try k_fold)
    obtain ⟨n, hn, rfl⟩ : ∃ n, ns[i]? = some n ∧ (n : Int) = kn := by simpa using hkn
    w_strict repeat' ((fail_if_success (with_reducible show wpAny _ _ (exec (Stmt.Assign _ _ _) _) _ _ _)); kla_enter)
    refine wpAny_mono (E := fun _ _ => False) (Q := fun f s₂ => Hold (f = .next ∧ ∃ t9 h' tk', s₂ = { s with heap := h', toks := tk' } ∧ Fr gH LF h' (kstB u ([(Str.ofString "lead", .str (leadS n) t9), (Str.ofString "number", .int n tn), (Str.ofString "numbers", .ref nl), (Str.ofString "rows", .ref lI)])) ∧ News gH LF h' ((it, o) :: (lI, listOf iv.toArray ni) :: (tl ++ news)))) ?_ (Mine.hq_3 ?_) fun _ _ x => x
    case refine_1 =>
      w_strict repeat' ((fail_if_success (with_reducible show wpAny _ _ (subscriptTail _ _ _ _) _ _ _)); kla_enter)
      (try k_fold)
      obtain ⟨x4, e4, hx4⟩ : ∃ x : Int, ((n : Int)).fmod 4 = x ∧ (n % 4 = 0 ∧ x = 0 ∨ n % 4 = 1 ∧ x = 1 ∨ n % 4 = 2 ∧ x = 2 ∨ n % 4 = 3 ∧ x = 3) := ⟨_, rfl, by rw [fm4]; kst_p2⟩
      rw [e4]
      clear e4
      revert x4
      refine Mine.cs4 ?_ ?_ ?_ ?_ <;> intro hk
      all_goals (
        w_strict repeat' ((fail_if_success (with_reducible show wpAny _ _ (binaryOp .Mult _ _) _ _ _)); kla_enter)
        (try k_fold)
        obtain ⟨x3, e3, hx3⟩ : ∃ x : Int, (((n : Int)).fdiv 4).fmod 3 = x ∧ (n / 4 % 3 = 0 ∧ x = 0 ∨ n / 4 % 3 = 1 ∧ x = 1 ∨ n / 4 % 3 = 2 ∧ x = 2) := ⟨_, rfl, by rw [fdm43]; kst_p2⟩
        rw [e3]
        clear e3
        revert x3
        refine Mine.cs3 ?_ ?_ ?_ <;> intro hj)
      all_goals (
        refine KXi.mul (n := 1) (by decide +kernel) (by decide) (by decide) (by decide) ?_
        intro t9 k9 _ _
        refine add_lead (z := leadS n) (by unfold leadS kOf jOf; rw [hk, hj]; decide +kernel) (by rw [sizeLine_eq]; decide +kernel) ?_
        intro t8 k8
        w_strict repeat' kla_enter
        rename Fr gH LF _ _ => F6
        rename News gH LF _ _ => N6
        exact ⟨⟨by first | trivial | rfl, _, _, _, rfl, F6, nsub N6 (by kst_allIn)⟩⟩)
    case refine_2 =>
      intro t9 h' tk' h9E
      refine Mine.cj_2 h9E ?_
      clear h9E
      intro F4 N4
      (try dsimp only)
      w_strict repeat' ((fail_if_success (with_reducible show wpAny _ _ (call (.builtin "list.append") _) _ _ _)); kla_enter)
      rename Fr gH LF _ _ => F5
      rename News gH LF _ _ => N5
      rename_i wA _ lw tA _ lt
      have hlw := ltN (lw.2.1 : lI < wA)
      (try k_fold)
      first | (refine Mine.ex_3 (show ∃ tk9 ta tb, News gH LF _ ((tA, tupO [.str (leadS n) tk9, .ref wA]) :: (wA, listOf (List.toArray [.int (((n : Int).fdiv 12).fmod 2) ta, .int (((n : Int).fdiv 24).fmod 4) tb]) 0) :: (it, o) :: (lI, listOf iv.toArray ni) :: (tl ++ news)) from ⟨_, _, _, N5⟩) ?_; rintro tk9 ta tb N6) | (obtain ⟨tk9, ta, tb, N6⟩ : ∃ tk9 ta tb, News gH LF _ ((tA, tupO [.str (leadS n) tk9, .ref wA]) :: (wA, listOf (List.toArray [.int (((n : Int).fdiv 12).fmod 2) ta, .int (((n : Int).fdiv 24).fmod 4) tb]) 0) :: (it, o) :: (lI, listOf iv.toArray ni) :: (tl ++ news)) := ⟨_, _, _, N5⟩)
      clear N5
      rw [fdm122, fdm244] at N6
      refine my_append (rest := (tA, tupO [.str (leadS n) tk9, .ref wA]) :: (wA, listOf (List.toArray [.int ((n / 12 % 2 : Nat) : Int) ta, .int ((n / 24 % 4 : Nat) : Int) tb]) 0) :: (it, o) :: (tl ++ news)) F5 N6 (vs := iv) (n := ni) ?ap1 ?ap2 ?ap3 ?_
      case ap3 => rw [sizeLine_eq]; kst_p2
      case ap1 => kst_allIn
      case ap2 =>
        refine Mine.fmc (Nat.ne_of_gt lt.2.2.1) (Mine.fmc (Nat.ne_of_gt lw.2.1) (Mine.fmc (Ne.symm (hit (lI, listOf iv.toArray ni) (.head _))) (fun p hp => ?_)))
        rcases List.mem_append.mp hp with hp | hp
        · exact Nat.ne_of_gt (htl p hp)
        · exact Nat.ne_of_lt (lcI p hp)
      intro h9 F9 N9
      w_strict repeat' kla_enter
      rename Fr gH LF _ _ => F7
      rename News gH LF _ _ => N7
      refine' fend (iv ++ [.ref tA], ni + 1, (tA, tupO [.str (leadS n) tk9, .ref wA]) :: (wA, listOf (List.toArray [.int ((n / 12 % 2 : Nat) : Int) ta, .int ((n / 24 % 4 : Nat) : Int) tb]) 0) :: tl) F7 N7 (by kst_allIn) (by kst_allIn) ?wf2 ?wf3 ⟨?wf4, ?wf5, ?wf6⟩
      case wf3 => kst_all
      case wf4 =>
        dsimp only
        rw [List.take_add_one, hn, Option.toList_some]
        exact Items.snoc (hiv.mono fun v p h => h.mono fun x hx => by simp [hx]) ⟨tA, tk9, wA, ta, tb, 0, rfl, by simp, by simp⟩
      case wf6 => dsimp only; rw [List.length_append, List.length_singleton]; kst_p2
      case wf5 =>
        refine Mine.fmc (lt.2.2.1) (Mine.fmc (lw.2.1) (fun p hp => ?_))
        · exact htl p hp
      case wf2 =>
        intro p hp e
        have e2 := List.mem_singleton.mp e
        dsimp only at hp
        (try k_fold)
        rcases List.mem_cons.mp hp with rfl | hp
        · exact hit (lI, listOf iv.toArray ni) (.head _) e2
        (try k_fold)
        rcases List.mem_cons.mp hp with rfl | hp
        · exact Nat.ne_of_gt lt.2.1 e2
        (try k_fold)
        rcases List.mem_cons.mp hp with rfl | hp
        · exact Nat.ne_of_gt lw.1 e2
        · exact hit p (.tail _ hp) e2
end
end Mine
end TCdrawn

section TCrowp
open PySem PySem.W PyProof.Rows PySem.Spec PySem.Calls
set_option Elab.async false
set_option maxRecDepth 100000
set_option maxHeartbeats 4000000
set_option linter.unusedVariables false
set_option linter.unusedSimpArgs false

namespace Mine
noncomputable def wordS : Nat → Str
  | 0 => Str.ofString "a+=b"
  | 1 => Str.ofString "b+=a"
  | 2 => Str.ofString "@@::"
  | _ => Str.ofString "@@@:"
noncomputable def endS (n : Nat) : Str := if n % 7 = 0 then Str.ofString "," else Str.ofString ";"
noncomputable def chunk1 (n : Nat) : Str := wordS (n / 12 % 2) ++ endS n
noncomputable def chunk2 (n : Nat) : Str := wordS (n / 24 % 4) ++ Str.ofString ";"
noncomputable def Parted (wd n : Nat) : Bool := decide (n % 7 ≠ 0) && decide (wd < 2 * (leadS n).length + 10)
noncomputable def rowLines (wd n : Nat) : List Str :=
  if Parted wd n = true then [strOf [(leadS n, chunk1 n)], strOf [(leadS n, chunk2 n)]] else [strOf [(leadS n, chunk1 n), (leadS n, chunk2 n)]]
noncomputable def ppsAt (wd n : Nat) : Nat → List (Str × Str)
  | 0 => []
  | 1 => [(leadS n, chunk1 n)]
  | _ => if Parted wd n = true then [(leadS n, chunk2 n)] else [(leadS n, chunk1 n), (leadS n, chunk2 n)]
noncomputable def linesAt (wd n : Nat) : Nat → List Str
  | 2 => if Parted wd n = true then [strOf [(leadS n, chunk1 n)]] else []
  | _ => []
noncomputable def LD (k j : Nat) : Str := ⟨(leadOf k j).toArray⟩
noncomputable def EN (e : Nat) : Str := if e = 0 then Str.ofString "," else Str.ofString ";"
noncomputable def ccOf (n : Nat) : Nat := if n % 7 = 0 then 44 else 59
theorem lead_fin : ∀ k, k < 4 → ∀ j, j < 3 → PyData.strOk (LD k j) = true ∧ (LD k j).length = k + j := by decide +kernel
theorem word_fin : ∀ a, a < 4 → ∀ e, e < 2 → PyData.strOk (wordS a ++ EN e) = true ∧ (wordS a ++ EN e).length = 5 ∧ Txt.item (wordS a ++ EN e) (-1) = ⟨#[if e = 0 then 44 else 59]⟩ := by decide +kernel
theorem space_fin : ∀ k, k < 4 → ∀ j, j < 3 → ∀ b, b < 4 → Txt.isspace (strOf [(LD k j, wordS b ++ EN 1)]) = false ∧ ∀ a, a < 2 → ∀ e, e < 2 → Txt.isspace (strOf [(LD k j, wordS a ++ EN e), (LD k j, wordS b ++ EN 1)]) = false := by decide +kernel
theorem endS_EN (n : Nat) : endS n = EN (if n % 7 = 0 then 0 else 1) := by unfold endS EN; split <;> rfl
theorem leadS_LD (n : Nat) : leadS n = LD (n % 4) (n / 4 % 3) := rfl
theorem lead_ok (n : Nat) : PyData.strOk (leadS n) = true ∧ (leadS n).length ≤ 5 := by
  have := lead_fin (n % 4) (Nat.mod_lt _ (by decide)) (n / 4 % 3) (Nat.mod_lt _ (by decide))
  rw [leadS_LD]
  have h1 : n % 4 < 4 := Nat.mod_lt _ (by decide)
  have h2 : n / 4 % 3 < 3 := Nat.mod_lt _ (by decide)
  exact ⟨this.1, by kst_p2⟩
theorem chunk1_ok (n : Nat) : PyData.strOk (chunk1 n) = true ∧ (chunk1 n).length = 5 ∧ Txt.item (chunk1 n) (-1) = ⟨#[ccOf n]⟩ := by
  unfold chunk1 ccOf
  rw [endS_EN]
  have := word_fin (n / 12 % 2) (by kst_p2) (if n % 7 = 0 then 0 else 1) (by split <;> decide)
  refine ⟨this.1, this.2.1, ?_⟩
  rw [this.2.2]
  split <;> rfl
theorem chunk2_ok (n : Nat) : PyData.strOk (chunk2 n) = true ∧ (chunk2 n).length = 5 := by
  have := word_fin (n / 24 % 4) (by kst_p2) 1 (by decide)
  exact ⟨this.1, this.2.1⟩
theorem row_space (wd n : Nat) : Txt.isspace (strOf (ppsAt wd n 2)) = false := by
  have := space_fin (n % 4) (by kst_p2) (n / 4 % 3) (by kst_p2) (n / 24 % 4) (by kst_p2)
  show Txt.isspace (strOf (if Parted wd n = true then _ else _)) = false
  split
  · exact this.1
  · have h2 := this.2 (n / 12 % 2) (by kst_p2) (if n % 7 = 0 then 0 else 1) (by split <;> decide)
    unfold chunk1
    rw [endS_EN]
    exact h2
theorem row_end (wd n : Nat) : ∃ pps, ppsAt wd n 2 = pps ++ [(leadS n, chunk2 n)] := by
  show ∃ pps, (if Parted wd n = true then _ else _) = _
  split
  · exact ⟨[], rfl⟩
  · exact ⟨[_], rfl⟩
theorem row_lines (wd n : Nat) : linesAt wd n 2 ++ [strOf (ppsAt wd n 2)] = rowLines wd n := by
  show (if Parted wd n = true then _ else _) ++ [strOf (if Parted wd n = true then _ else _)] = _
  unfold rowLines
  by_cases h : Parted wd n = true
  · rw [if_pos h, if_pos h, if_pos h]; rfl
  · rw [if_neg h, if_neg h, if_neg h]; rfl
end Mine
end TCrowp

section TPsplit
open PySem PySem.W PyProof.Rows PySem.Spec PySem.Calls
set_option linter.unusedVariables false
namespace Mine
noncomputable def joinN : List (List Nat) → List Nat
  | [] => []
  | [x] => x
  | x :: y :: r => x ++ 10 :: joinN (y :: r)
noncomputable def cutN : List Nat → List (List Nat)
  | [] => [[]]
  | c :: r => match cutN r with
    | [] => [[]]
    | p :: q => if c = 10 then [] :: p :: q else (c :: p) :: q
theorem cut_ne (x : List Nat) : cutN x ≠ [] := by
  cases x with
  | nil => simp [cutN]
  | cons c r =>
    unfold cutN
    cases cutN r with
    | nil => simp
    | cons p q => dsimp only; split <;> simp
theorem cut_free : ∀ x : List Nat, 10 ∉ x → cutN x = [x]
  | [], _ => rfl
  | c :: r, h => by
    have h1 : c ≠ 10 := fun e => h (e ▸ List.mem_cons_self ..)
    have h2 := cut_free r fun e => h (List.mem_cons_of_mem _ e)
    unfold cutN
    rw [h2]
    simp [h1]
theorem cut_cons : ∀ x r : List Nat, 10 ∉ x → cutN (x ++ 10 :: r) = x :: cutN r
  | [], r, _ => by
    show cutN (10 :: r) = _
    rw [cutN]
    cases e : cutN r with
    | nil => exact absurd e (cut_ne r)
    | cons p q => rfl
  | c :: x, r, h => by
    have h1 : c ≠ 10 := fun e => h (e ▸ List.mem_cons_self ..)
    have h2 := cut_cons x r fun e => h (List.mem_cons_of_mem _ e)
    show cutN (c :: (x ++ 10 :: r)) = _
    rw [cutN, h2]
    simp [h1]
theorem cut_join : ∀ l : List (List Nat), l ≠ [] → (∀ x ∈ l, 10 ∉ x) → cutN (joinN l) = l
  | [], h, _ => absurd rfl h
  | [x], _, h => cut_free x (h x (.head _))
  | x :: y :: r, _, h => by
    show cutN (x ++ 10 :: joinN (y :: r)) = _
    rw [cut_cons _ _ (h x (.head _)), cut_join (y :: r) (by simp) fun z hz => h z (.tail _ hz)]
theorem join_cps : ∀ xs : List Str, (Str.join ⟨#[10]⟩ xs).cps.toList = joinN (xs.map (·.cps.toList))
  | [] => rfl
  | [x] => rfl
  | x :: y :: r => by
    show (x ++ ⟨#[10]⟩ ++ Str.join ⟨#[10]⟩ (y :: r)).cps.toList = x.cps.toList ++ 10 :: joinN ((y :: r).map (·.cps.toList))
    rw [← join_cps (y :: r)]
    show (x.cps ++ #[10] ++ (Str.join ⟨#[10]⟩ (y :: r)).cps).toList = _
    simp
theorem split_join (xs : List Str) (h0 : xs ≠ []) (h : ∀ x ∈ xs, 10 ∉ x.cps.toList) : Txt.split (Txt.join ⟨#[10]⟩ xs) ⟨#[10]⟩ = xs := by
  have e1 : Txt.join ⟨#[10]⟩ xs = Str.join ⟨#[10]⟩ xs := StrLaws.glued_eq_join _ _
  rw [e1]
  have e2 := StrLaws.join_split (Str.join ⟨#[10]⟩ xs) ⟨#[10]⟩
  have h2 := StrLaws.split_free (Str.join ⟨#[10]⟩ xs) 10
  generalize hY : Txt.split (Str.join ⟨#[10]⟩ xs) ⟨#[10]⟩ = Y at e2 h2
  have n2 : Y ≠ [] := by
    rintro rfl
    unfold Txt.split at hY
    split at hY
    · cases hY
    · split at hY
      · cases hY
      · have := congrArg List.length hY
        rw [len_partsBetween] at this
        simp at this
  have e3 : cutN (Str.join ⟨#[10]⟩ Y).cps.toList = cutN (Str.join ⟨#[10]⟩ xs).cps.toList := by rw [e2]
  rw [join_cps, join_cps, cut_join _ (by simpa using n2), cut_join _ (by simpa using h0)] at e3
  · refine (List.map_inj_right fun a b e => ?_).mp e3
    cases a; cases b
    simp at e
    rw [e]
  · intro x hx
    obtain ⟨y, hy, rfl⟩ := List.mem_map.mp hx
    exact h y hy
  · intro x hx
    obtain ⟨y, hy, rfl⟩ := List.mem_map.mp hx
    exact h2 y hy
noncomputable def good (x : Str) : Bool := !(x.cps.toList.contains 10) && decide (x.length ≤ 20)
theorem good_of {x : Str} (h : good x = true) : 10 ∉ x.cps.toList ∧ x.length ≤ 20 := by
  unfold good at h
  simpa using h
theorem line_fin : ∀ k, k < 4 → ∀ j, j < 3 → ∀ b, b < 4 → (∀ e, e < 2 → good (strOf [(LD k j, wordS b ++ EN e)]) = true) ∧ ∀ a, a < 2 → ∀ e, e < 2 → good (strOf [(LD k j, wordS a ++ EN e), (LD k j, wordS b ++ EN 1)]) = true := by decide +kernel
theorem row_good (wd n : Nat) : (rowLines wd n).length ≤ 2 ∧ rowLines wd n ≠ [] ∧ ∀ x ∈ rowLines wd n, 10 ∉ x.cps.toList ∧ x.length ≤ 20 := by
  have hA := line_fin (n % 4) (by kst_p2) (n / 4 % 3) (by kst_p2) (n / 24 % 4) (by kst_p2)
  have hB := line_fin (n % 4) (by kst_p2) (n / 4 % 3) (by kst_p2) (n / 12 % 2) (by kst_p2)
  have h1 := hB.1 (if n % 7 = 0 then 0 else 1) (by split <;> decide)
  have h2 := hA.1 1 (by decide)
  have h3 := hA.2 (n / 12 % 2) (by kst_p2) (if n % 7 = 0 then 0 else 1) (by split <;> decide)
  rw [← endS_EN] at h1 h3
  unfold rowLines
  split
  · refine ⟨by simp, by simp, fun x hx => ?_⟩
    simp only [List.mem_cons, List.not_mem_nil, or_false] at hx
    rcases hx with rfl | rfl
    · exact good_of h1
    · exact good_of h2
  · refine ⟨by simp, by simp, fun x hx => ?_⟩
    simp only [List.mem_cons, List.not_mem_nil, or_false] at hx
    subst hx
    exact good_of h3
theorem page_good (wd : Nat) (ns : List Nat) : (ns.flatMap (rowLines wd)).length ≤ 2 * ns.length ∧ ∀ x ∈ ns.flatMap (rowLines wd), 10 ∉ x.cps.toList ∧ x.length ≤ 20 := by
  refine ⟨?_, fun x hx => ?_⟩
  · induction ns with
    | nil => exact Nat.le_refl _
    | cons n r ih =>
      rw [List.flatMap_cons, List.length_append, List.length_cons]
      have := (row_good wd n).1
      kst_p2
  · obtain ⟨n, hn, hx⟩ := List.mem_flatMap.mp hx
    exact (row_good wd n).2.2 x hx
theorem page_split (wd : Nat) (ns : List Nat) (h : ns.length = 4) : Txt.split (Txt.join (Str.ofString "\n") (ns.flatMap (rowLines wd))) (Str.ofString "\n") = ns.flatMap (rowLines wd) := by
  refine split_join _ ?_ fun x hx => ((page_good wd ns).2 x hx).1
  cases ns with
  | nil => simp at h
  | cons n r =>
    rw [List.flatMap_cons]
    intro e
    exact (row_good wd n).2.1 (List.append_eq_nil_iff.mp e).1
theorem page_sum (wd : Nat) (ns : List Nat) (h : ns.length = 4) : ((ns.flatMap (rowLines wd)).map (·.length)).sum + (ns.flatMap (rowLines wd)).length ≤ 10000 := by
  have h1 := (page_good wd ns).1
  have h2 := sum_le200 ((ns.flatMap (rowLines wd)).map (·.length)) (fun x hx => by
    obtain ⟨y, hy, rfl⟩ := List.mem_map.mp hx
    have := ((page_good wd ns).2 y hy).2
    kst_p2)
  rw [List.length_map] at h2
  kst_p2
theorem page_join (wd : Nat) (ns : List Nat) (h : ns.length = 4) : (Txt.join (Str.ofString "\n") (ns.flatMap (rowLines wd))).length ≤ 10000 := by
  have h1 : Txt.join (Str.ofString "\n") (ns.flatMap (rowLines wd)) = Str.join (Str.ofString "\n") (ns.flatMap (rowLines wd)) := StrLaws.glued_eq_join _ _
  have h2 := StrLaws.join_length_le (Str.ofString "\n") (ns.flatMap (rowLines wd))
  have h3 := page_sum wd ns h
  rw [h1]
  rw [show (Str.ofString "\n").length = 1 from rfl] at h2
  kst_p2
end Mine
end TPsplit

section TCtyped
open PySem PySem.W PyProof.Rows PySem.Spec PySem.Calls
set_option Elab.async false
set_option maxRecDepth 100000
set_option maxHeartbeats 4000000
set_option linter.unusedVariables false
set_option linter.unusedSimpArgs false

namespace Mine
structure TSt where
  n : Nat
  t2 : Tok
  ps : Array Value
  ps2 : Array Value
  k : Nat
  g : Array GenState
  parts : List Value
  pps : List (Str × Str)
  lines : List Value
  tl : List (Addr × Obj)
theorem StrsAre.snoc {vs : List Value} {xs : List Str} {x : Str} {t : Tok} (h : StrsAre vs xs) : StrsAre (vs ++ [.str x t]) (xs ++ [x]) := by
  induction h with
  | nil => exact .cons _ _ .nil
  | cons _ _ _ ih => exact .cons _ _ ih
theorem strs_at {vs : List Value} {xs : List Str} (h : StrsAre vs xs) : ∀ (i : Nat) (v : Value), vs[i]? = some v → ∃ x t, xs[i]? = some x ∧ v = .str x t := by
  induction h with
  | nil => intro i v hv; simp at hv
  | cons y t _ ih =>
    intro i v hv
    cases i with
    | zero =>
      rw [List.getElem?_cons_zero] at hv
      (try k_fold)
      refine Mine.gk ?_
      intro Gz9 kz9
      (try k_fold)
      cases hv
      all_goals (try (refine kz9 ?_; (try clear kz9 Gz9)))
      exact ⟨y, t, rfl, rfl⟩
    | succ i => exact ih i v (by simpa using hv)
noncomputable def chAt (n i : Nat) : Str := if i = 0 then chunk1 n else chunk2 n
theorem pps2_f {wd n : Nat} (h : Parted wd n = false) : ppsAt wd n 2 = [(leadS n, chunk1 n), (leadS n, chunk2 n)] := by
  show (if Parted wd n = true then _ else _) = _
  rw [h]; rfl
theorem pps2_t {wd n : Nat} (h : Parted wd n = true) : ppsAt wd n 2 = [(leadS n, chunk2 n)] := by
  show (if Parted wd n = true then _ else _) = _
  rw [h]; rfl
theorem lines2_f {wd n : Nat} (h : Parted wd n = false) : linesAt wd n 2 = [] := by
  show (if Parted wd n = true then _ else _) = _
  rw [h]; rfl
theorem lines2_t {wd n : Nat} (h : Parted wd n = true) : linesAt wd n 2 = [strOf [(leadS n, chunk1 n)]] := by
  show (if Parted wd n = true then _ else _) = _
  rw [h]; rfl
theorem parted_t {wd n : Nat} (h : wd < 2 * (leadS n).length + 10) (h2 : ccOf n = 59) : Parted wd n = true := by
  have : n % 7 ≠ 0 := by
    intro e
    unfold ccOf at h2
    rw [if_pos e] at h2
    exact absurd h2 (by decide)
  unfold Parted
  rw [decide_eq_true this, decide_eq_true h]
  rfl
theorem parted_f {wd n : Nat} (h2 : ccOf n ≠ 59) : Parted wd n = false := by
  have : ¬ n % 7 ≠ 0 := by
    intro e
    unfold ccOf at h2
    rw [if_neg e] at h2
    exact absurd rfl h2
  unfold Parted
  rw [decide_eq_false this]
  rfl
theorem typed_ww {ac da ls tc z T O j1 j2 : Addr} {oa od o1 o2 ol oa' od' o1' o2' ol' ot : Obj} {R : List (Addr × Obj)} (hw : ∀ p ∈ (ac, oa) :: (da, od) :: (140, o1) :: (147, o2) :: (ls, ol) :: R, p.1 ∉ [z, T, O, j1, j2]) {oz oT oO p1 p2 : Obj}
    (lc : ∀ q ∈ [(z, oz), (T, oT), (O, oO), (j1, p1), (j2, p2)] ++ R, q.1 < tc) : ∀ p ∈ (ac, oa') :: (da, od') :: (140, o1') :: (147, o2') :: (ls, ol') :: (tc, ot) :: R, p.1 ∉ [z, T, O, j1, j2] := by
  refine Mine.fmc (hw (ac, oa) (.head _)) (Mine.fmc (hw (da, od) (.tail _ (.head _))) (Mine.fmc (hw (140, o1) (.tail _ (.tail _ (.head _)))) (Mine.fmc (hw (147, o2) (.tail _ (.tail _ (.tail _ (.head _))))) (Mine.fmc (hw (ls, ol) (.tail _ (.tail _ (.tail _ (.tail _ (.head _)))))) (fun q hq => ?_)))))
  (try k_fold)
  rcases List.mem_cons.mp hq with rfl | hq
  · intro hm
    simp only [List.mem_cons, List.not_mem_nil, or_false] at hm
    have e1 := lc (z, oz) (.head _)
    have e2 := lc (T, oT) (.tail _ (.head _))
    have e3 := lc (O, oO) (.tail _ (.tail _ (.head _)))
    have e4 := lc (j1, p1) (.tail _ (.tail _ (.tail _ (.head _))))
    have e5 := lc (j2, p2) (.tail _ (.tail _ (.tail _ (.tail _ (.head _)))))
    (try k_fold)
    refine Mine.gk ?_
    intro Gz9 kz9
    rcases hm with e | e | e | e | e
    all_goals (try (refine kz9 ?_; (try clear kz9 Gz9)))
    · exact Nat.ne_of_gt e1 e
    · exact Nat.ne_of_gt e2 e
    · exact Nat.ne_of_gt e3 e
    · exact Nat.ne_of_gt e4 e
    · exact Nat.ne_of_gt e5 e
  · exact hw q (.tail _ (.tail _ (.tail _ (.tail _ (.tail _ hq)))))
theorem chAt0 (n : Nat) : chAt n 0 = chunk1 n := by unfold chAt; rw [if_pos rfl]
theorem chAt1 (n : Nat) : chAt n 1 = chunk2 n := by unfold chAt; rw [if_neg (by decide)]
theorem word_at {n i : Nat} {ta tb te tq : Tok} {x y : Value} (hi : i < 2) (hx : [Value.int ((n / 12 % 2 : Nat) : Int) ta, .int ((n / 24 % 4 : Nat) : Int) tb][i]? = some x) (hy : [Value.str (endS n) te, .str (Str.ofString ";") tq][i]? = some y) :
    ∃ wv tv sg ts, x = .int ((wv : Nat) : Int) tv ∧ y = .str sg ts ∧ wv < 4 ∧ wordS wv ++ sg = chAt n i ∧ (wordS wv).length + sg.length ≤ sizeLine := by
  have hs : ∀ a b : Str, (a ++ b).length = a.length + b.length := fun a b => by show (a.cps ++ b.cps).size = _; rw [Array.size_append]; rfl
  obtain rfl | rfl : i = 0 ∨ i = 1 := by kst_p2
  · have e1 : x = .int ((n / 12 % 2 : Nat) : Int) ta := by simpa using hx.symm
    have e2 : y = .str (endS n) te := by simpa using hy.symm
    have h5 := (chunk1_ok n).2.1
    unfold chunk1 at h5
    rw [hs] at h5
    refine ⟨_, _, _, _, e1, e2, by kst_p2, by rw [chAt0]; unfold chunk1; exact Eq.refl _, by rw [sizeLine_eq]; kst_p2⟩
  · have e1 : x = .int ((n / 24 % 4 : Nat) : Int) tb := by simpa using hx.symm
    have e2 : y = .str (Str.ofString ";") tq := by simpa using hy.symm
    have h5 := (chunk2_ok n).2
    unfold chunk2 at h5
    rw [hs] at h5
    refine ⟨_, _, _, _, e1, e2, by kst_p2, by rw [chAt1]; unfold chunk2; exact Eq.refl _, by rw [sizeLine_eq]; kst_p2⟩
theorem word_get {wv : Nat} (h : wv < 4) : [Str.ofString "a+=b", Str.ofString "b+=a", Str.ofString "@@::", Str.ofString "@@@:"].getD ((wv : Nat) : Int).toNat PySem.Str.empty = wordS wv := by
  rw [Int.toNat_natCast]
  (try k_fold)
  rcases lt4c h with rfl | rfl | rfl | rfl <;> rfl
theorem Ap.own {ac da ls : Addr} {rest own : List (Addr × Obj)} {wr : List Addr} (h : Ap ac da ls rest) (hw : ∀ a ∈ [ac, da, ls, 140, 147], a ∉ wr) (ho : ∀ q ∈ own, q.1 ∈ wr) : Ap ac da ls (own ++ rest) := by
  refine ⟨h.d, h.l, h.ld, h.a1, h.a2, h.d1, h.d2, h.l1, h.l2, fun q hq => ?_⟩
  rcases List.mem_append.mp hq with hq | hq
  · have h9 := ho q hq
    exact ⟨fun e => hw ac (by simp) (e ▸ h9), fun e => hw da (by simp) (e ▸ h9), fun e => hw ls (by simp) (e ▸ h9), fun e => hw 140 (by simp) (e ▸ h9), fun e => hw 147 (by simp) (e ▸ h9)⟩
  · exact h.r q hq
theorem Ap.sub {ac da ls : Addr} {rest rest' : List (Addr × Obj)} (h : Ap ac da ls rest) (hs : ∀ q ∈ rest', q ∈ rest) : Ap ac da ls rest' :=
  ⟨h.d, h.l, h.ld, h.a1, h.a2, h.d1, h.d2, h.l1, h.l2, fun q hq => h.r q (hs q hq)⟩
section
variable {w : World} {mean : ExcName → Option Value} {mg mb : Str → Option Value} {dp un : Nat} {gd : Option (List Code)} {cn : Str} {cs : Scope} {a : Addr} {ccd : Value} {cl : List (Str × Addr)} {outer : List Env} {A₀ : Around} {base h₀ : Heap} {L : Addr} {m : Str → Option Value} {news : List (Addr × Obj)} {s : Shared} {Q E : Value → Shared → Prop}

theorem typed_spec {rest : List (Addr × Obj)} {ps ps2 : Array Value} (C : Cx w mean mg mb cs outer A₀ base h₀ L m ((140, plO ps) :: (147, plO ps2) :: rest) s) (hd1 : dp + 80 < recursionLimit) (hu : un + 400 < cLine)
    (hr : ∀ q ∈ rest, q.1 ≠ 140 ∧ q.1 ≠ 147) (G : AllBare s.gens) (p1 : PlOk lenPos ps) (p2 : PlOk strPos ps2)
    {rl el : Addr} {rv ev : List Value} {rn en : Nat} {ns : List Nat} {wd : Nat} {tw : Tok} (hrl : (rl, listOf rv.toArray rn) ∈ rest) (hel : (el, listOf ev.toArray en) ∈ rest) (hrv : Items (RowT rest) rv ns) (hev : StrsAre ev (ns.map endS)) (h4 : ns.length = 4) (hw1 : 10 ≤ wd) (hw2 : wd ≤ 25)
    (hret : ∀ h' g' tk' l vs n ps' ps2', StrsAre vs (ns.flatMap (rowLines wd)) → Fr h₀ L h' m → News h₀ L h' ((l, listOf vs.toArray n) :: (140, plO ps') :: (147, plO ps2') :: rest) → AllBare g' → Q (.ref l) { s with heap := h', gens := g', toks := tk' }) :
    wpAny (model PySem.Challenge.rw_ti0073_01.row.prog w) (ktrTop dp un gd cn cs L a ccd cl outer) (call (.ref 272) [.ref rl, .ref el, .int (wd : Int) tw]) Q E s := by
  w_top off
  obtain ⟨B, F, X, N, T, hk⟩ := C
  revert X
  k_fill
  intro X
  k_dflt (refine' enter (binds := [(Str.ofString "rows", .ref rl), (Str.ofString "ends", .ref el), (Str.ofString "width", .int (wd : Int) tw)]) B F X N T hk ?k6 ?k7 ?k8 ?k9 ?kB ?_ ?c2 ?c3 ?c4 ?c5; (case k6 => k_is); (case k7 => k_is); (case k8 => kst_p2); (case k9 => exact BindsTo.of_eq rfl); (case c5 => decide); (case kB => exact locs rfl); (case c2 => exact rfl); (case c3 => exact rfl); (case c4 => exact rfl))
  intro gH LF hF FG F1 N1 B1 X1 T1 lL
  simp only [List.reverse_cons, List.reverse_nil, List.nil_append, List.cons_append] at F1
  (try k_fold)
  (try (with_reducible refine (let A9 : PySem.Around := _; let e9 : PySem.Env := _; (?_ : PySem.wpAny _ A9 (PySem.execs _ e9) _ _ _))))
  w_strict repeat' ((fail_if_success (with_reducible show wpAny _ _ (call (.ref 94) _) _ _ _)); kla_enter)
  (try dsimp only)
  rename Fr gH LF _ _ => F2
  rename News gH LF _ _ => N2
  refine fold_spec (dp := dp + 1) (un := un + 3) ⟨by assumption, F2, X1, N2, T1, ?kK⟩ (by kst_p2) (by kst_p2) ?_
  case kK => first | exact rfl | assumption
  intro h3 tk3 fo ls ac da n0 u1 u2 tl F3 N3 hF hl1 hl2 hl3 hl4 hl5
  dsimp only
  have hF' := hF
  obtain ⟨df, k1, k2, k3, k4, k5, k6, u1', u2', u3', u4', hfo, hdf⟩ := hF'
  unfold foD at hdf
  w_strict repeat' ((fail_if_success (with_reducible show wpAny _ _ (exec (Stmt.For _ _ _ _ _) _) _ _ _)); kla_enter)
  refine wpAny_For ?_
  w_strict repeat' ((fail_if_success (with_reducible show wpAny _ _ (call (.type "zip") _) _ _ _)); kla_enter)
  rename Fr gH LF _ _ => F4
  rename News gH LF _ _ => N4
  have hpl : rv.length = 4 := by rw [hrv.length, h4]
  have hpe : ev.length = 4 := by rw [Mine.StrsAre.sum_len hev, List.length_map, h4]
  have hapR : Ap ac da ls (tl ++ rest) := by
    have e1 := ltN hl3
    have e2 := ltN hl4
    have e3 := ltN (hl5 (140, plO ps) (.head _))
    have e4 := ltN (hl5 (147, plO ps2) (.tail _ (.head _)))
    refine ⟨neN (by kst_p2), neN (by kst_p2), neN (by kst_p2), neN (by kst_p2), neN (by kst_p2), neN (by kst_p2), neN (by kst_p2), neN (by kst_p2), neN (by kst_p2), fun q hq => ?_⟩
    rcases List.mem_append.mp hq with hq | hq
    · have e5 := ltN (hl2 q hq)
      have e6 := ltN (hl1 q hq (140, plO ps) (.head _))
      have e7 := ltN (hl1 q hq (147, plO ps2) (.tail _ (.head _)))
      exact ⟨neN (by kst_p2), neN (by kst_p2), neN (by kst_p2), neN (by kst_p2), neN (by kst_p2)⟩
    · have e5 := ltN (hl5 q (.tail _ (.tail _ hq)))
      exact ⟨neN (by kst_p2), neN (by kst_p2), neN (by kst_p2), (hr q hq).1, (hr q hq).2⟩
  refine' forz (L := LF) (σ := TSt) (xs := rv) (ys₀ := ev) (n := 4) (fun c => c.g) (fun c => Fst w ac da ls [] c.n u1 c.t2 c.ps c.ps2 c.lines c.k (tl ++ rest))
    (fun _ => [(Str.ofString "folder", .ref fo), (Str.ofString "rows", .ref rl), (Str.ofString "ends", .ref el), (Str.ofString "width", .int (wd : Int) tw)])
    (fun i c => FK ac da ls [] [] c.ps c.ps2 (tl ++ rest) c.g ∧ StrsAre c.lines ((ns.take i).flatMap (rowLines wd)) ∧ c.lines.length ≤ 2 * i) ⟨n0, u2, ps, ps2, 0, s.gens, [], [], [], []⟩ rfl rfl
    (fun c => .tail _ (.tail _ (.tail _ (.tail _ (.tail _ (List.mem_append_right _ hrl)))))) (fun c => .tail _ (.tail _ (.tail _ (.tail _ (.tail _ (List.mem_append_right _ hel)))))) hpl hpe rfl F4 (nsub N4 ?mn1) ?mk1 ?mp1 ?mt1 ?md1
  case mn1 => kst_allIn
  case mk1 => kst_all
  case mp1 => exact ⟨⟨hapR, .nil, (fun q hq => nomatch hq), Nat.zero_le _, G, p1, p2⟩, .nil, Nat.zero_le _⟩
  case md1 =>
    (try k_fold)
    first | (refine Mine.poxxxxxxxxxxc ?_; intro cn1 ct2 cps cps2 ck cg _ _ cl1 _) | (rintro ⟨cn1, ct2, cps, cps2, ck, cg, _, _, cl1, _⟩)
    rintro u h5 tk5 h9Q1 F5 N5
    obtain ⟨K5, hS5, hl5⟩ := h9Q1
    dsimp only at K5 hS5 hl5 F5 N5 ⊢
    w_strict repeat' ((fail_if_success (with_reducible show wpAny _ _ (call (.ref 42) _) _ _ _)); kla_enter)
    (try dsimp only)
    rename Fr gH LF _ _ => FA
    rename News gH LF _ _ => NA
    rw [List.take_of_length_le (Nat.le_of_eq h4)] at hS5
    have hFR2 : FoldIn w (tl ++ rest) fo wd ls ac := ⟨df, k1, k2, k3, k4, k5, k6, u1', u2', u3', u4', List.mem_append_left _ hfo, List.mem_append_left _ hdf⟩
    refine fstr_spec (s := { s with heap := _, gens := _, toks := _ }) (dp := dp + 1) (un := un + 3) (n := cn1) (rest := tl ++ rest) (ps := cps) (ps2 := cps2) (lines := cl1) (k := ck) (t1 := u1) (t2 := ct2) (wd := (wd : Int)) ⟨by assumption, FA, X1, NA, T1, ?kK⟩ (by kst_p2) (by kst_p2) K5 hFR2 hS5 ?wz ?_
    case kK => first | exact rfl | assumption
    case wz => exact page_sum wd ns h4
    intro en' et2 eps he eg etk et Ke Fe Ne
    (try dsimp only)
    w_strict repeat' ((fail_if_success (with_reducible show wpAny _ _ (call (.builtin _) _) _ _ _)); kla_enter)
    rename Fr gH LF _ _ => FB
    rename News gH LF _ _ => NB
    have hjl := page_join wd ns h4
    refine KSpl.split1 FB NB rfl ?_ (by rw [sizeLine_eq]; kst_p2)
    intro D l hD kD hl hS FD ND hltD
    rw [hl, page_split wd ns h4] at hS
    (try dsimp only)
    w_strict repeat' kla_enter
    rename Fr h₀ L _ _ => FE
    rename News h₀ L _ _ => NE
    refine hret _ eg _ D _ 0 eps cps2 hS FE (nsub NE ?wq) Ke.G
    case wq =>
      refine Mine.fmc (.head _) (Mine.fmc (.tail _ (.tail _ (.tail _ (.head _)))) (Mine.fmc (.tail _ (.tail _ (.tail _ (.tail _ (.head _))))) (fun q hq => ?_)))
      · exact .tail _ (.tail _ (.tail _ (.tail _ (.tail _ (.tail _ (List.mem_append_right _ hq))))))
  case mt1 =>
    rintro i
    (try k_fold)
    first | (refine Mine.poxxxxxxxxxxc ?_; intro cn1 ct2 cps cps2 ck cg _ _ cl1 _) | (rintro ⟨cn1, ct2, cps, cps2, ck, cg, _, _, cl1, _⟩)
    rintro x y u h5 tk5 T z TI TO i1 i2 oz oTI oTO o1 o2 hi hx hy h9Q1 hw5 hT F5 N5
    obtain ⟨K5, hS5, hl5⟩ := h9Q1
    dsimp only at K5 hS5 hl5 hw5 F5 N5 ⊢
    (try k_fold)
    refine Mine.gk ?_
    intro Gz9 kz9
    obtain ⟨v, n, hv, hn, hrow⟩ := hrv.at i (by kst_p2)
    refine kz9 ?_
    (try clear kz9 Gz9)
    rw [hx] at hv
    (try k_fold)
    refine Mine.gk ?_
    intro Gz9 kz9
    (try k_fold)
    cases hv
    all_goals (try (refine kz9 ?_; (try clear kz9 Gz9)))
    (try k_fold)
    obtain ⟨ty, tky, wl, ta, tb, wn, rfl, hty, hwl⟩ := hrow
    (try k_fold)
    obtain ⟨te, rfl⟩ : ∃ te, y = .str (endS n) te := by
      (try k_fold)
      first | (refine Mine.ex_2 (strs_at hev i y hy) ?_; rintro e9 t9 h9E; refine Mine.cj_2 h9E ?_; clear h9E; rintro he9 rfl) | (obtain ⟨e9, t9, he9, rfl⟩ := strs_at hev i y hy)
      rw [List.getElem?_map, hn] at he9
      (try k_fold)
      refine Mine.gk ?_
      intro Gz9 kz9
      (try k_fold)
      cases he9
      all_goals (try (refine kz9 ?_; (try clear kz9 Gz9)))
      exact ⟨t9, rfl⟩
    refine asg_nestF (L := LF) rfl rfl F5 N5 hT (U := ty) (x := .str (leadS n) tky) (y := .ref wl) (.tail _ (.tail _ (.tail _ (.tail _ (.tail _ (.tail _ (.tail _ (.tail _ (.tail _ (.tail _ (List.mem_append_right _ hty))))))))))) rfl rfl rfl rfl ?_
    intro h6 tk6 F6 N6
    (try dsimp only)
    w_strict repeat' ((fail_if_success (with_reducible show wpAny _ _ (exec (Stmt.For _ _ _ _ _) _) _ _ _)); kla_enter)
    refine wpAny_For ?_
    w_strict repeat' ((fail_if_success (with_reducible show wpAny _ _ (call (.type "zip") _) _ _ _)); kla_enter)
    rename Fr gH LF _ _ => F7
    rename News gH LF _ _ => N7
    rename_i li _ lli
    obtain ⟨tq, N7'⟩ : ∃ tq, News gH LF _ ((li, listOf (List.toArray [.str (endS n) te, .str (Str.ofString ";") tq]) 0) :: (z, oz) :: (TI, oTI) :: (TO, oTO) :: (i1, o1) :: (i2, o2) :: Fst w ac da ls [] cn1 u1 ct2 cps cps2 cl1 ck (tl ++ rest)) := ⟨_, N7⟩
    have N8 := nsub (l' := Fst w ac da ls [] cn1 u1 ct2 cps cps2 cl1 ck ((li, listOf (List.toArray [.str (endS n) te, .str (Str.ofString ";") tq]) 0) :: (z, oz) :: (TI, oTI) :: (TO, oTO) :: (i1, o1) :: (i2, o2) :: (tl ++ rest))) N7' (by kst_allIn)
    clear N7 N7'
    have hapR2 : Ap ac da ls ((li, listOf (List.toArray [.str (endS n) te, .str (Str.ofString ";") tq]) 0) :: (z, oz) :: (TI, oTI) :: (TO, oTO) :: (i1, o1) :: (i2, o2) :: (tl ++ rest)) := by
      refine (Ap.own (own := [(z, oz), (TI, oTI), (TO, oTO), (i1, o1), (i2, o2)]) (wr := [z, TI, TO, i1, i2]) hapR ?_ ?_).more ?_
      · exact Mine.fmc (hw5 (ac, accO da [] cn1) (.head _)) (Mine.fmc (hw5 (da, accD w 0 u1 ct2) (.tail _ (.head _))) (Mine.fmc (hw5 (ls, listOf cl1.toArray ck) (.tail _ (.tail _ (.tail _ (.tail _ (.head _)))))) (Mine.fmc (hw5 (140, plO cps) (.tail _ (.tail _ (.head _)))) (Mine.fmc (hw5 (147, plO cps2) (.tail _ (.tail _ (.tail _ (.head _))))) (List.forall_mem_nil _)))))
      · intro q hq
        simp only [List.mem_cons, List.not_mem_nil, or_false] at hq ⊢
        (try k_fold)
        rcases hq with rfl | rfl | rfl | rfl | rfl <;> simp
      · have e1 := ltN lli.2.2.2.2.2.1
        have e2 := ltN lli.2.2.2.2.2.2.1
        have e3 := ltN lli.2.2.2.2.2.2.2.1
        have e4 := ltN lli.2.2.2.2.2.2.2.2.1
        have e5 := ltN lli.2.2.2.2.2.2.2.2.2.1
        exact ⟨neN (by kst_p2), neN (by kst_p2), neN (by kst_p2), neN (by kst_p2), neN (by kst_p2)⟩
    (try k_fold)
    obtain ⟨R2, hR2⟩ : ∃ R2, R2 = (li, listOf (List.toArray [.str (endS n) te, .str (Str.ofString ";") tq]) 0) :: (z, oz) :: (TI, oTI) :: (TO, oTO) :: (i1, o1) :: (i2, o2) :: (tl ++ rest) := ⟨_, rfl⟩
    rw [← hR2] at N8 hapR2
    have hsub : ∀ q ∈ (z, oz) :: (TI, oTI) :: (TO, oTO) :: (i1, o1) :: (i2, o2) :: (tl ++ rest), q ∈ R2 := fun q hq => by rw [hR2]; exact .tail _ hq
    have hliR : (li, listOf (List.toArray [.str (endS n) te, .str (Str.ofString ";") tq]) 0) ∈ R2 := by rw [hR2]; exact .head _
    have hin : ∀ q ∈ tl ++ rest, q ∈ R2 := fun q hq => hsub q (.tail _ (.tail _ (.tail _ (.tail _ (.tail _ hq)))))
    have hfoR := hin _ (List.mem_append_left rest hfo)
    have hdfR := hin _ (List.mem_append_left rest hdf)
    have hwlR := hin _ (List.mem_append_right tl hwl)
    have hFR : FoldIn w R2 fo wd ls ac := by
      obtain ⟨df, k1, k2, k3, k4, k5, k6, u1', u2', u3', u4', hfo, hdf⟩ := hF
      exact ⟨df, k1, k2, k3, k4, k5, k6, u1', u2', u3', u4', hin _ (List.mem_append_left rest hfo), hin _ (List.mem_append_left rest hdf)⟩
    clear hR2 lli
    have hi9 : i < 4 := hi
    refine' forz (L := LF) (σ := TSt) (xs := [.int ((n / 12 % 2 : Nat) : Int) ta, .int ((n / 24 % 4 : Nat) : Int) tb]) (ys₀ := [.str (endS n) te, .str (Str.ofString ";") tq]) (n := 2) (fun c => c.g) (fun c => Fst w ac da ls c.parts c.n u1 c.t2 c.ps c.ps2 c.lines c.k (c.tl ++ R2))
      (fun _ => [(Str.ofString "folder", .ref fo), (Str.ofString "rows", .ref rl), (Str.ofString "ends", .ref el), (Str.ofString "width", .int (wd : Int) tw), (Str.ofString "lead", .str (leadS n) tky), (Str.ofString "words", .ref wl), (Str.ofString "end", .str (endS n) te)])
      (fun i' c => FK ac da ls c.parts c.pps c.ps c.ps2 (c.tl ++ R2) c.g ∧ c.pps = ppsAt wd n i' ∧ StrsAre c.lines ((ns.take i).flatMap (rowLines wd) ++ linesAt wd n i') ∧ c.lines.length ≤ 2 * i + i' / 2) ⟨cn1, ct2, cps, cps2, ck, cg, [], [], cl1, []⟩ rfl rfl
      (fun c => .tail _ (.tail _ (.tail _ (.tail _ (.tail _ (List.mem_append_right _ hwlR)))))) (fun c => .tail _ (.tail _ (.tail _ (.tail _ (.tail _ (List.mem_append_right _ hliR)))))) rfl rfl rfl F7 N8 ?mk2 ?mp2 ?mt2 ?md2
    case mk2 => kst_all
    case mp2 => exact ⟨⟨hapR2, .nil, (fun q hq => nomatch hq), Nat.zero_le _, K5.G, K5.p1, K5.p2⟩, rfl, by rw [show linesAt wd n 0 = [] from rfl, List.append_nil]; exact hS5, hl5⟩
    case md2 =>
      (try k_fold)
      first | (refine Mine.poxxxxxxxxxxc ?_; intro dn dt2 dps dps2 dk dg dparts dpps dl dtl) | (rintro ⟨dn, dt2, dps, dps2, dk, dg, dparts, dpps, dl, dtl⟩)
      rintro u9 h9 tk9 h9Q1 F9 N9
      (try k_fold)
      refine Mine.gk ?_
      intro Gz9 kz9
      obtain ⟨K9, hp9, hS9, hl9⟩ := h9Q1
      refine kz9 ?_
      (try clear kz9 Gz9)
      dsimp only at K9 hp9 hS9 hl9 F9 N9 ⊢
      (try k_fold)
      subst hp9
      have hFR2 : FoldIn w (dtl ++ R2) fo wd ls ac := by
        obtain ⟨df, k1, k2, k3, k4, k5, k6, u1', u2', u3', u4', hfo, hdf⟩ := hFR
        exact ⟨df, k1, k2, k3, k4, k5, k6, u1', u2', u3', u4', List.mem_append_right _ hfo, List.mem_append_right _ hdf⟩
      obtain ⟨pq, hpq⟩ := row_end wd n
      rw [hpq] at K9
      (try k_fold)
      obtain ⟨dpr, dv, rfl⟩ : ∃ dpr dv, dparts = dpr ++ [dv] := by
        have := K9.pi.length
        rw [List.length_append, List.length_singleton] at this
        rcases List.eq_nil_or_concat dparts with e | ⟨l, v, e⟩
        · rw [e] at this; simp at this
        · exact ⟨l, v, by rw [e]; simp⟩
      w_strict repeat' ((fail_if_success (with_reducible show wpAny _ _ (call (.ref 56) _) _ _ _)); kla_enter)
      (try dsimp only)
      rename Fr gH LF _ _ => FA
      rename News gH LF _ _ => NA
      refine newline_spec (s := { s with heap := _, gens := _, toks := _ }) (dp := dp + 1) (un := un + 3) (n := dn) (rest := dtl ++ R2) (parts := dpr) (v := dv) (pps := pq) (f := leadS n) (g := chunk2 n) (ps := dps) (ps2 := dps2) (lines := dl) (k := dk) (t1 := u1) (t2 := dt2) (wd := (wd : Int)) ⟨by assumption, FA, X1, NA, T1, ?kK⟩ (by kst_p2) (by kst_p2) K9 hFR2 (by rw [(chunk2_ok n).2]; decide) ⟨(lead_ok n).1, (chunk2_ok n).1⟩ (by rw [← hpq]; exact row_space wd n) (by kst_p2) ?_
      case kK => first | exact rfl | assumption
      intro en' et2 eps eps2 ek' he eg etk et Ke Fe Ne
      (try dsimp only)
      w_strict repeat' kla_enter
      rename Fr gH LF _ _ => FB
      rename News gH LF _ _ => NB
      refine' fend ⟨en', et2, eps, eps2, ek', eg, [], [], dl ++ [.str (strOf (pq ++ [(leadS n, chunk2 n)])) et], []⟩ FB NB ?wo ?wn ?ww ?wk ⟨⟨hapR, .nil, (fun q hq => nomatch hq), Nat.zero_le _, Ke.G, Ke.p1, Ke.p2⟩, ?ws, ?wl⟩
      case wk => kst_all
      case ws =>
        dsimp only
        rw [List.take_add_one, hn, Option.toList_some, List.flatMap_append, List.flatMap_singleton, ← row_lines, hpq, ← List.append_assoc]
        exact StrsAre.snoc hS9
      case wl => dsimp only; rw [List.length_append, List.length_singleton]; kst_p2
      case wo =>
        intro q hq
        refine .tail _ (.tail _ (.tail _ (.tail _ (.tail _ (List.mem_append_right _ (hsub _ ?_))))))
        simp only [List.mem_cons, List.not_mem_nil, or_false] at hq
        (try k_fold)
        rcases hq with rfl | rfl | rfl | rfl | rfl <;> simp
      case wn =>
        refine Mine.fmc (.head _) (Mine.fmc (.tail _ (.head _)) (Mine.fmc (.tail _ (.tail _ (.head _))) (Mine.fmc (.tail _ (.tail _ (.tail _ (.head _)))) (Mine.fmc (.tail _ (.tail _ (.tail _ (.tail _ (.head _))))) (fun q hq => ?_)))))
        (try dsimp only at hq)
        · exact .tail _ (.tail _ (.tail _ (.tail _ (.tail _ (List.mem_append_right _ (hin _ hq))))))
      case ww =>
        refine Mine.fmc (hw5 (ac, accO da [] cn1) (.head _)) (Mine.fmc (hw5 (da, accD w 0 u1 ct2) (.tail _ (.head _))) (Mine.fmc (hw5 (140, plO cps) (.tail _ (.tail _ (.head _)))) (Mine.fmc (hw5 (147, plO cps2) (.tail _ (.tail _ (.tail _ (.head _))))) (Mine.fmc (hw5 (ls, listOf cl1.toArray ck) (.tail _ (.tail _ (.tail _ (.tail _ (.head _)))))) (fun q hq => ?_)))))
        (try dsimp only at hq)
        · exact hw5 q (.tail _ (.tail _ (.tail _ (.tail _ (.tail _ hq)))))
    case mt2 =>
      rintro i'
      (try k_fold)
      first | (refine Mine.poxxxxxxxxxxc ?_; intro dn dt2 dps dps2 dk dg dparts dpps dl dtl) | (rintro ⟨dn, dt2, dps, dps2, dk, dg, dparts, dpps, dl, dtl⟩)
      rintro x9 y9 u9 h9 tk9 T9 z9 TI9 TO9 j1 j2 oz9 oTI9 oTO9 q1 q2 hi9 hx9 hy9 h9Q1 hw9 hT9 F9 N9
      (try k_fold)
      refine Mine.gk ?_
      intro Gz9 kz9
      obtain ⟨K9, hp9, hS9, hl9⟩ := h9Q1
      refine kz9 ?_
      (try clear kz9 Gz9)
      dsimp only at K9 hp9 hS9 hl9 hw9 F9 N9 ⊢
      (try k_fold)
      subst hp9
      refine asg_pairF (L := LF) rfl rfl F9 N9 hT9 rfl rfl rfl ?_
      intro hA tkA FA NA
      (try dsimp only)
      (try k_fold)
      first | (refine Mine.ex_4 (word_at hi9 hx9 hy9) ?_; rintro wv tv sg ts h9E; refine Mine.cj_5 h9E ?_; clear h9E; rintro rfl rfl hwv hch hcz) | (obtain ⟨wv, tv, sg, ts, rfl, rfl, hwv, hch, hcz⟩ := word_at hi9 hx9 hy9)
      clear hx9 hy9
      w_strict repeat' ((fail_if_success (with_reducible show wpAny _ _ (subscriptTail _ _ _ _) _ _ _)); kla_enter)
      rename Fr gH LF _ _ => FB
      rename News gH LF _ _ => NB
      refine KTb.item_tup (ws := [Str.ofString "a+=b", Str.ofString "b+=a", Str.ofString "@@::", Str.ofString "@@@:"]) (News.isTup NB (by k_mem)) (.cons _ _ (.cons _ _ (.cons _ _ (.cons _ _ .nil)))) (by kst_p2) (by simp only [List.length_cons, List.length_nil]; kst_p2) (by kst_p2) (fun tw9 _ => ?_)
      rw [word_get hwv]
      w_strict repeat' ((fail_if_success (with_reducible show wpAny _ _ (binaryOp .Add _ _) _ _ _)); kla_enter)
      refine add_lead (z := chAt n i') hch hcz ?_
      intro tz9 tkz9
      w_strict repeat' ((fail_if_success (with_reducible show wpAny _ _ (call (.ref 91) _) _ _ _)); kla_enter)
      rename Fr gH LF _ _ => FC
      rename News gH LF _ _ => NC
      have K9' : FK ac da ls dparts (ppsAt wd n i') dps dps2 ([(z9, oz9), (TI9, oTI9), (TO9, oTO9), (j1, q1), (j2, q2)] ++ (dtl ++ R2)) dg := by
        refine ⟨Ap.own (wr := [z9, TI9, TO9, j1, j2]) K9.ap ?_ ?_, K9.pi.mono fun q hq => List.mem_append_right _ hq, K9.b, K9.z, K9.G, K9.p1, K9.p2⟩
        · exact Mine.fmc (hw9 (ac, accO da dparts dn) (.head _)) (Mine.fmc (hw9 (da, accD w 0 u1 dt2) (.tail _ (.head _))) (Mine.fmc (hw9 (ls, listOf dl.toArray dk) (.tail _ (.tail _ (.tail _ (.tail _ (.head _)))))) (Mine.fmc (hw9 (140, plO dps) (.tail _ (.tail _ (.head _)))) (Mine.fmc (hw9 (147, plO dps2) (.tail _ (.tail _ (.tail _ (.head _))))) (List.forall_mem_nil _)))))
        · intro q hq
          simp only [List.mem_cons, List.not_mem_nil, or_false] at hq ⊢
          (try k_fold)
          rcases hq with rfl | rfl | rfl | rfl | rfl <;> simp
      have NC' : News gH LF _ (Fst w ac da ls dparts dn u1 dt2 dps dps2 dl dk ([(z9, oz9), (TI9, oTI9), (TO9, oTO9), (j1, q1), (j2, q2)] ++ (dtl ++ R2))) := nsub NC (by simp only [List.cons_append, List.nil_append]; kst_allIn)
      clear NC
      have hFR3 : FoldIn w ([(z9, oz9), (TI9, oTI9), (TO9, oTO9), (j1, q1), (j2, q2)] ++ (dtl ++ R2)) fo wd ls ac := by
        obtain ⟨df, k1, k2, k3, k4, k5, k6, u1', u2', u3', u4', hfo, hdf⟩ := hFR
        exact ⟨df, k1, k2, k3, k4, k5, k6, u1', u2', u3', u4', List.mem_append_right _ (List.mem_append_right _ hfo), List.mem_append_right _ (List.mem_append_right _ hdf)⟩
      have hld := (lead_ok n).2
      (try dsimp only)
      obtain rfl | rfl : i' = 0 ∨ i' = 1 := by kst_p2
      · refine chunk_a (s := { s with heap := _, gens := _, toks := _ }) (dp := dp + 1) (un := un + 3) (n := dn) (rest := [(z9, oz9), (TI9, oTI9), (TO9, oTO9), (j1, q1), (j2, q2)] ++ (dtl ++ R2)) (parts := dparts) (pps := ppsAt wd n 0) (f := leadS n) (g := chAt n 0) (ps := dps) (ps2 := dps2) (lines := dl) (k := dk) (t1 := u1) (t2 := dt2) (wd := (wd : Int)) ⟨by assumption, FC, X1, NC', T1, ?kK⟩ (by kst_p2) (by kst_p2) K9' hFR3 (by simp [ppsAt]) ⟨by kst_p2, by rw [chAt0, (chunk1_ok n).2.1]; decide⟩ ?wz ?_
        case kK => first | exact rfl | assumption
        case wz =>
          have := (chunk1_ok n).2.1
          simp only [ppsAt, List.nil_append, lenOf, List.map_cons, List.map_nil, List.sum_cons, List.sum_nil, chAt0]
          kst_p2
        intro tc nc psc hc gc tkc Kc lc Fc Nc
        (try dsimp only)
        w_strict repeat' kla_enter
        rename Fr gH LF _ _ => FD
        rename News gH LF _ _ => ND
        refine' fend ⟨nc, dt2, psc, dps2, dk, gc, dparts ++ [.ref tc], ppsAt wd n 0 ++ [(leadS n, chAt n 0)], dl, (tc, tupO [.str (leadS n) tky, .str (chAt n 0) tz9]) :: dtl⟩ FD ND ?wo ?wn ?ww ?wk ⟨⟨K9.ap.more (t := tc) (o := tupO [.str (leadS n) tky, .str (chAt n 0) tz9]) (Kc.ap.r (tc, tupO [.str (leadS n) tky, .str (chAt n 0) tz9]) (.head _)), (K9.pi.mono fun q hq => .tail _ hq).snoc ⟨tc, tky, tz9, rfl, .head _⟩, Kc.b, Kc.z, Kc.G, Kc.p1, Kc.p2⟩, rfl, hS9, by dsimp only; kst_p2⟩
        case wk => kst_all
        case wo =>
          intro q hq
          refine .tail _ (.tail _ (.tail _ (.tail _ (.tail _ (.tail _ (List.mem_append_left _ hq))))))
        case wn =>
          refine Mine.fmc (.head _) (Mine.fmc (.tail _ (.head _)) (Mine.fmc (.tail _ (.tail _ (.head _))) (Mine.fmc (.tail _ (.tail _ (.tail _ (.head _)))) (Mine.fmc (.tail _ (.tail _ (.tail _ (.tail _ (.head _))))) (Mine.fmc (.tail _ (.tail _ (.tail _ (.tail _ (.tail _ (.head _)))))) (fun q hq => ?_))))))
          (try dsimp only at hq)
          · exact .tail _ (.tail _ (.tail _ (.tail _ (.tail _ (.tail _ (List.mem_append_right _ hq))))))
        case ww => exact typed_ww hw9 lc
      · by_cases hlong : wd < 2 * (leadS n).length + 10
        case neg =>
          have hP : Parted wd n = false := by unfold Parted; rw [decide_eq_false hlong, Bool.and_false]
          refine chunk_a (s := { s with heap := _, gens := _, toks := _ }) (dp := dp + 1) (un := un + 3) (n := dn) (rest := [(z9, oz9), (TI9, oTI9), (TO9, oTO9), (j1, q1), (j2, q2)] ++ (dtl ++ R2)) (parts := dparts) (pps := ppsAt wd n 1) (f := leadS n) (g := chAt n 1) (ps := dps) (ps2 := dps2) (lines := dl) (k := dk) (t1 := u1) (t2 := dt2) (wd := (wd : Int)) ⟨by assumption, FC, X1, NC', T1, ?kK⟩ (by kst_p2) (by kst_p2) K9' hFR3 (by simp [ppsAt]) ⟨by kst_p2, by rw [chAt1, (chunk2_ok n).2]; decide⟩ ?wz ?_
          case kK => first | exact rfl | assumption
          case wz =>
            have := (chunk1_ok n).2.1
            have := (chunk2_ok n).2
            simp only [ppsAt, List.cons_append, List.nil_append, lenOf, List.map_cons, List.map_nil, List.sum_cons, List.sum_nil, chAt1]
            kst_p2
          intro tc nc psc hc gc tkc Kc lc Fc Nc
          (try dsimp only)
          w_strict repeat' kla_enter
          rename Fr gH LF _ _ => FD
          rename News gH LF _ _ => ND
          refine' fend ⟨nc, dt2, psc, dps2, dk, gc, dparts ++ [.ref tc], ppsAt wd n 1 ++ [(leadS n, chAt n 1)], dl, (tc, tupO [.str (leadS n) tky, .str (chAt n 1) tz9]) :: dtl⟩ FD ND ?wo ?wn ?ww ?wk ⟨⟨K9.ap.more (t := tc) (o := tupO [.str (leadS n) tky, .str (chAt n 1) tz9]) (Kc.ap.r (tc, tupO [.str (leadS n) tky, .str (chAt n 1) tz9]) (.head _)), (K9.pi.mono fun q hq => .tail _ hq).snoc ⟨tc, tky, tz9, rfl, .head _⟩, Kc.b, Kc.z, Kc.G, Kc.p1, Kc.p2⟩, (pps2_f hP).symm, (by rw [show linesAt wd n (1 + 1) = linesAt wd n 1 from lines2_f hP]; exact hS9), by dsimp only; kst_p2⟩
          case wk => kst_all
          case wo =>
            intro q hq
            refine .tail _ (.tail _ (.tail _ (.tail _ (.tail _ (.tail _ (List.mem_append_left _ hq))))))
          case wn =>
            refine Mine.fmc (.head _) (Mine.fmc (.tail _ (.head _)) (Mine.fmc (.tail _ (.tail _ (.head _))) (Mine.fmc (.tail _ (.tail _ (.tail _ (.head _)))) (Mine.fmc (.tail _ (.tail _ (.tail _ (.tail _ (.head _))))) (Mine.fmc (.tail _ (.tail _ (.tail _ (.tail _ (.tail _ (.head _)))))) (fun q hq => ?_))))))
            (try dsimp only at hq)
            · exact .tail _ (.tail _ (.tail _ (.tail _ (.tail _ (.tail _ (List.mem_append_right _ hq))))))
          case ww => exact typed_ww hw9 lc
        case pos =>
          (try k_fold)
          obtain ⟨v1, rfl⟩ : ∃ v, dparts = [v] := by
            have := K9.pi.length
            rw [show ppsAt wd n 1 = [(leadS n, chunk1 n)] from rfl, List.length_singleton] at this
            exact List.length_eq_one_iff.mp this
          have hg1 := chunk1_ok n
          refine chunk_bc (s := { s with heap := _, gens := _, toks := _ }) (cc := ccOf n) (dp := dp + 1) (un := un + 3) (n := dn) (rest := [(z9, oz9), (TI9, oTI9), (TO9, oTO9), (j1, q1), (j2, q2)] ++ (dtl ++ R2)) (v1 := v1) (f1 := leadS n) (g1 := chunk1 n) (f := leadS n) (g := chAt n 1) (ps := dps) (ps2 := dps2) (lines := dl) (k := dk) (t1 := u1) (t2 := dt2) (wd := (wd : Int)) ⟨by assumption, FC, X1, NC', T1, ?kK⟩ (by kst_p2) (by kst_p2) K9' hFR3 ⟨by kst_p2, by rw [chAt1, (chunk2_ok n).2]; decide⟩ ?wz (by kst_p2) hg1.2.2 (by kst_p2) ?_ ?_
          case kK => first | exact rfl | assumption
          case wz =>
            have := (chunk1_ok n).2.1
            have := (chunk2_ok n).2
            simp only [lenOf, List.map_cons, List.map_nil, List.sum_cons, List.sum_nil, chAt1]
            kst_p2
          · intro h59 tc nc t2c psc ps2c kc hc gc tkc tlc lc Kc Fc Nc
            have hP : Parted wd n = true := parted_t hlong h59
            (try dsimp only)
            w_strict repeat' kla_enter
            rename Fr gH LF _ _ => FD
            rename News gH LF _ _ => ND
            refine' fend ⟨nc, t2c, psc, ps2c, kc, gc, [.ref tc], [(leadS n, chAt n 1)], dl ++ [.str (strOf [(leadS n, chunk1 n)]) tlc], (tc, tupO [.str (leadS n) tky, .str (chAt n 1) tz9]) :: dtl⟩ FD ND ?wo ?wn ?ww ?wk ⟨⟨K9.ap.more (t := tc) (o := tupO [.str (leadS n) tky, .str (chAt n 1) tz9]) (Kc.ap.r (tc, tupO [.str (leadS n) tky, .str (chAt n 1) tz9]) (.head _)), .cons ⟨tc, tky, tz9, rfl, .head _⟩ .nil, Kc.b, Kc.z, Kc.G, Kc.p1, Kc.p2⟩, (pps2_t hP).symm, (by rw [show linesAt wd n (1 + 1) = linesAt wd n 1 ++ [strOf [(leadS n, chunk1 n)]] from lines2_t hP, ← List.append_assoc]; exact StrsAre.snoc hS9), by dsimp only; rw [List.length_append, List.length_singleton]; kst_p2⟩
            case wk => kst_all
            case wo =>
              intro q hq
              refine .tail _ (.tail _ (.tail _ (.tail _ (.tail _ (.tail _ (List.mem_append_left _ hq))))))
            case wn =>
              refine Mine.fmc (.head _) (Mine.fmc (.tail _ (.head _)) (Mine.fmc (.tail _ (.tail _ (.head _))) (Mine.fmc (.tail _ (.tail _ (.tail _ (.head _)))) (Mine.fmc (.tail _ (.tail _ (.tail _ (.tail _ (.head _))))) (Mine.fmc (.tail _ (.tail _ (.tail _ (.tail _ (.tail _ (.head _)))))) (fun q hq => ?_))))))
              (try dsimp only at hq)
              · exact .tail _ (.tail _ (.tail _ (.tail _ (.tail _ (.tail _ (List.mem_append_right _ hq))))))
            case ww => exact typed_ww hw9 lc
          · intro h59 tc nc psc ps2c hc gc tkc lc Kc Fc Nc
            have hP : Parted wd n = false := parted_f h59
            (try dsimp only)
            w_strict repeat' kla_enter
            rename Fr gH LF _ _ => FD
            rename News gH LF _ _ => ND
            refine' fend ⟨nc, dt2, psc, ps2c, dk, gc, [v1, .ref tc], [(leadS n, chunk1 n), (leadS n, chAt n 1)], dl, (tc, tupO [.str (leadS n) tky, .str (chAt n 1) tz9]) :: dtl⟩ FD ND ?wo ?wn ?ww ?wk ⟨⟨K9.ap.more (t := tc) (o := tupO [.str (leadS n) tky, .str (chAt n 1) tz9]) (Kc.ap.r (tc, tupO [.str (leadS n) tky, .str (chAt n 1) tz9]) (.head _)), (K9.pi.mono fun q hq => .tail _ hq).snoc ⟨tc, tky, tz9, rfl, .head _⟩, Kc.b, Kc.z, Kc.G, Kc.p1, Kc.p2⟩, (pps2_f hP).symm, (by rw [show linesAt wd n (1 + 1) = linesAt wd n 1 from lines2_f hP]; exact hS9), by dsimp only; kst_p2⟩
            case wk => kst_all
            case wo =>
              intro q hq
              refine .tail _ (.tail _ (.tail _ (.tail _ (.tail _ (.tail _ (List.mem_append_left _ hq))))))
            case wn =>
              refine Mine.fmc (.head _) (Mine.fmc (.tail _ (.head _)) (Mine.fmc (.tail _ (.tail _ (.head _))) (Mine.fmc (.tail _ (.tail _ (.tail _ (.head _)))) (Mine.fmc (.tail _ (.tail _ (.tail _ (.tail _ (.head _))))) (Mine.fmc (.tail _ (.tail _ (.tail _ (.tail _ (.tail _ (.head _)))))) (fun q hq => ?_))))))
              (try dsimp only at hq)
              · exact .tail _ (.tail _ (.tail _ (.tail _ (.tail _ (.tail _ (List.mem_append_right _ hq))))))
            case ww => exact typed_ww hw9 lc
end
end Mine
end TCtyped

section TPlex
open PySem PySem.W PyProof.Rows PySem.Spec PySem.Calls
set_option maxRecDepth 100000
set_option linter.unusedVariables false
set_option linter.unusedSimpArgs false
namespace Mine
noncomputable def exK : List (List Nat) := exL.map fun p => p.1.cps.toList
noncomputable def tailsOf (c : Nat) : List (List Nat) := exK.filterMap fun q => match q with
  | [] => none
  | d :: u => if d = c then some u else none
theorem hasX_eq (l : List Nat) : hasX l = exK.contains l := by
  have h : ∀ m : List (Str × Int), kdpHas m ⟨l.toArray⟩ = (m.map fun p => p.1.cps.toList).contains l := by
    intro m
    induction m with
    | nil => rfl
    | cons p r ih =>
      have e : decide (p.1 = (⟨l.toArray⟩ : Str)) = (l == p.1.cps.toList) := by
        rw [Bool.eq_iff_iff, decide_eq_true_iff, beq_iff_eq]
        constructor
        · intro e; rw [e]
        · intro e; subst e; rfl
      rw [List.map_cons, List.contains_cons, ← ih, ← e]
      unfold kdpHas
      rw [List.any_cons]
  exact h exL
theorem tails_eq (c : Nat) (t : List Nat) : hasX (c :: t) = (tailsOf c).contains t := by
  rw [hasX_eq]
  unfold tailsOf
  induction exK with
  | nil => rfl
  | cons q r ih =>
    rw [List.contains_cons, ih, List.filterMap_cons]
    cases q with
    | nil => simp
    | cons d u =>
      dsimp only
      by_cases h : d = c
      · subst h
        rw [if_pos rfl, List.contains_cons]
        congr 1
        rw [Bool.eq_iff_iff, beq_iff_eq, beq_iff_eq]
        constructor
        · intro e; exact (List.cons.inj e).2
        · intro e; rw [e]
      · rw [if_neg h]
        have : (c :: t == d :: u) = false := by
          rw [beq_eq_false_iff_ne]
          intro e
          exact h (List.cons.inj e).1.symm
        rw [this]
        simp
theorem sizes_eq (c : Nat) (r : List Nat) : sizesOf (c :: r) = [3, 2, 1].filter fun z => (tailsOf c).contains (r.take (z - 1)) := by
  unfold sizesOf
  refine List.filter_congr fun z hz => ?_
  simp only [List.mem_cons, List.not_mem_nil, or_false] at hz
  rcases hz with rfl | rfl | rfl
  · exact tails_eq c (r.take 2)
  · exact tails_eq c (r.take 1)
  · exact tails_eq c (r.take 0)
theorem lex_s0 {c : Nat} (h : tailsOf c = []) (n : Nat) (r : List Nat) : lexN (n + 1) (c :: r) = (if c = 97 ∨ c = 98 then [(256 + c - 97 : Int)] else []) ++ lexN n r := by
  rw [lexN, sizes_eq, h]
  rfl
theorem lex_nil (n : Nat) : lexN n [] = [] := by cases n <;> rfl
theorem lex_s1 {c : Nat} (h : tailsOf c = [[]]) (n : Nat) (r : List Nat) : lexN (n + 1) (c :: r) = kdpLook exL ⟨#[c]⟩ 0 :: lexN n r := by
  rw [lexN, sizes_eq, h]
  cases r with
  | nil =>
    show kdpLook exL _ 0 :: lexN n (List.drop 3 [c]) = _
    rw [show List.drop 3 [c] = [] from rfl]
    rfl
  | cons d r => rfl
theorem lex_s2a {c d : Nat} (h : tailsOf c = [[], [61]]) (hd : d ≠ 61) (n : Nat) (r : List Nat) : lexN (n + 1) (c :: d :: r) = kdpLook exL ⟨#[c]⟩ 0 :: lexN n (d :: r) := by
  have e : sizesOf (c :: d :: r) = [1] := by
    rw [sizes_eq, h]
    have h1 : ∀ t : List Nat, ([[], [61]] : List (List Nat)).contains (d :: t) = false := fun t => by
      rw [List.contains_cons, List.contains_cons]
      simp [hd]
    show List.filter _ _ = _
    rw [List.filter_cons, List.filter_cons, List.filter_cons]
    simp [h1, hd]
  rw [lexN, e]
  rfl
theorem lex_s2b {c e : Nat} (h : tailsOf c = [[], [61]]) (n : Nat) (r : List Nat) : lexN (n + 1) (c :: 61 :: e :: r) = kdpLook exL ⟨#[c, 61]⟩ 0 :: lexN n (e :: r) := by
  have e : sizesOf (c :: 61 :: e :: r) = [2, 1] := by
    rw [sizes_eq, h]
    rw [List.filter_cons, List.filter_cons, List.filter_cons]
    simp
  rw [lexN, e]
  rfl
theorem t32 : tailsOf 32 = [] := by decide +kernel
theorem t9 : tailsOf 9 = [] := by decide +kernel
theorem t97 : tailsOf 97 = [] := by decide +kernel
theorem t98 : tailsOf 98 = [] := by decide +kernel
theorem t59 : tailsOf 59 = [[]] := by decide +kernel
theorem t44 : tailsOf 44 = [[]] := by decide +kernel
theorem t43 : tailsOf 43 = [[], [61]] := by decide +kernel
theorem t64 : tailsOf 64 = [[], [61]] := by decide +kernel
theorem t58 : tailsOf 58 = [[], [61]] := by decide +kernel
theorem k59 : kdpLook exL ⟨#[59]⟩ 0 = 13 := by decide +kernel
theorem k44 : kdpLook exL ⟨#[44]⟩ 0 = 12 := by decide +kernel
theorem k43 : kdpLook exL ⟨#[43, 61]⟩ 0 = 36 := by decide +kernel
theorem k64 : kdpLook exL ⟨#[64]⟩ 0 = 49 := by decide +kernel
theorem k58 : kdpLook exL ⟨#[58]⟩ 0 = 11 := by decide +kernel
theorem lex_lead (l : List Nat) (h : ∀ c ∈ l, c = 32 ∨ c = 9) (m : Nat) (r : List Nat) : lexN (l.length + m) (l ++ r) = lexN m r := by
  induction l with
  | nil => simp
  | cons c l ih =>
    rw [List.length_cons, Nat.add_right_comm, List.cons_append]
    rcases h c (.head _) with rfl | rfl
    · rw [lex_s0 t32, ih fun c hc => h c (.tail _ hc)]; rfl
    · rw [lex_s0 t9, ih fun c hc => h c (.tail _ hc)]; rfl
noncomputable def sigN (e : Nat) : Int := if e = 0 then 12 else 13
noncomputable def wL (b e : Nat) : List Nat := (wordS b ++ EN e).cps.toList
noncomputable def exF (b : Nat) : Nat := if b < 2 then 1 else 0
theorem lex_word (b : Nat) (hb : b < 4) (e : Nat) (he : e < 2) (m : Nat) (r : List Nat) : lexN (5 + m) (wL b e ++ r) = wordOf b ++ (sigN e :: lexN (m + exF b) r) := by
  have h5 : 5 + m = m + 1 + 1 + 1 + 1 + 1 := by kst_p2
  have hs : ∀ n, lexN (n + 1) ((if e = 0 then 44 else 59) :: r) = sigN e :: lexN n r := fun n => by
    unfold sigN
    by_cases h0 : e = 0
    · rw [if_pos h0, if_pos h0, lex_s1 t44, k44]
    · rw [if_neg h0, if_neg h0, lex_s1 t59, k59]
  have hne : (if e = 0 then 44 else 59) ≠ 61 := by split <;> decide
  have hl : wL b e = (wordS b).cps.toList ++ [if e = 0 then 44 else 59] := by
    have : ∀ b, b < 4 → ∀ e, e < 2 → wL b e = (wordS b).cps.toList ++ [if e = 0 then 44 else 59] := by decide +kernel
    exact this b hb e he
  rw [hl, List.append_assoc, h5]
  rcases lt4c hb with rfl | rfl | rfl | rfl
  · show lexN (m + 1 + 1 + 1 + 1 + 1) (97 :: 43 :: 61 :: 98 :: (if e = 0 then 44 else 59) :: r) = 256 :: 36 :: 257 :: sigN e :: lexN (m + 1) r
    rw [lex_s0 t97, lex_s2b t43, k43, lex_s0 t98, hs]
    rfl
  · show lexN (m + 1 + 1 + 1 + 1 + 1) (98 :: 43 :: 61 :: 97 :: (if e = 0 then 44 else 59) :: r) = 257 :: 36 :: 256 :: sigN e :: lexN (m + 1) r
    rw [lex_s0 t98, lex_s2b t43, k43, lex_s0 t97, hs]
    rfl
  · show lexN (m + 1 + 1 + 1 + 1 + 1) (64 :: 64 :: 58 :: 58 :: (if e = 0 then 44 else 59) :: r) = 49 :: 49 :: 11 :: 11 :: sigN e :: lexN m r
    rw [lex_s2a t64 (by decide), k64, lex_s2a t64 (by decide), k64, lex_s2a t58 (by decide), k58, lex_s2a t58 hne, k58, hs]
  · show lexN (m + 1 + 1 + 1 + 1 + 1) (64 :: 64 :: 64 :: 58 :: (if e = 0 then 44 else 59) :: r) = 49 :: 49 :: 49 :: 11 :: sigN e :: lexN m r
    rw [lex_s2a t64 (by decide), k64, lex_s2a t64 (by decide), k64, lex_s2a t64 (by decide), k64, lex_s2a t58 hne, k58, hs]
theorem cut_word (b : Nat) (hb : b < 4) (e : Nat) (L : List Int) : cut [] (wordOf b ++ (sigN e :: L)) = wordOf b :: cut [] L := by
  have hs : sigN e = 12 ∨ sigN e = 13 := by unfold sigN; split <;> simp
  have hc : ∀ W, cut W (sigN e :: L) = W :: cut [] L := fun W => by rw [cut, if_pos hs]
  rcases lt4c hb with rfl | rfl | rfl | rfl
  · show cut [] (256 :: 36 :: 257 :: sigN e :: L) = _; rw [cut, if_neg (by decide), cut, if_neg (by decide), cut, if_neg (by decide), hc]; rfl
  · show cut [] (257 :: 36 :: 256 :: sigN e :: L) = _; rw [cut, if_neg (by decide), cut, if_neg (by decide), cut, if_neg (by decide), hc]; rfl
  · show cut [] (49 :: 49 :: 11 :: 11 :: sigN e :: L) = _; rw [cut, if_neg (by decide), cut, if_neg (by decide), cut, if_neg (by decide), cut, if_neg (by decide), hc]; rfl
  · show cut [] (49 :: 49 :: 49 :: 11 :: sigN e :: L) = _; rw [cut, if_neg (by decide), cut, if_neg (by decide), cut, if_neg (by decide), cut, if_neg (by decide), hc]; rfl
theorem lead_blank (k j : Nat) : ∀ c ∈ leadOf k j, c = 32 ∨ c = 9 := by
  intro c hc
  unfold leadOf at hc
  rcases List.mem_append.mp hc with hc | hc
  · split at hc
    · cases hc
    · rcases List.mem_append.mp hc with hc | hc
      · exact .inl (List.eq_of_mem_replicate hc)
      · exact .inr (List.mem_singleton.mp hc)
  · exact .inl (List.eq_of_mem_replicate hc)
theorem wL_len (b : Nat) (hb : b < 4) (e : Nat) (he : e < 2) : (wL b e).length = 5 := by
  have : ∀ b, b < 4 → ∀ e, e < 2 → (wL b e).length = 5 := by decide +kernel
  exact this b hb e he
theorem line1 (k j b : Nat) (hb : b < 4) (e : Nat) (he : e < 2) (m : Nat) : cut [] (lexN ((leadOf k j ++ wL b e).length + m) (leadOf k j ++ wL b e)) = [wordOf b] := by
  rw [List.length_append, wL_len b hb e he, Nat.add_assoc, lex_lead _ (lead_blank k j)]
  have h := lex_word b hb e he m []
  rw [List.append_nil] at h
  rw [h, cut_word b hb, lex_nil]
  rfl
theorem line2 (k j a : Nat) (ha : a < 4) (e : Nat) (he : e < 2) (b : Nat) (hb : b < 4) : cut [] (lexN (leadOf k j ++ (wL a e ++ (leadOf k j ++ wL b 1))).length (leadOf k j ++ (wL a e ++ (leadOf k j ++ wL b 1)))) = [wordOf a, wordOf b] := by
  rw [List.length_append, lex_lead _ (lead_blank k j), List.length_append, wL_len a ha e he, lex_word a ha e he, cut_word a ha, line1 k j b hb 1 (by decide)]
theorem join0_cps : ∀ xs : List Str, (Str.join (Str.ofString "") xs).cps.toList = (xs.map (·.cps.toList)).flatten
  | [] => rfl
  | [x] => by simp [Str.join]
  | x :: y :: r => by
    have ih := join0_cps (y :: r)
    show (x ++ Str.ofString "" ++ Str.join (Str.ofString "") (y :: r)).cps.toList = _
    rw [List.map_cons, List.flatten_cons, ← ih]
    show (x.cps ++ #[] ++ (Str.join (Str.ofString "") (y :: r)).cps).toList = _
    simp
theorem str_cps (pps : List (Str × Str)) : (strOf pps).cps.toList = (pps.map fun q => q.1.cps.toList ++ q.2.cps.toList).flatten := by
  have h : ∀ xs, Txt.join (Str.ofString "") xs = Str.join (Str.ofString "") xs := fun xs => StrLaws.glued_eq_join _ _
  unfold strOf
  rw [h, join0_cps, List.map_map]
  congr 1
  refine List.map_congr_left fun q _ => ?_
  show (Txt.join (Str.ofString "") [q.1, q.2]).cps.toList = _
  rw [h, join0_cps]
  simp
end Mine
end TPlex

section TCcols
open PySem PySem.W PyProof.Rows PySem.Spec PySem.Calls
set_option Elab.async false
set_option maxRecDepth 100000
set_option maxHeartbeats 4000000
set_option linter.unusedVariables false
set_option linter.unusedSimpArgs false

namespace Mine
theorem fold_step {l : List Nat} {i c : Nat} (ts : Int) (h : l[i]? = some c) : (l.take (i + 1)).foldl (stepCol ts) 0 = stepCol ts ((l.take i).foldl (stepCol ts) 0) c := by
  rw [List.take_add_one, h, Option.toList_some, List.foldl_append]; rfl
theorem step_bnd {ts c : Int} {k i : Nat} (h1 : 1 ≤ ts) (h2 : ts ≤ 3) (h3 : 0 ≤ c) (h4 : c ≤ 3 * (i : Int)) : 0 ≤ stepCol ts c k ∧ stepCol ts c k ≤ 3 * ((i + 1 : Nat) : Int) := by
  unfold stepCol
  split
  · kst_p2
  · rw [Int.add_mul, Int.one_mul, Int.mul_comm, Int.fdiv_eq_ediv_of_nonneg _ (by kst_p2)]
    have e1 := Int.mul_ediv_add_emod c ts
    have e2 := Int.emod_nonneg c (show ts ≠ 0 by kst_p2)
    have e3 := Int.emod_lt_of_pos c (show 0 < ts by kst_p2)
    constructor
    · have : 0 ≤ c / ts := Int.ediv_nonneg h3 (by kst_p2)
      have : 0 ≤ ts * (c / ts) := Int.mul_nonneg (by kst_p2) this
      kst_p2
    · kst_p2
section
variable {w : World} {mean : ExcName → Option Value} {mg mb : Str → Option Value} {dp un : Nat} {gd : Option (List Code)} {cn : Str} {cs : Scope} {a : Addr} {ccd : Value} {cl : List (Str × Addr)} {outer : List Env} {A₀ : Around} {base h₀ : Heap} {L : Addr} {m : Str → Option Value} {news : List (Addr × Obj)} {s : Shared} {Q E : Value → Shared → Prop}

theorem cols_spec (C : Cx w mean mg mb cs outer A₀ base h₀ L m news s) (hd1 : dp + 5 < recursionLimit) (hu : un + 100 < cLine) {row : Str} {t : Tok} {k j : Nat} (hk4 : k < 4) (hj3 : j < 3) (hrow : row.cps = (leadOf k j).toArray)
    (hret : ∀ c us n tl h' tk', Fr h₀ L h' m → News h₀ L h' (tl ++ news) → (∀ p ∈ tl, ∀ q ∈ news, q.1 < p.1) → (c, listOf us.toArray n) ∈ tl → IntsAre us [colOf k j 1, colOf k j 2, colOf k j 3] → Q (.ref c) { s with heap := h', toks := tk' }) :
    wpAny (model PySem.Challenge.rw_ti0073_01.row.prog w) (ktrTop dp un gd cn cs L a ccd cl outer) (call (.ref 305) [.str row t]) Q E s := by
  w_top off
  obtain ⟨B, F, X, N, T, hk⟩ := C
  revert X
  k_fill
  intro X
  k_dflt (refine' enter (binds := [(Str.ofString "lead", .str row t)]) B F X N T hk ?k6 ?k7 ?k8 ?k9 ?kB ?_ ?c2 ?c3 ?c4 ?c5; (case k6 => k_is); (case k7 => k_is); (case k8 => kst_p2); (case k9 => exact BindsTo.of_eq rfl); (case c5 => decide); (case kB => exact locs rfl); (case c2 => exact rfl); (case c3 => exact rfl); (case c4 => exact rfl))
  intro gH LF hF FG F1 N1 B1 X1 T1 lL
  simp only [List.reverse_cons, List.reverse_nil, List.nil_append, List.cons_append] at F1
  (try k_fold)
  (try (with_reducible refine (let A9 : PySem.Around := _; let e9 : PySem.Env := _; (?_ : PySem.wpAny _ A9 (PySem.execs _ e9) _ _ _))))
  w_strict repeat' ((fail_if_success (with_reducible show wpAny _ _ (exec (Stmt.For _ _ _ _ _) _) _ _ _)); kla_enter)
  refine wpAny_For ?_
  w_strict repeat' ((fail_if_success (with_reducible show wpAny _ _ (pyIter _) _ _ _)); kla_enter)
  rename Fr gH LF _ _ => F2
  rename News gH LF _ _ => N2
  rename_i _ cA _ lcA _ tA _ ltA
  (try k_fold)
  first | (refine Mine.ex_3 (show ∃ ta tb tc, News gH LF _ ((tA, tupO [.int 1 ta, .int 2 tb, .int 3 tc]) :: (cA, listOf ([] : List Value).toArray 0) :: news) from ⟨_, _, _, N2⟩) ?_; rintro ta tb tc N2') | (obtain ⟨ta, tb, tc, N2'⟩ : ∃ ta tb tc, News gH LF _ ((tA, tupO [.int 1 ta, .int 2 tb, .int 3 tc]) :: (cA, listOf ([] : List Value).toArray 0) :: news) := ⟨_, _, _, N2⟩)
  clear N2
  refine' fort (L := LF) (vs := [.int 1 ta, .int 2 tb, .int 3 tc]) (σ := List Value × Nat) (fun _ => s.gens) (fun c => (tA, tupO [.int 1 ta, .int 2 tb, .int 3 tc]) :: (cA, listOf c.1.toArray c.2) :: news)
    (fun c => [(Str.ofString "lead", .str row t), (Str.ofString "columns", .ref cA)]) (fun i c => i ≤ 3 ∧ IntsAre c.1 ([colOf k j 1, colOf k j 2, colOf k j 3].take i)) ([], 0) rfl rfl (fun _ => .head _) rfl F2 N2' ?mk1 ?mp1 ?mt1 ?md1
  case mk1 => kst_all
  case mp1 => exact ⟨Nat.zero_le _, .nil⟩
  case md1 =>
    (try k_fold)
    first | (refine Mine.poxxc ?_; intro us n) | (rintro ⟨us, n⟩)
    rintro u h2 tk2 ⟨-, hus⟩ F3 N3
    dsimp only at hus F3 N3 ⊢
    w_strict repeat' kla_enter
    refine hret cA us n [(cA, listOf us.toArray n)] _ _ (by assumption) (nsub (by assumption) (by kst_allIn)) ?_ (.head _) hus
    intro p hp q hq
    rw [List.mem_singleton.mp hp]
    exact lcA q hq
  case mt1 =>
    rintro i
    (try k_fold)
    first | (refine Mine.poxxc ?_; intro us n) | (rintro ⟨us, n⟩)
    rintro v u h3 tk3 it o hi hv ⟨-, hus⟩ hit F3 N3
    dsimp only at hus hit F3 N3 ⊢
    have hit0 := hit
    have hi3 : i < 3 := hi
    (try k_fold)
    obtain ⟨tz, rfl⟩ : ∃ tz, v = .int ((i + 1 : Nat) : Int) tz := by
      have : i = 0 ∨ i = 1 ∨ i = 2 := by kst_p2
      (try k_fold)
      rcases this with rfl | rfl | rfl <;> exact ⟨_, (Option.some.inj hv).symm⟩
    w_strict repeat' ((fail_if_success (with_reducible show wpAny _ _ (exec (Stmt.For _ _ _ _ _) _) _ _ _)); kla_enter)
    refine wpAny_For ?_
    w_strict repeat' ((fail_if_success (with_reducible show wpAny _ _ (pyIter _) _ _ _)); kla_enter)
    rename Fr gH LF _ _ => F4
    rename News gH LF _ _ => N4
    refine' fors (L := LF) (σ := Int × Tok) (fun _ => s.gens) (fun c => (it, o) :: (tA, tupO [.int 1 ta, .int 2 tb, .int 3 tc]) :: (cA, listOf us.toArray n) :: news)
      (fun c => [(Str.ofString "lead", .str row t), (Str.ofString "columns", .ref cA), (Str.ofString "size", .int ((i + 1 : Nat) : Int) tz), (Str.ofString "column", .int c.1 c.2)])
      (fun q c => c.1 = ((leadOf k j).take q).foldl (stepCol ((i + 1 : Nat) : Int)) 0 ∧ 0 ≤ c.1 ∧ c.1 ≤ 3 * (q : Int)) (0, _) rfl rfl rfl F4 (nsub N4 ?mn2) ?mk2 ?mp2 ?mt2 ?md2
    case mk2 => kst_all
    case mn2 => kst_allIn
    case mp2 => exact ⟨rfl, by kst_p2, by kst_p2⟩
    case mt2 =>
      rintro q
      (try k_fold)
      first | (refine Mine.poxxc ?_; intro col tcol) | (rintro ⟨col, tcol⟩)
      rintro kc tc u h2 tk2 it o hkc h9Q1 hit F3 N3
      obtain ⟨hcol, hc0, hc1⟩ := h9Q1
      dsimp only at hcol hc0 hc1 F3 N3 ⊢
      rw [hrow] at hkc
      simp only [List.getElem?_toArray] at hkc
      have hq : q < k + j := by
        have := (List.getElem?_eq_some_iff.mp hkc).1
        rwa [lead_len] at this
      have hfs := fold_step ((i + 1 : Nat) : Int) hkc
      have hsb := step_bnd (k := kc) (show (1 : Int) ≤ ((i + 1 : Nat) : Int) by kst_p2) (by kst_p2) hc0 hc1
      rw [← hcol] at hfs
      rw [lead_at (by assumption) (by assumption) hq] at hkc
      by_cases hqk : q + 1 = k
      case pos =>
        rw [if_pos hqk] at hkc
        (try k_fold)
        refine Mine.gk ?_
        intro Gz9 kz9
        (try k_fold)
        cases hkc
        all_goals (try (refine kz9 ?_; (try clear kz9 Gz9)))
        w_strict repeat' kla_enter
        rename Fr gH LF _ _ => F8
        rename News gH LF _ _ => N8
        refine' fend (stepCol ((i + 1 : Nat) : Int) col 9, _) F8 N8 (by kst_allIn) (by kst_allIn) (fun p hp e => hit p hp (List.mem_singleton.mp e)) ?wk1 ⟨hfs.symm, hsb.1, hsb.2⟩
        case wk1 => kst_all
      case neg =>
        rw [if_neg hqk] at hkc
        (try k_fold)
        refine Mine.gk ?_
        intro Gz9 kz9
        (try k_fold)
        cases hkc
        all_goals (try (refine kz9 ?_; (try clear kz9 Gz9)))
        w_strict repeat' kla_enter
        rename Fr gH LF _ _ => F8
        rename News gH LF _ _ => N8
        refine' fend (stepCol ((i + 1 : Nat) : Int) col 32, _) F8 N8 (by kst_allIn) (by kst_allIn) (fun p hp e => hit p hp (List.mem_singleton.mp e)) ?wk2 ⟨hfs.symm, hsb.1, hsb.2⟩
        case wk2 => kst_all
    case md2 =>
      (try k_fold)
      first | (refine Mine.poxxc ?_; intro col tcol) | (rintro ⟨col, tcol⟩)
      rintro u h2 tk2 h9Q1 F3 N3
      obtain ⟨hcol, hc0, hc1⟩ := h9Q1
      dsimp only at hcol hc0 hc1 F3 N3 ⊢
      rw [hrow] at hcol
      rw [List.size_toArray, List.take_of_length_le (Nat.le_refl _)] at hcol
      w_strict repeat' ((fail_if_success (with_reducible show wpAny _ _ (call (.builtin "list.append") _) _ _ _)); kla_enter)
      rename Fr gH LF _ _ => F8
      rename News gH LF _ _ => N8
      refine my_append (rest := (it, o) :: (tA, tupO [.int 1 ta, .int 2 tb, .int 3 tc]) :: news) F8 N8 (vs := us) (n := n) ?ap1 ?ap2 ?ap3 ?_
      case ap3 => rw [hus.length, sizeLine_eq, List.length_take]; kst_p2
      case ap1 => kst_allIn
      case ap2 =>
        refine Mine.fmc (fun e => hit0 (cA, listOf us.toArray n) (.tail _ (.head _)) e.symm) (Mine.fmc (Nat.ne_of_gt ltA.1) (fun p hp => ?_))
        · exact Nat.ne_of_lt (lcA p hp)
      intro h9 F9 N9
      have hus2 : IntsAre (us ++ [.int col tcol]) ([colOf k j 1, colOf k j 2, colOf k j 3].take (i + 1)) := by
        have : i = 0 ∨ i = 1 ∨ i = 2 := by kst_p2
        rcases this with e | e | e <;> rw [e] at hus hcol ⊢ <;> exact hcol ▸ hus.append (.cons _ _ .nil)
      w_strict repeat' kla_enter
      rename Fr gH LF _ _ => F7
      rename News gH LF _ _ => N7
      refine' fend (us ++ [.int col tcol], n + 1) F7 N7 (by kst_allIn) (by kst_allIn) ?fe1 ?wk3 ⟨by kst_p2, hus2⟩
      case wk3 => kst_all
      case fe1 =>
        intro p hp e
        have e2 := List.mem_singleton.mp e
        dsimp only at hp
        (try k_fold)
        rcases List.mem_cons.mp hp with rfl | hp
        · exact hit0 _ (.head _) e2
        (try k_fold)
        rcases List.mem_cons.mp hp with rfl | hp
        · exact hit0 (cA, listOf us.toArray n) (.tail _ (.head _)) e2
        · exact hit0 p (.tail _ (.tail _ hp)) e2
end
end Mine
end TCcols

section TCback
open PySem PySem.W PyProof.Rows PySem.Spec PySem.Calls
set_option Elab.async false
set_option maxRecDepth 100000
set_option maxHeartbeats 4000000
set_option linter.unusedVariables false
set_option linter.unusedSimpArgs false

namespace Mine
noncomputable def runB : List Int → Int × Int → Int × Int
  | [], p => p
  | d :: r, p => runB r (if d = 0 then (p.1 + p.2, p.2) else (p.1, p.2 + p.1))
noncomputable def Bits (l : List Int) : Prop := ∀ d ∈ l, d = 0 ∨ d = 1
theorem runB_app (l l' : List Int) (p : Int × Int) : runB (l ++ l') p = runB l' (runB l p) := by
  induction l generalizing p with
  | nil => rfl
  | cons d r ih => exact ih _
theorem runB_pos (l : List Int) (p : Int × Int) (h1 : 0 < p.1) (h2 : 0 < p.2) : 0 < (runB l p).1 ∧ 0 < (runB l p).2 := by
  induction l generalizing p with
  | nil => exact ⟨h1, h2⟩
  | cons d r ih =>
    apply ih
    · split <;> simp <;> kst_p2
    · split <;> simp <;> kst_p2
noncomputable def BackI (told : List Int) (a b : Int) (l : List Int) : Prop := ∃ pre, told = pre ++ l.reverse ∧ (a, b) = runB pre (1, 1)
theorem back_turn {told pre ns : List Int} {x y : Int} (hb : Bits told) (hp : told = pre ++ ns.reverse) (he : (x, y) = runB pre (1, 1)) (hne : x ≠ y) :
    (y < x → BackI told (x - y) y (ns ++ [0])) ∧ (¬ y < x → BackI told x (y - x) (ns ++ [1])) ∧ 0 < x ∧ 0 < y := by
  have hpos := runB_pos pre (1, 1) (by decide) (by decide)
  rw [← he] at hpos
  (try k_fold)
  rcases List.eq_nil_or_concat pre with rfl | ⟨pre', d, rfl⟩
  · simp [runB] at he
    kst_p2
  · rw [List.concat_eq_append] at he hp
    have hd : d = 0 ∨ d = 1 := hb d (by rw [hp]; simp)
    rw [runB_app] at he
    have hpos' := runB_pos pre' (1, 1) (by decide) (by decide)
    generalize hq : runB pre' (1, 1) = q at he hpos'
    simp only [runB] at he
    refine ⟨fun h => ⟨pre', ?_, ?_⟩, fun h => ⟨pre', ?_, ?_⟩, hpos⟩
    · (try k_fold)
      rcases hd with rfl | rfl
      · rw [hp]; simp
      · simp at he; kst_p2
    · (try k_fold)
      rcases hd with rfl | rfl
      · simp at he; rw [hq]; ext <;> simp <;> kst_p2
      · simp at he; kst_p2
    · (try k_fold)
      rcases hd with rfl | rfl
      · simp at he; kst_p2
      · rw [hp]; simp
    · (try k_fold)
      rcases hd with rfl | rfl
      · simp at he; kst_p2
      · simp at he; rw [hq]; ext <;> simp <;> kst_p2
theorem back_done {told pre ns : List Int} {x y : Int} (hp : told = pre ++ ns.reverse) (he : (x, y) = runB pre (1, 1)) (e : x = y) : x = 1 ∧ told = ns.reverse := by
  (try k_fold)
  rcases List.eq_nil_or_concat pre with rfl | ⟨pre', d, rfl⟩
  · simp [runB] at he
    exact ⟨he.1, by simpa using hp⟩
  · rw [List.concat_eq_append] at he hp
    rw [runB_app] at he
    have hpos' := runB_pos pre' (1, 1) (by decide) (by decide)
    generalize hq : runB pre' (1, 1) = q at he hpos'
    simp only [runB] at he
    split at he <;> simp at he <;> kst_p2
noncomputable abbrev BkS := Int × Int × Tok × Tok × List Value × List Int × Nat
section
variable {w : World} {mean : ExcName → Option Value} {mg mb : Str → Option Value} {dp un : Nat} {gd : Option (List Code)} {cn : Str} {cs : Scope} {a : Addr} {ccd : Value} {cl : List (Str × Addr)} {outer : List Env} {A₀ : Around} {base h₀ : Heap} {L : Addr} {m : Str → Option Value} {news : List (Addr × Obj)} {s : Shared} {Q E : Value → Shared → Prop}

theorem back_spec (C : Cx w mean mg mb cs outer A₀ base h₀ L m news s) (hd1 : dp + 2 < recursionLimit) (hu : un + 8 < cLine) {x y : Int} {t t2 : Tok} {told : List Int}
    (hb : Bits told) (hl : told.length ≤ 10000) (hxy : (x, y) = runB told (1, 1))
    (hret : ∀ d l' tt tl ws n h' tk', Fr h₀ L h' m → News h₀ L h' (tl ++ news) → (∀ p ∈ tl, ∀ q ∈ news, q.1 < p.1) → (d, tupO [.int 1 tt, .ref l']) ∈ tl → (l', listOf ws n) ∈ tl → IntsAre ws.toList told → Q (.ref d) { s with heap := h', toks := tk' }) :
    wpAny (model PySem.Challenge.rw_ti0073_01.row.prog w) (ktrTop dp un gd cn cs L a ccd cl outer) (call (.ref 317) [.int x t, .int y t2]) Q E s := by
  w_top off
  obtain ⟨B, F, X, N, T, hk⟩ := C
  revert X
  k_fill
  intro X
  k_dflt (refine' enter (binds := [(Str.ofString "one", .int x t), (Str.ofString "two", .int y t2)]) B F X N T hk ?k6 ?k7 ?k8 ?k9 ?kB ?_ ?c2 ?c3 ?c4 ?c5; (case k6 => k_is); (case k7 => k_is); (case k8 => kst_p2); (case k9 => exact BindsTo.of_eq rfl); (case c5 => decide); (case kB => exact locs rfl); (case c2 => exact rfl); (case c3 => exact rfl); (case c4 => exact rfl))
  intro gH LF hF FG F1 N1 B1 X1 T1 lL
  simp only [List.reverse_cons, List.reverse_nil, List.nil_append, List.cons_append] at F1
  (try k_fold)
  (try (with_reducible refine (let A9 : PySem.Around := _; let e9 : PySem.Env := _; (?_ : PySem.wpAny _ A9 (PySem.execs _ e9) _ _ _))))
  w_strict repeat' ((fail_if_success (with_reducible show wpAny _ _ (exec (Stmt.While _ _ _ _) _) _ _ _)); kla_enter)
  rename_i l _ l1 _ F2 N2
  (try k_fold)
  with_unfolding_all refine whl (σ := BkS) (fun c => (l, listOf c.2.2.2.2.1.toArray c.2.2.2.2.2.2) :: news) (fun c => [(Str.ofString "one", .int c.1 c.2.2.1), (Str.ofString "two", .int c.2.1 c.2.2.2.1), (Str.ofString "told", .ref l)]) (fun c => IntsAre c.2.2.2.2.1 c.2.2.2.2.2.1 ∧ BackI told c.1 c.2.1 c.2.2.2.2.2.1) (fun c => (c.1 + c.2.1).toNat) (x, y, t, t2, [], [], 0) F2 N2 ?mk1 ?mp1 ?_
  case mk1 => kst_all
  case mp1 => exact ⟨.nil, told, by simp, hxy⟩
  (try k_fold)
  first | (refine Mine.poxxxxxxxc ?_; intro x1 y1 t1 t3 vs ns n) | (rintro ⟨x1, y1, t1, t3, vs, ns, n⟩)
  rintro u h2 tk2 h9Q1 F3 N3
  (try k_fold)
  refine Mine.gk ?_
  intro Gz9 kz9
  obtain ⟨hvs, pre, hpre, hxy1⟩ := h9Q1
  refine kz9 ?_
  (try clear kz9 Gz9)
  dsimp only at hvs hpre hxy1 F3 N3 ⊢
  have hvl : vs.length ≤ 10000 := by
    have := hvs.length
    have h3 := congrArg List.length hpre
    simp at h3
    kst_p2
  w_strict repeat' kla_enter
  case' _ =>
    rename Fr _ _ _ _ => F9
    rename News _ _ _ _ => N9
    simp only [List.push_toArray] at N9
    have hh := back_turn hb hpre hxy1 (by assumption)
    refine wend (x1 - y1, y1, _, t3, vs ++ [.int 0 tk2], ns ++ [0], n + 1) F9 N9 (fun _ h => h) (by kst_all) ⟨hvs.append (.cons _ _ .nil), hh.1 (by assumption)⟩ (by simp only; kst_p2)
  case' _ =>
    rename Fr _ _ _ _ => F9
    rename News _ _ _ _ => N9
    simp only [List.push_toArray] at N9
    have hh := back_turn hb hpre hxy1 (by assumption)
    refine wend (x1, y1 - x1, t1, _, vs ++ [.int 1 tk2], ns ++ [1], n + 1) F9 N9 (fun _ h => h) (by kst_all) ⟨hvs.append (.cons _ _ .nil), hh.2.1 (by assumption)⟩ (by simp only; kst_p2)
  case' _ =>
    rename Fr _ _ _ _ => F9
    rename News _ _ _ _ => N9
    obtain ⟨e1, e2⟩ := back_done hpre hxy1 (by assumption)
    (try k_fold)
    subst e1
    rename IntsAre _ ns.reverse => hI
    rename _ ∧ _ ∧ AllLt _ news => k1
    rename _ ∧ AllLt _ news => k2
    refine hret _ _ _ [_, _, _] _ _ _ _ F9 N9 ?lt1 (List.Mem.head _) (List.Mem.tail _ (List.Mem.head _)) (e2 ▸ hI)
    intro q hq p hp
    simp only [List.mem_cons, List.not_mem_nil, or_false] at hq
    (try k_fold)
    refine Mine.gk ?_
    intro Gz9 kz9
    (try k_fold)
    rcases hq with rfl | rfl | rfl
    all_goals (try (refine kz9 ?_; (try clear kz9 Gz9)))
    · exact ktn_ltOf k1.2.2 p hp
    · exact ktn_ltOf k2.2 p hp
    · exact l1 p hp
end
end Mine
end TCback

section TPlaw
open PySem PySem.W PyProof.Rows PySem.Spec PySem.Calls
set_option maxRecDepth 100000
set_option linter.unusedVariables false
set_option linter.unusedSimpArgs false
namespace Mine
noncomputable def rowsD (wd n : Nat) : List RowD := (rowLines wd n).map fun x => ((kOf n, jOf n), x.cps.toList)
noncomputable def itemsOf (n : Nat) : List ((Nat × Nat) × Nat) := [((kOf n, jOf n), n / 12 % 2), ((kOf n, jOf n), n / 24 % 4)]
theorem chunk1_wL (n : Nat) : (chunk1 n).cps.toList = wL (n / 12 % 2) (if n % 7 = 0 then 0 else 1) := by
  unfold chunk1 wL
  rw [endS_EN]
theorem chunk2_wL (n : Nat) : (chunk2 n).cps.toList = wL (n / 24 % 4) 1 := rfl
theorem lead_cps (n : Nat) : (leadS n).cps.toList = leadOf (kOf n) (jOf n) := by unfold leadS; rfl
theorem s1_cps (f g : Str) : (strOf [(f, g)]).cps.toList = f.cps.toList ++ g.cps.toList := by rw [str_cps]; simp
theorem s2_cps (f g f' g' : Str) : (strOf [(f, g), (f', g')]).cps.toList = f.cps.toList ++ (g.cps.toList ++ (f'.cps.toList ++ g'.cps.toList)) := by rw [str_cps]; simp
theorem row_words (wd n : Nat) : (rowsD wd n).flatMap wordsOfRow = (itemsOf n).map fun p => (p.1, wordOf p.2) := by
  have ha : n / 12 % 2 < 4 := by kst_p2
  have hb : n / 24 % 4 < 4 := by kst_p2
  have he : (if n % 7 = 0 then 0 else 1) < 2 := by split <;> decide
  unfold rowsD rowLines
  split
  · simp only [List.map_cons, List.map_nil, List.flatMap_cons, List.flatMap_nil, List.append_nil, wordsOfRow, itemsOf]
    have h1 := line1 (kOf n) (jOf n) (n / 12 % 2) ha _ he 0
    have h2 := line1 (kOf n) (jOf n) (n / 24 % 4) hb 1 (by decide) 0
    rw [Nat.add_zero] at h1 h2
    rw [s1_cps, s1_cps, chunk1_wL, chunk2_wL, lead_cps, h1, h2]
    rfl
  · simp only [List.map_cons, List.map_nil, List.flatMap_cons, List.flatMap_nil, List.append_nil, wordsOfRow, itemsOf]
    rw [s2_cps, chunk1_wL, chunk2_wL, lead_cps, line2 (kOf n) (jOf n) (n / 12 % 2) ha _ he (n / 24 % 4) hb]
    rfl
theorem wL_head (b : Nat) (hb : b < 4) (e : Nat) (he : e < 2) : (∃ c r, wL b e = c :: r ∧ c ≠ 32 ∧ c ≠ 9) ∧ ∀ c ∈ wL b e, c < 128 := by
  have h : ∀ b, b < 4 → ∀ e, e < 2 → (match wL b e with | c :: _ => c != 32 && c != 9 | [] => false) = true ∧ (wL b e).all (fun c => decide (c < 128)) = true := by decide +kernel
  obtain ⟨h1, h2⟩ := h b hb e he
  constructor
  · cases hw : wL b e with
    | nil => rw [hw] at h1; cases h1
    | cons c r =>
      rw [hw] at h1
      simp only [Bool.and_eq_true, bne_iff_ne, ne_eq] at h1
      exact ⟨c, r, rfl, h1.1, h1.2⟩
  · intro c hc
    simpa using List.all_eq_true.mp h2 c hc
theorem rowV_of (x : Str) (t : Tok) (k j : Nat) (hk : k < 4) (hj : j < 3) (b : Nat) (hb : b < 4) (e : Nat) (he : e < 2) (rest : List Nat) (hx : x.cps.toList = leadOf k j ++ (wL b e ++ rest)) (hr : ∀ c ∈ rest, c < 128) (hl : rest.length ≤ 20) :
    RowV (.str x t) ((k, j), x.cps.toList) := by
  refine Mine.gk ?_
  intro Gz9 kz9
  obtain ⟨⟨c, r, hw, h1, h2⟩, h3⟩ := wL_head b hb e he
  refine kz9 ?_
  (try clear kz9 Gz9)
  refine ⟨t, rfl, ⟨c, r ++ rest, ?_, h1, h2⟩, hk, hj, ?_, ?_⟩
  · show x.cps.toList.toArray = _
    rw [hx, hw]; rfl
  · show x.cps.toList.length ≤ 100
    rw [hx, List.length_append, List.length_append, wL_len b hb e he, lead_len]
    kst_p2
  · intro c hc
    have hc : c ∈ x.cps.toList := hc
    rw [hx] at hc
    rcases List.mem_append.mp hc with hc | hc
    · rcases lead_blank k j c hc with rfl | rfl <;> kst_p2
    rcases List.mem_append.mp hc with hc | hc
    · exact h3 c hc
    · exact hr c hc
theorem row_rowV (wd n : Nat) (x : Str) (hx : x ∈ rowLines wd n) (t : Tok) : RowV (.str x t) ((kOf n, jOf n), x.cps.toList) := by
  have ha : n / 12 % 2 < 4 := by kst_p2
  have hb : n / 24 % 4 < 4 := by kst_p2
  have he : (if n % 7 = 0 then 0 else 1) < 2 := by split <;> decide
  have hk : kOf n < 4 := Nat.mod_lt _ (by decide)
  have hj : jOf n < 3 := Nat.mod_lt _ (by decide)
  unfold rowLines at hx
  split at hx
  · simp only [List.mem_cons, List.not_mem_nil, or_false] at hx
    rcases hx with rfl | rfl
    · exact rowV_of _ t _ _ hk hj _ ha _ he [] (by rw [s1_cps, chunk1_wL, lead_cps, List.append_nil]) (fun c h => nomatch h) (by simp)
    · exact rowV_of _ t _ _ hk hj _ hb 1 (by decide) [] (by rw [s1_cps, chunk2_wL, lead_cps, List.append_nil]) (fun c h => nomatch h) (by simp)
  · simp only [List.mem_cons, List.not_mem_nil, or_false] at hx
    subst hx
    refine rowV_of _ t _ _ hk hj _ ha _ he (leadOf (kOf n) (jOf n) ++ wL (n / 24 % 4) 1) (by rw [s2_cps, chunk1_wL, chunk2_wL, lead_cps]) ?_ ?_
    · intro c hc
      rcases List.mem_append.mp hc with hc | hc
      · rcases lead_blank _ _ c hc with rfl | rfl <;> kst_p2
      · exact (wL_head _ hb 1 (by decide)).2 c hc
    · rw [List.length_append, wL_len _ hb 1 (by decide), lead_len]; kst_p2
theorem items_app {α : Type} {R : Value → α → Prop} {vs ws : List Value} {ps qs : List α} (h : Items R vs ps) (h2 : Items R ws qs) : Items R (vs ++ ws) (ps ++ qs) := by
  induction h with
  | nil => exact h2
  | cons h _ ih => exact .cons h ih
theorem strs_split : ∀ (xs ys : List Str) (vs : List Value), StrsAre vs (xs ++ ys) → ∃ us ws, vs = us ++ ws ∧ StrsAre us xs ∧ StrsAre ws ys := by
  intro xs
  induction xs with
  | nil => exact fun ys vs h => ⟨[], vs, rfl, .nil, h⟩
  | cons x xs ih =>
    intro ys vs h
    cases h with
    | cons _ t h =>
      refine Mine.gk ?_
      intro Gz9 kz9
      obtain ⟨us, ws, rfl, h1, h2⟩ := ih ys _ h
      refine kz9 ?_
      (try clear kz9 Gz9)
      exact ⟨_ :: us, ws, rfl, .cons _ _ h1, h2⟩
theorem page_rows (wd : Nat) : ∀ (ns : List Nat) (pv : List Value), StrsAre pv (ns.flatMap (rowLines wd)) → Items RowV pv (ns.flatMap (rowsD wd)) := by
  intro ns
  induction ns with
  | nil => intro pv h; cases h; exact .nil
  | cons n r ih9 =>
    intro pv h
    rw [List.flatMap_cons] at h ⊢
    refine Mine.gk ?_
    intro Gz9 kz9
    obtain ⟨us, ws, rfl, h1, h2⟩ := strs_split _ _ _ h
    refine kz9 ?_
    (try clear kz9 Gz9)
    refine items_app ?_ (ih9 ws h2)
    have key : ∀ (l : List Str) (vs : List Value), (∀ x ∈ l, x ∈ rowLines wd n) → StrsAre vs l → Items RowV vs (l.map fun x => ((kOf n, jOf n), x.cps.toList)) := by
      intro l
      induction l with
      | nil => intro vs _ hv; cases hv; exact .nil
      | cons x l ih =>
        intro vs hm hv
        cases hv with
        | cons _ t hv => exact .cons (row_rowV wd n x (hm x (.head _)) t) (ih _ (fun y hy => hm y (.tail _ hy)) hv)
    exact key _ _ (fun x hx => hx) h1
theorem page_len (wd : Nat) (ns : List Nat) : (ns.flatMap (rowLines wd)).length = ns.length + (ns.filter (Parted wd)).length := by
  induction ns with
  | nil => rfl
  | cons n r ih =>
    rw [List.flatMap_cons, List.length_append, ih, List.length_cons, List.filter_cons]
    unfold rowLines
    split
    · simp only [List.length_cons, List.length_nil]; kst_p2
    · simp only [List.length_cons, List.length_nil]; kst_p2
theorem page_words (wd : Nat) (ns : List Nat) : (ns.flatMap (rowsD wd)).flatMap wordsOfRow = (ns.flatMap itemsOf).map fun p => (p.1, wordOf p.2) := by
  induction ns with
  | nil => rfl
  | cons n r ih => rw [List.flatMap_cons, List.flatMap_append, ih, row_words, List.flatMap_cons, List.map_append]
theorem rows_len (wd : Nat) (ns : List Nat) : (ns.flatMap (rowsD wd)).length = (ns.flatMap (rowLines wd)).length := by
  induction ns with
  | nil => rfl
  | cons n r ih => rw [List.flatMap_cons, List.flatMap_cons, List.length_append, List.length_append, ih]; unfold rowsD; rw [List.length_map]
theorem iter_rep (f : Int × Int → Int × Int) (l : List Int) (h : ∀ p, f p = runB l p) : ∀ n p, iterN f n p = runB (repL n l) p
  | 0, p => rfl
  | n + 1, p => by
    have e : repL (n + 1) l = l ++ repL n l := by simp [repL, List.replicate_succ]
    rw [e, runB_app, ← h, ← iter_rep f l h n]
    rfl
theorem runF_eq : ∀ (f : Fo), f.ok → ∀ p, runF f p = runB (toldOf f) p := by
  intro f
  induction f with
  | nil => exact fun _ _ => rfl
  | cons w b r ib ir =>
    intro h p
    obtain ⟨hw, hb, hr⟩ := h
    have ib := ib hb
    rw [runF, ir hr, toldOf, runB_app]
    congr 1
    rcases lt4c hw with rfl | rfl | rfl | rfl
    · show runF b _ = runB (0 :: toldOf b) p; rw [ib]; rfl
    · show runF b _ = runB (1 :: toldOf b) p; rw [ib]; rfl
    · exact iter_rep (runF b) (toldOf b) ib 2 p
    · exact iter_rep (runF b) (toldOf b) ib 3 p
theorem forest_ok {α : Type} (lt : α → α → Bool) : ∀ (k : Nat) (ws : List (α × Nat)), ws.length ≤ k → (∀ x ∈ ws, x.2 < 4) → (forest lt ws).ok ∧ (forest lt ws).hgt ≤ ws.length := by
  intro k
  induction k with
  | zero =>
    intro ws hk _
    have : ws = [] := List.length_eq_zero_iff.mp (by kst_p2)
    subst this
    rw [forest0]
    exact ⟨by first | trivial | rfl, Nat.le_refl _⟩
  | succ k ih =>
    intro ws hk hok
    cases ws with
    | nil => rw [forest0]; exact ⟨by first | trivial | rfl, Nat.le_refl _⟩
    | cons p r =>
      have l1 := (List.takeWhile_sublist (l := r) fun q => lt p.1 q.1).length_le
      have l2 := (List.dropWhile_sublist (l := r) fun q => lt p.1 q.1).length_le
      simp only [List.length_cons] at hk
      have h1 := ih (r.takeWhile fun q => lt p.1 q.1) (by kst_p2) fun x hx => hok x (List.mem_cons_of_mem _ ((List.takeWhile_sublist _).subset hx))
      have h2 := ih (r.dropWhile fun q => lt p.1 q.1) (by kst_p2) fun x hx => hok x (List.mem_cons_of_mem _ ((List.dropWhile_sublist _).subset hx))
      rw [forest1]
      refine ⟨⟨hok p (.head _), h1.1, h2.1⟩, ?_⟩
      show max _ _ ≤ _
      rw [List.length_cons]
      kst_p2
theorem bits_rep (n : Nat) (l : List Int) (h : Bits l) : Bits (repL n l) := by
  intro d hd
  unfold repL at hd
  obtain ⟨m, hm, hd⟩ := List.mem_flatten.mp hd
  rw [List.eq_of_mem_replicate hm] at hd
  exact h d hd
theorem told_bits (f : Fo) : Bits (toldOf f) := by
  induction f with
  | nil => exact fun d hd => by cases hd
  | cons w b r ib ir =>
    intro d hd
    rw [toldOf] at hd
    rcases List.mem_append.mp hd with hd | hd
    · split at hd
      · rename_i hw
        rcases List.mem_cons.mp hd with rfl | hd
        · have : w = 0 ∨ w = 1 := by kst_p2
          rcases this with rfl | rfl
          · exact .inl rfl
          · exact .inr rfl
        · exact ib d hd
      · exact bits_rep w _ ib d hd
    · exact ir d hd
theorem forest_map {α β : Type} (lt : α → α → Bool) (lt' : β → β → Bool) (f : α → β) : ∀ (k : Nat) (ws : List (α × Nat)), ws.length ≤ k → (∀ x ∈ ws, ∀ y ∈ ws, lt' (f x.1) (f y.1) = lt x.1 y.1) → forest lt' (ws.map fun p => (f p.1, p.2)) = forest lt ws := by
  intro k
  induction k with
  | zero =>
    intro ws hk _
    have : ws = [] := List.length_eq_zero_iff.mp (by kst_p2)
    subst this
    rw [List.map_nil, forest0, forest0]
  | succ k ih =>
    intro ws hk h
    cases ws with
    | nil => rw [List.map_nil, forest0, forest0]
    | cons p r =>
      have l1 := (List.takeWhile_sublist (l := r) fun q => lt p.1 q.1).length_le
      have l2 := (List.dropWhile_sublist (l := r) fun q => lt p.1 q.1).length_le
      simp only [List.length_cons] at hk
      have s1 : ∀ x ∈ r.takeWhile (fun q => lt p.1 q.1), x ∈ p :: r := fun x hx => List.mem_cons_of_mem _ ((List.takeWhile_sublist _).subset hx)
      have s2 : ∀ x ∈ r.dropWhile (fun q => lt p.1 q.1), x ∈ p :: r := fun x hx => List.mem_cons_of_mem _ ((List.dropWhile_sublist _).subset hx)
      have h1 := ih (r.takeWhile fun q => lt p.1 q.1) (by kst_p2) fun x hx y hy => h x (s1 x hx) y (s1 y hy)
      have h2 := ih (r.dropWhile fun q => lt p.1 q.1) (by kst_p2) fun x hx y hy => h x (s2 x hx) y (s2 y hy)
      rw [List.map_cons, forest1, forest1, ← h1, ← h2]
      have e : ∀ q ∈ r, (lt' (f p.1) (f q.1)) = lt p.1 q.1 := fun q hq => h p (.head _) q (.tail _ hq)
      have key : ∀ l : List (α × Nat), (∀ q ∈ l, lt' (f p.1) (f q.1) = lt p.1 q.1) →
          (l.map fun p => (f p.1, p.2)).takeWhile (fun q => lt' (f p.1) q.1) = (l.takeWhile fun q => lt p.1 q.1).map (fun p => (f p.1, p.2)) ∧
          (l.map fun p => (f p.1, p.2)).dropWhile (fun q => lt' (f p.1) q.1) = (l.dropWhile fun q => lt p.1 q.1).map (fun p => (f p.1, p.2)) := by
        intro l hl
        induction l with
        | nil => exact ⟨rfl, rfl⟩
        | cons q l ihl =>
          have hq := hl q (.head _)
          have hl' := ihl fun x hx => hl x (.tail _ hx)
          rw [List.map_cons, List.takeWhile_cons, List.takeWhile_cons, List.dropWhile_cons, List.dropWhile_cons]
          dsimp only
          rw [hq]
          by_cases hb : lt p.1 q.1 = true
          · rw [if_pos hb, if_pos hb, if_pos hb, if_pos hb, hl'.1, hl'.2]; exact ⟨rfl, rfl⟩
          · rw [if_neg hb, if_neg hb, if_neg hb, if_neg hb]; exact ⟨rfl, rfl⟩
      obtain ⟨k1, k2⟩ := key r e
      dsimp only
      rw [k1, k2]
theorem items_bnd (ns : List Nat) : ∀ x ∈ ns.flatMap itemsOf, x.2 < 4 ∧ x.1.1 < 4 ∧ x.1.2 < 3 := by
  intro x hx
  obtain ⟨n, _, hx⟩ := List.mem_flatMap.mp hx
  unfold itemsOf at hx
  simp only [List.mem_cons, List.not_mem_nil, or_false] at hx
  have hk : kOf n < 4 := Nat.mod_lt _ (by decide)
  have hj : jOf n < 3 := Nat.mod_lt _ (by decide)
  rcases hx with rfl | rfl
  · exact ⟨by show n / 12 % 2 < 4; kst_p2, hk, hj⟩
  · exact ⟨by show n / 24 % 4 < 4; kst_p2, hk, hj⟩
theorem items_len (ns : List Nat) : (ns.flatMap itemsOf).length = 2 * ns.length := by
  induction ns with
  | nil => rfl
  | cons n r ih => rw [List.flatMap_cons, List.length_append, ih, List.length_cons]; show 2 + _ = _; kst_p2
noncomputable def colItems (ns : List Nat) : List (Cols × Nat) := (ns.flatMap itemsOf).map fun p => (colsOf p.1.1 p.1.2, p.2)
theorem forest_cols (ns : List Nat) : forest ltC (colItems ns) = forest ltW (ns.flatMap itemsOf) := by
  refine forest_map ltW ltC (fun p => colsOf p.1 p.2) _ _ (Nat.le_refl _) fun x hx y hy => ?_
  have h1 := items_bnd ns x hx
  have h2 := items_bnd ns y hy
  exact (less_cols _ _ _ _ h1.2.1 h1.2.2 h2.2.1 h2.2.2).symm
theorem run_told (ns : List Nat) (p : Int × Int) : runF (forest ltW (ns.flatMap itemsOf)) p = runB (toldOf (forest ltC (colItems ns))) p := by
  rw [forest_cols]
  exact runF_eq _ (forest_ok ltW _ _ (Nat.le_refl _) fun x hx => (items_bnd ns x hx).1).1 p
theorem told_small (ns : List Nat) (h : ns.length = 4) : (toldOf (forest ltC (colItems ns))).length ≤ 10000 := by
  have h1 := told_len ltC _ (colItems ns) (Nat.le_refl _) fun x hx => by
    obtain ⟨y, hy, rfl⟩ := List.mem_map.mp hx
    exact (items_bnd ns y hy).1
  have h2 : (colItems ns).length = 8 := by unfold colItems; rw [List.length_map, items_len, h]
  rw [h2] at h1
  have : (3 : Nat) ^ 8 = 6561 := by decide
  kst_p2
theorem items_map {α β : Type} {R : Value → β → Prop} {R' : Value → α → Prop} (f : α → β) : ∀ (l : List α) (vs : List Value), (∀ v, ∀ p ∈ l, R v (f p) → R' v p) → Items R vs (l.map f) → Items R' vs l := by
  intro l
  induction l with
  | nil => intro vs _ h; cases h; exact .nil
  | cons p l ih => intro vs h k; cases k with | cons hv r => exact .cons (h _ p (.head _) hv) (ih _ (fun v q hq => h v q (.tail _ hq)) r)
theorem items_W {w : World} {news : List (Addr × Obj)} {us : List Value} {l : List ((Nat × Nat) × Nat)} (h : Items (ItemI w news) us (l.map fun p => (p.1, wordOf p.2))) (hb : ∀ x ∈ l, x.2 < 4 ∧ x.1.1 < 4 ∧ x.1.2 < 3) : Items (ItemW w news) us l := by
  refine items_map _ l us (fun v p hp hv => ?_) h
  refine Mine.gk ?_
  intro Gz9 kz9
  obtain ⟨t, wx, wl, us, n, e, h1, h2, h3, h4, h5, hi⟩ := hv
  refine kz9 ?_
  (try clear kz9 Gz9)
  exact ⟨t, wx, wl, e, h1, h2, h3, h4, us, n, h5, hi⟩
noncomputable def colN (n : Nat) : List (Cols × Nat) := [(colsOf (kOf n) (jOf n), n / 12 % 2), (colsOf (kOf n) (jOf n), n / 24 % 4)]
noncomputable def listAt (ns : List Nat) (i j : Nat) : List (Cols × Nat) := (ns.take i).flatMap colN ++ ((ns[i]?.map colN).getD []).take j
theorem listAt_step (ns : List Nat) (i : Nat) : listAt ns i 2 = listAt ns (i + 1) 0 := by
  unfold listAt
  rw [show ns.take (i + 1) = ns.take i ++ ns[i]?.toList from List.take_add_one .., List.flatMap_append, List.take_zero, List.append_nil]
  cases h : ns[i]? with
  | none => rfl
  | some n => rfl
theorem listAt_zero (ns : List Nat) : listAt ns 0 0 = [] := rfl
theorem listAt_all (ns : List Nat) : listAt ns ns.length 0 = colItems ns := by
  unfold listAt colItems
  rw [List.take_length, List.take_zero, List.append_nil, List.map_flatMap]
  rfl
theorem listAt_turn {ns : List Nat} {i n j : Nat} (h : ns[i]? = some n) (hj : j < 2) {p : Cols × Nat} (hp : (colN n)[j]? = some p) : listAt ns i (j + 1) = listAt ns i j ++ [p] := by
  unfold listAt
  rw [h, List.append_assoc]
  congr 1
  show (colN n).take (j + 1) = (colN n).take j ++ [p]
  rw [List.take_add_one, hp]
  rfl
noncomputable def tdD (l : List Int) : PyData := .tuple [.int 1, .list (l.map .int)]
theorem ints_lay : ∀ l : List Int, PyData.canLayAll0 (l.map .int) = true ∧ PyData.depthAll (l.map .int) = 0
  | [] => ⟨rfl, rfl⟩
  | x :: r => by
    obtain ⟨h1, h2⟩ := ints_lay r
    rw [List.map_cons]
    simp [PyData.canLayAll0, PyData.canLay0, PyData.depthAll, PyData.depth, h1, h2]
theorem td_shaped (l : List Int) : SeqAt.shaped (tdD l) = true := by
  obtain ⟨h1, h2⟩ := ints_lay l
  simp [tdD, SeqAt.shaped, PyData.canLay0, PyData.canLayAll0, PyData.depth, PyData.depthAll, h1, h2]
theorem td_eqv (l : List Int) : PyData.eqv (tdD l) (tdD l) = true := SeqAt.eqv_refl _ (SeqAt.canLay_of_shaped (td_shaped l))
theorem td_reads {h₀ h : Heap} {L : Addr} {news : List (Addr × Obj)} (N : News h₀ L h news) {d l : Addr} {t : Tok} {vs : List Value} {n : Nat} {ns : List Int} (h1 : (d, tupO [.int 1 t, .ref l]) ∈ news) (h2 : (l, listOf vs.toArray n) ∈ news) (hi : IntsAre vs ns) : Reads h (.ref d) (tdD ns) ([] ++ ((l :: []) ++ [])) :=
  .tuple (N _ h1).1 rfl rfl (.cons (.int 1 t) (.cons (.list (N _ h2).1 rfl rfl (hi.reads h)) .nil))
end Mine
end TPlaw

section TClaw
open PySem PySem.W PyProof.Rows PySem.Spec PySem.Calls
set_option Elab.async false
set_option maxRecDepth 100000
set_option maxHeartbeats 4000000
set_option linter.unusedVariables false
set_option linter.unusedSimpArgs false

local macro_rules | `(tactic| k_mem) => `(tactic| first | (with_reducible exact List.mem_cons_self) | (with_reducible refine List.mem_cons.mpr (.inl (congrArg (Prod.mk _) ?_)); exact rfl) | (with_reducible refine List.mem_cons_of_mem _ ?_; k_mem) | (with_reducible refine List.mem_append_right _ ?_; k_mem) | (with_reducible refine List.mem_append_left _ ?_; k_mem) | ktr_member | exact List.Mem.head _)
namespace Mine
set_option maxHeartbeats 0 in
theorem law_walk : PySem.Challenge.rw_ti0073_01.Holds := hd (by
  w_top off
  k_fill
  intro w s₀ s₁ mg mb G Y fa o pm cd doc dV kV ho hd9 hcd hD hmg hg args vals as hpre hlay hrd hwl hlo
  have KX := km_in_of Y
  have hT8 := km_tabs_of Y
  have hT9 := gh_tabs KX hT8
  have X := (Ground.X G).1
  have V := (Ground.X G).2
  refine Ground.open G ?_
  intro T B D TE TW
  try (refine guard_noD D (by decide +kernel) ?_; clear D)
  clear hmg
  wrow_args hpre hlay hrd hwl hlo
  all_goals (
    first | refine callC_kw (enter_call ?_) | refine enter_call ?_
    w_top on
    refine gh_post hT9 (fun _ _ => rfl) ?hpost ?_
    case hpost => first | wrow_post | (exact postW_of (by wrow_shape) (by wtm_val) (by rfl))
    w_call any ho hd9 hcd hD T F
    clear hd9
    rename News _ _ _ _ => N
    have l0 := ghost_lt hT9 F
    have X' := ghost_K hT9 KX (gh_no _)
    have T' := gh_top hT9 KX T
    have K' := ghost_below hT9
    have N' := ghost_news hT9 F N
    have F' := ghost_fr hT9 F
    kn_lists hT9
    simp only [tabNews, List.map_cons, List.map_nil, List.nil_append, List.cons_append] at N'
    simp only [tabNews, List.map_cons, List.map_nil] at l0
    k_lt l0
    clear N KX F
    k_drop)
  rename Fr _ _ _ _ => F0
  rename News _ _ _ _ => N0
  rename IntsAre _ _ => hI
  rename Heap.IsList (ghostOf _ _) _ _ => hSL
  rename_i xs _ _ _ _ _ _ _ sl vs _ _ _ _ _ _ hlen _ hS tk1 ow od how hod X0
  generalize hgg : ghostOf s₁.heap tabs2 = gH at F0 N0 X' T' K' hSL ⊢
  generalize hLL : s₁.heap.objs.size = LF at F0 N0 l0 ⊢
  replace F0 : Fr gH LF hS (kstB (fun _ => none) ([(Str.ofString "script", .ref sl)])) := by with_unfolding_all exact F0
  replace how : ow.data = .cell none := how
  replace hod : od.data = .cell none := hod
  replace N0 : News gH LF hS [(LF + 1 + 1, ow), (LF + 1, od), (140, plO #[]), (147, plO #[])] := N0
  refine (show wpAny _ (ktrTop 302 7 _ _ _ LF fa cd [(Str.ofString "width", LF + 1 + 1), (Str.ofString "drawn", LF + 1)] []) (execs _ (envX _ _ LF fa cd [(Str.ofString "width", LF + 1 + 1), (Str.ofString "drawn", LF + 1)])) _ _ _ from ?_)
  clear X0
  dsimp only
  rename ¬ _ < _ => hlen
  clear G Y ho hcd hT8 X V T B TE TW hD
  w_strict repeat' ((fail_if_success (with_reducible show wpAny _ _ (exec (Stmt.Assign _ _ _) _) _ _ _)); kla_enter)
  refine wpAny_mono (E := fun _ _ => False) (Q := fun f s₂ => Hold (f = .next ∧ ∃ D ys zs od' h' tk', s₂ = { heap := h', gens := s₁.gens, drawn := s₁.drawn, toks := tk', os := s₁.os } ∧ od'.data = .cell (some (.ref D)) ∧ IntsAre ys (List.map (fun y : Nat => (y : Int)) zs) ∧ zs.length ≤ 12 ∧ (∀ z ∈ zs, z < 1000000) ∧ Fr gH LF h' (kstB (fun _ => none) ([(Str.ofString "script", .ref sl)])) ∧ News gH LF h' [(D, listOf ys.toArray ys.length), (LF + 1 + 1, ow), (LF + 1, od'), (140, plO #[]), (147, plO #[])] ∧ LF + 1 + 1 < D)) ?S1 (Mine.hq_6 ?_) fun _ _ x => x.elim
  case S1 =>
    w_strict repeat' ((fail_if_success (with_reducible show wpAny _ _ (eval (Expr.ListComp _ _ _ _) _) _ _ _)); kla_enter)
    refine comp_open (cl := []) (by rfl) (by rfl) (by decide) ?_
    w_strict repeat' ((fail_if_success (with_reducible show wpAny _ _ (pyIter _) _ _ _)); kla_enter)
    rename Fr gH LF _ _ => F1
    rename News gH LF _ _ => N1
    rename IntsAre _ (List.take 12 xs) => hI1
    rename_i D0 ws h1 hl0 _ lD0
    (try k_fold)
    refine' comp_listE (σ := Unit) (vs := ws) (fun _ => s₁.gens) (fun _ => [(D0, listOf ws.toArray 0), (LF + 1 + 1, ow), (LF + 1, od), (140, plO #[]), (147, plO #[])])
      (fun i ys _ => ∃ zs : List Nat, IntsAre ys (List.map (fun y : Nat => (y : Int)) zs) ∧ zs.length = i ∧ ∀ z ∈ zs, z < 1000000) () rfl (fun _ => .head _) (by rw [hI1.length, hl0, sizeLine_eq]; kst_p2) (by decide) (by decide) (by rfl) rfl F1 N1 ?mp1 ?mt1 ?mr1
    case mp1 => exact ⟨[], .nil, rfl, fun _ h => nomatch h⟩
    case mt1 =>
      rintro i ys c v C oC D m₂ h7 tk7 it o hv h9Q1 hoC hm1 hoff hlo hDC F7 N7
      (try k_fold)
      refine Mine.gk ?_
      intro Gz9 kz9
      obtain ⟨zs, hz, hzl, hzb⟩ := h9Q1
      refine kz9 ?_
      (try clear kz9 Gz9)
      (try k_fold)
      first | (refine Mine.ex_2 (ints_at hI1 i v hv) ?_; rintro kv tv h9E; refine Mine.cj_2 h9E ?_; clear h9E; rintro hkv rfl) | (obtain ⟨kv, tv, hkv, rfl⟩ := ints_at hI1 i v hv)
      refine wpAny_tests_nil ?_
      (try k_unfold)
      (try dsimp only)
      rw [if_pos rfl]
      w_strict repeat' (first | (k_here; (with_reducible show wpAny _ _ (PySem.eval (PySem.Expr.Name _ _) (compEnvC _ _ _ _)) _ _ _); k_dflt (first | ((first | (with_reducible show wpAny _ _ (PySem.eval (PySem.Expr.Name (PySem.Str.ofString "sum") _) _) _ _ _) | (with_reducible show wpAny _ _ (PySem.eval (PySem.Expr.Name (PySem.Str.ofString "len") _) _) _ _ _) | (with_reducible show wpAny _ _ (PySem.eval (PySem.Expr.Name (PySem.Str.ofString "range") _) _) _ _ _) | (with_reducible show wpAny _ _ (PySem.eval (PySem.Expr.Name (PySem.Str.ofString "enumerate") _) _) _ _ _) | (with_reducible show wpAny _ _ (PySem.eval (PySem.Expr.Name (PySem.Str.ofString "zip") _) _) _ _ _) | (with_reducible show wpAny _ _ (PySem.eval (PySem.Expr.Name (PySem.Str.ofString "str") _) _) _ _ _) | (with_reducible show wpAny _ _ (PySem.eval (PySem.Expr.Name (PySem.Str.ofString "min") _) _) _ _ _) | (with_reducible show wpAny _ _ (PySem.eval (PySem.Expr.Name (PySem.Str.ofString "max") _) _) _ _ _)); refine LCgL.ld_built (by k_asm) (by k_asm) (by k_asm) (by k_is) (by boot_by_name) (by decide) ?_) | ((first | (with_reducible show wpAny _ _ (PySem.eval (PySem.Expr.Name (PySem.Str.ofString "drawn") _) _) _ _ _) | (with_reducible show wpAny _ _ (PySem.eval (PySem.Expr.Name (PySem.Str.ofString "width") _) _) _ _ _)); refine kcf_cell (by k_asm) (by rfl) (by k_mem) (by k_asm) ?_ (by rfl) (by kernel_rfl) (by decide)) | refine LCgL.ld_own (by k_asm) (by ((repeat (first | (with_reducible exact List.mem_cons_self) | (with_reducible refine List.mem_cons_of_mem _ ?_))); (first | done | fail "open"))) (by assumption) (by assumption) ?_ | refine LCgL.ld_built (by k_asm) (by k_asm) (by k_asm) (by k_is) (by boot_by_name) (by decide) ?_ | refine LCgL.ld_global (by k_asm) (by k_asm) (by k_asm) (by k_is) ?_)) | kla_enter)
      have hk0 : 0 ≤ Int.fmod kv 1000000 := Int.fmod_nonneg_of_pos _ (by decide)
      have hk1 : Int.fmod kv 1000000 < 1000000 := Int.fmod_lt_of_pos _ (by decide)
      refine cend () F7 N7 (by kst_allIn) (by simp) (by simp) (by kst_allIn) (fun p hp => ⟨fun e => (hoff p hp).1 (List.mem_singleton.mp e), (hoff p hp).2⟩) ⟨zs ++ [(Int.fmod kv 1000000).toNat], ?_, ?_, ?_⟩
      · rw [List.map_append, List.map_singleton, Int.toNat_of_nonneg hk0]
        exact ints_snoc hz
      · rw [List.length_append, List.length_singleton, hzl]
      · intro z hz9
        rcases List.mem_append.mp hz9 with hz9 | hz9
        · exact hzb z hz9
        · rw [List.mem_singleton.mp hz9]; kst_p2
    case mr1 =>
      rintro D h7 tk7 ys c F7 N7 hoff hle h9Q1
      (try k_fold)
      refine Mine.gk ?_
      intro Gz9 kz9
      obtain ⟨zs, hz, hzl, hzb⟩ := h9Q1
      refine kz9 ?_
      (try clear kz9 Gz9)
      w_strict repeat' ((fail_if_success (with_reducible show wpAny _ _ (storeName _ _ _) _ _ _)); kla_enter)
      have hoD := ltN lD0.1
      have hlD : D0 < D := Nat.lt_of_lt_of_le (Heap.lt_size (N1 _ (.head _)).1) hle
      have hlD' := ltN hlD
      refine store_cell (rest := [(D, listOf ys.toArray ys.length), (LF + 1 + 1, ow), (140, plO #[]), (147, plO #[])]) F7 (nsub N7 (by kst_allIn)) ?w1 rfl hod rfl rfl ?_
      case w1 => exact Mine.fmc (neN (by kst_p2)) (Mine.fmc (neN (by kst_p2)) (Mine.fmc (neN (by kst_p2)) (Mine.fmc (neN (by kst_p2)) (List.forall_mem_nil _))))
      intro h8 od' F8 N8 hod'
      w_strict repeat' kla_enter
      exact ⟨rfl, D, ys, zs, od', h8, _, rfl, hod', hz, by rw [hzl, hI1.length, hl0]; kst_p2, hzb, F8, nsub N8 (by kst_allIn), Nat.lt_trans lD0.1 hlD⟩
  intro D ys zs od' h1 tk2 h9E
  refine Mine.cj_7 h9E ?_
  clear h9E
  intro hod' hzs hzl hzb F1 N1 lD
  (try dsimp only)

  (try dsimp only)
  w_strict repeat' ((fail_if_success (with_reducible show wpAny _ _ (exec (Stmt.Assign _ _ _) _) _ _ _)); kla_enter)
  refine wpAny_mono (E := fun _ _ => False) (Q := fun f s₂ => Hold (f = .next ∧ ∃ nl nv ns tl h' tk', s₂ = { heap := h', gens := s₁.gens, drawn := s₁.drawn, toks := tk', os := s₁.os } ∧ IntsAre nv (List.map (fun y : Nat => (y : Int)) ns) ∧ ns.length = 4 ∧ (∀ n ∈ ns, n < 100000000) ∧ Fr gH LF h' (kstB (fun _ => none) ([(Str.ofString "numbers", .ref nl), (Str.ofString "script", .ref sl)])) ∧ News gH LF h' (tl ++ [(D, listOf ys.toArray ys.length), (LF + 1 + 1, ow), (LF + 1, od'), (140, plO #[]), (147, plO #[])]) ∧ (∀ p ∈ tl, D < p.1) ∧ (nl, listOf nv.toArray nv.length) ∈ tl)) ?S2 (Mine.hq_6 ?_) fun _ _ x => x.elim
  case S2 =>
    show wpAny _ _ _ _ _ _
    (try k_fold)
    refine' comp_openA (cl := [(Str.ofString "drawn", LF + 1)]) ?hc1 ?hc2 ?hc3 ?hc4 ?_
    case hc1 => with_unfolding_all rfl
    case hc2 => with_unfolding_all rfl
    case hc3 => rfl
    case hc4 => decide
    w_strict repeat' ((fail_if_success (with_reducible show wpAny _ _ (call (.type "enumerate") _) _ _ _)); kla_enter)
    rename Fr gH LF _ _ => F2
    rename News gH LF _ _ => N2
    rename_i el _ lel
    have hdl := ltN lD
    have hD0 : D ≠ LF + 1 + 1 ∧ D ≠ LF + 1 ∧ D ≠ 140 ∧ D ≠ 147 := ⟨neN (by kst_p2), neN (by kst_p2), neN (by kst_p2), neN (by kst_p2)⟩
    (try k_fold)
    first | (refine Mine.ex_4 (show ∃ ta tb tc td, News gH LF _ [(el, listOf (List.toArray [.int 48 ta, .int 85 tb, .int 29 tc, .int 14 td]) 0), (D, listOf ys.toArray ys.length), (LF + 1 + 1, ow), (LF + 1, od'), (140, plO #[]), (147, plO #[])] from ⟨_, _, _, _, N2⟩) ?_; rintro ta tb tc td N2') | (obtain ⟨ta, tb, tc, td, N2'⟩ : ∃ ta tb tc td, News gH LF _ [(el, listOf (List.toArray [.int 48 ta, .int 85 tb, .int 29 tc, .int 14 td]) 0), (D, listOf ys.toArray ys.length), (LF + 1 + 1, ow), (LF + 1, od'), (140, plO #[]), (147, plO #[])] := ⟨_, _, _, _, N2⟩)
    clear N2
    refine' comp_enumA (σ := List (Addr × Obj)) (vs := [.int 48 ta, .int 85 tb, .int 29 tc, .int 14 td]) (fun _ => s₁.gens) (fun tl => (el, listOf (List.toArray [.int 48 ta, .int 85 tb, .int 29 tc, .int 14 td]) 0) :: (tl ++ [(D, listOf ys.toArray ys.length), (LF + 1 + 1, ow), (LF + 1, od'), (140, plO #[]), (147, plO #[])]))
      (fun i us _ => ∃ ks : List Nat, IntsAre us (List.map (fun y : Nat => (y : Int)) ks) ∧ ks.length = i ∧ ∀ z ∈ ks, z < 100000000) [] ?mh ?ml ?mz ?mw1 ?mw2 ?mw3 ?mw4 ?mw5 ?mwg ?mF ?mN ?mp1 ?mt1 ?mw6 ?mw7 ?mw8 ?mr1
    case mh => rfl
    case ml => exact fun _ => .head _
    case mz => show 4 ≤ sizeLine; rw [sizeLine_eq]; kst_p2
    case mwg => rfl
    case mF => exact F2
    case mN => exact N2'
    case mw1 => decide
    case mw2 => rfl
    case mw3 => rfl
    case mw4 => rfl
    case mw5 => decide
    case mw6 => rfl
    case mw7 => rfl
    case mw8 => rfl
    case mp1 => exact ⟨[], .nil, rfl, fun _ h => nomatch h⟩
    case mt1 =>
      rintro i us tl t v C oC E₁ m₂ h7 tk7 e it oe oi hv h9Q1 hoC hm1 hm2 hoff hlo hDC F7 N7
      (try k_fold)
      refine Mine.gk ?_
      intro Gz9 kz9
      obtain ⟨ks, hks, hkl, hkb⟩ := h9Q1
      refine kz9 ?_
      (try clear kz9 Gz9)
      refine wpAny_tests_nil ?_
      (try k_unfold)
      (try dsimp only)
      rw [if_pos rfl]
      (try k_fold)
      first | (refine Mine.ex_2 (seed_at hv) ?_; rintro sd tsd h9E; refine Mine.cj_2 h9E ?_; clear h9E; rintro rfl hsd) | (obtain ⟨sd, tsd, rfl, hsd⟩ := seed_at hv)
      w_strict repeat' ((fail_if_success (with_reducible show wpAny _ _ (subscriptTail _ _ _ _) _ _ _)); first | (k_here; (with_reducible show wpAny _ _ (PySem.eval (PySem.Expr.Name _ _) (compEnvC _ _ _ _)) _ _ _); k_dflt (first | ((first | (with_reducible show wpAny _ _ (PySem.eval (PySem.Expr.Name (PySem.Str.ofString "sum") _) _) _ _ _) | (with_reducible show wpAny _ _ (PySem.eval (PySem.Expr.Name (PySem.Str.ofString "len") _) _) _ _ _) | (with_reducible show wpAny _ _ (PySem.eval (PySem.Expr.Name (PySem.Str.ofString "range") _) _) _ _ _) | (with_reducible show wpAny _ _ (PySem.eval (PySem.Expr.Name (PySem.Str.ofString "enumerate") _) _) _ _ _) | (with_reducible show wpAny _ _ (PySem.eval (PySem.Expr.Name (PySem.Str.ofString "zip") _) _) _ _ _) | (with_reducible show wpAny _ _ (PySem.eval (PySem.Expr.Name (PySem.Str.ofString "str") _) _) _ _ _) | (with_reducible show wpAny _ _ (PySem.eval (PySem.Expr.Name (PySem.Str.ofString "min") _) _) _ _ _) | (with_reducible show wpAny _ _ (PySem.eval (PySem.Expr.Name (PySem.Str.ofString "max") _) _) _ _ _)); refine LCgL.ld_built (by k_asm) (by k_asm) (by k_asm) (by k_is) (by boot_by_name) (by decide) ?_) | ((first | (with_reducible show wpAny _ _ (PySem.eval (PySem.Expr.Name (PySem.Str.ofString "drawn") _) _) _ _ _) | (with_reducible show wpAny _ _ (PySem.eval (PySem.Expr.Name (PySem.Str.ofString "width") _) _) _ _ _)); refine kcf_cell (by k_asm) (by rfl) (by k_mem) (by k_asm) ?_ (by rfl) (by kernel_rfl) (by decide)) | refine LCgL.ld_own (by k_asm) (by ((repeat (first | (with_reducible exact List.mem_cons_self) | (with_reducible refine List.mem_cons_of_mem _ ?_))); (first | done | fail "open"))) (by assumption) (by assumption) ?_ | refine LCgL.ld_built (by k_asm) (by k_asm) (by k_asm) (by k_is) (by boot_by_name) (by decide) ?_ | refine LCgL.ld_global (by k_asm) (by k_asm) (by k_asm) (by k_is) ?_)) | kla_enter)
      refine' kmk_slice3_lit (its := ys.toArray) (lo := some ((i : Nat) : Int)) (hi := none) (st := some 4) F7 N7 (News.isList N7 (by k_mem)) (by kmk_part) (by kmk_part) (by kmk_part) (by decide) rfl ?_ (by with_unfolding_all rfl) (by kmk_pure) (by rw [List.size_toArray, hzs.length, List.length_map, sizeLine_eq]; kst_p2)
      intro D8 h8 F8 N8 l8
      w_strict repeat' ((fail_if_success (with_reducible show wpAny _ _ (call (.builtin "sum") _) _ _ _)); kla_enter)
      refine PyProof.Rows.LSm.sum_ints F8 N8 rfl (News.isList N8 (.head _)) (hzs.pick (some ((i : Nat) : Int)) none (some 4)) ?_
      intro h9 tk9 t9 F9 N9
      obtain ⟨k9, hk9, hkb9⟩ := pick_sum hzs hzl hzb (some ((i : Nat) : Int)) none (some 4)
      rw [hk9]
      w_strict repeat' kla_enter
      rename Fr gH LF _ _ => FA
      rename News gH LF _ _ => NA
      refine cend tl FA NA (by kst_allIn) (by simp) (by simp) (by kst_allIn) hoff ⟨ks ++ [sd + k9], ?_, ?_, ?_⟩
      · rw [List.map_append, List.map_singleton, Int.natCast_add]
        exact ints_snoc hks
      · rw [List.length_append, List.length_singleton, hkl]
      · intro z hz9
        rcases List.mem_append.mp hz9 with hz9 | hz9
        · exact hkb z hz9
        · rw [List.mem_singleton.mp hz9]; kst_p2
    case mr1 =>
      rintro E₁ h7 tk7 us tl F7 N7 hoff hle h9Q1
      (try k_fold)
      refine Mine.gk ?_
      intro Gz9 kz9
      obtain ⟨ks, hks, hkl, hkb⟩ := h9Q1
      refine kz9 ?_
      (try clear kz9 Gz9)
      have hlE : D < E₁ := Nat.lt_of_lt_of_le (Heap.lt_size (N2' _ (.tail _ (.head _))).1) hle
      have hlel : D < el := lel.1
      show Hold _
      refine ⟨⟨rfl, E₁, us, ks, [(E₁, listOf us.toArray us.length)], _, _, rfl, hks, hkl, hkb, ?wF, nsub N7 ?wN, Mine.fmc (hlE) (List.forall_mem_nil _), .head _⟩⟩
      case wF => exact F7
      case wN => kst_allIn
  intro nl nv ns tlN h2 tk3 h9E
  refine Mine.cj_7 h9E ?_
  clear h9E
  intro hns hnl4 hnb F2 N2 ltN2 mnl
  (try dsimp only)

  (try dsimp only)
  w_strict repeat' ((fail_if_success (with_reducible show wpAny _ _ (exec (Stmt.Assign _ _ _) _) _ _ _)); kla_enter)
  refine wpAny_mono (E := fun _ _ => False) (Q := fun f s₂ => Hold (f = .next ∧ ∃ rl rv rn wd tw ow' tl h' tk', s₂ = { heap := h', gens := s₁.gens, drawn := s₁.drawn, toks := tk', os := s₁.os } ∧ Items (RowT tl) rv ns ∧ 10 ≤ wd ∧ wd ≤ 25 ∧ ow'.data = .cell (some (.int ((wd : Nat) : Int) tw)) ∧ Fr gH LF h' (kstB (fun _ => none) ([(Str.ofString "rows", .ref rl), (Str.ofString "numbers", .ref nl), (Str.ofString "script", .ref sl)])) ∧ News gH LF h' (tl ++ [(LF + 1 + 1, ow'), (140, plO #[]), (147, plO #[])]) ∧ (∀ p ∈ tl, LF + 1 + 1 < p.1) ∧ (rl, listOf rv.toArray rn) ∈ tl ∧ (nl, listOf nv.toArray nv.length) ∈ tl)) ?S3 (Mine.hq_9 ?_) fun _ _ x => x.elim
  case S3 =>
    w_strict repeat' ((fail_if_success (with_reducible show wpAny _ _ (call (.ref 265) _) _ _ _)); kla_enter)
    rename Fr gH LF _ _ => F3
    rename News gH LF _ _ => N3
    refine drawn_spec (ns := ns) (nl := nl) (nv := nv) (nn := nv.length) ⟨K', F3, X', N3, T', rfl⟩ (by decide) (by decide) (List.mem_append_left _ mnl) hns (by kst_p2) ?_
    intro rl rv rn tlR h4 tk4 F4 N4 ltR mrl hrv
    w_strict repeat' ((fail_if_success (with_reducible show wpAny _ _ (call (.builtin "sum") _) _ _ _)); kla_enter)
    (try dsimp only)
    refine PyProof.Rows.LSm.sum_ints F4 N4 rfl (News.isList N4 (List.mem_append_right _ (List.mem_append_left _ mnl))) hns ?_
    intro h5 tk5 t5 F5 N5
    rw [show (List.map (fun y : Nat => (y : Int)) ns).sum = ((ns.sum : Nat) : Int) from nat_sum ns]
    w_strict repeat' ((fail_if_success (with_reducible show wpAny _ _ (storeName _ (Str.ofString "width") _) _ _ _)); kla_enter)
    have hw9 : (10 : Int) + Int.fmod (((ns.sum : Nat) : Int) + 2) 16 = ((10 + (ns.sum + 2) % 16 : Nat) : Int) := wd_nat ns.sum
    rw [hw9]
    rename Fr gH LF _ _ => F6
    rename News gH LF _ _ => N6
    have ltN3 : ∀ p ∈ tlN, LF + 1 + 1 < p.1 := fun p hp => Nat.lt_trans lD (ltN2 p hp)
    have ltR3 : ∀ p ∈ tlR, LF + 1 + 1 < p.1 := fun p hp => ltR p hp (LF + 1 + 1, ow) (List.mem_append_right _ (.tail _ (.head _)))
    refine store_cell (cc := LF + 1 + 1) (oc := ow) (rest := tlR ++ (tlN ++ [(140, plO #[]), (147, plO #[])])) F6 (nsub N6 ?w1) ?w2 rfl how rfl rfl ?_
    case w1 => kst_allIn
    case w2 =>
      intro p hp
      rcases List.mem_append.mp hp with hp | hp
      · exact Nat.ne_of_gt (ltR3 p hp)
      rcases List.mem_append.mp hp with hp | hp
      · exact Nat.ne_of_gt (ltN3 p hp)
      · have h9 : ∀ q ∈ [((140 : Addr), plO #[]), (147, plO #[])], q.1 ≠ LF + 1 + 1 := Mine.fmc (neN (by kst_p2)) (Mine.fmc (neN (by kst_p2)) (List.forall_mem_nil _))
        exact h9 p hp
    intro h8 ow' F8 N8 how'
    refine assignInOrder_nil ?_
    refine ⟨⟨rfl, rl, rv, rn, 10 + (ns.sum + 2) % 16, _, ow', tlR ++ tlN, h8, _, rfl, hrv.mono fun v p h => h.mono fun q hq => List.mem_append_left _ hq, by kst_p2, by kst_p2, how', F8, nsub N8 ?w3, ?w4, List.mem_append_left _ mrl, List.mem_append_right _ mnl⟩⟩
    case w3 =>
      intro p hp
      rcases List.mem_append.mp hp with hp | hp
      · rcases List.mem_append.mp hp with hp | hp
        · exact .tail _ (List.mem_append_left _ hp)
        · exact .tail _ (List.mem_append_right _ (List.mem_append_left _ hp))
      (try k_fold)
      rcases List.mem_cons.mp hp with rfl | hp
      · exact .head _
      · exact .tail _ (List.mem_append_right _ (List.mem_append_right _ hp))
    case w4 =>
      intro p hp
      rcases List.mem_append.mp hp with hp | hp
      · exact ltR3 p hp
      · exact ltN3 p hp
  intro rl rv rn wd tw ow' tl3 h3 tk4 h9E
  refine Mine.cj_9 h9E ?_
  clear h9E
  intro hrv hw1 hw2 how' F3 N3 lt3 mrl mnl3
  (try dsimp only)
  clear mnl N2 ltN2 F2 N1 F1 hod' how hod F0 N0
  (try dsimp only)
  w_strict repeat' ((fail_if_success (with_reducible show wpAny _ _ (exec (Stmt.Assign _ _ _) _) _ _ _)); kla_enter)
  refine wpAny_mono (E := fun _ _ => False) (Q := fun f s₂ => Hold (f = .next ∧ ∃ el ev tl h' tk', s₂ = { heap := h', gens := s₁.gens, drawn := s₁.drawn, toks := tk', os := s₁.os } ∧ StrsAre ev (ns.map endS) ∧ Fr gH LF h' (kstB (fun _ => none) ([(Str.ofString "ends", .ref el), (Str.ofString "rows", .ref rl), (Str.ofString "numbers", .ref nl), (Str.ofString "script", .ref sl)])) ∧ News gH LF h' (tl ++ (tl3 ++ [(LF + 1 + 1, ow'), (140, plO #[]), (147, plO #[])])) ∧ (∀ p ∈ tl, LF + 1 + 1 < p.1) ∧ (el, listOf ev.toArray ev.length) ∈ tl)) ?S4 (Mine.hq_5 ?_) fun _ _ x => x.elim
  case S4 =>
    show wpAny _ _ _ _ _ _
    (try k_fold)
    refine' comp_openA (cl := []) ?hc1 ?hc2 ?hc3 ?hc4 ?_
    case hc1 => with_unfolding_all rfl
    case hc2 => with_unfolding_all rfl
    case hc3 => rfl
    case hc4 => decide
    w_strict repeat' ((fail_if_success (with_reducible show wpAny _ _ (pyIter _) _ _ _)); kla_enter)
    rename Fr gH LF _ _ => F4
    rename News gH LF _ _ => N4
    refine' comp_listA (σ := Unit) (vs := nv) (ln := nv.length) (fun _ => s₁.gens) (fun _ => tl3 ++ [(LF + 1 + 1, ow'), (140, plO #[]), (147, plO #[])])
      (fun i us _ => StrsAre us ((ns.take i).map endS)) () ?mh ?ml ?mz ?mw1 ?mw2 ?mw3 ?mwg ?mF ?mN ?mp1 ?mt1 ?mw6 ?mw7 ?mw8 ?mr1
    case mh => rfl
    case ml => exact fun _ => List.mem_append_left _ mnl3
    case mz => rw [hns.length, List.length_map, hnl4, sizeLine_eq]; kst_p2
    case mw1 => decide
    case mw2 => rfl
    case mw3 => rfl
    case mwg => rfl
    case mF => exact F4
    case mN => exact N4
    case mp1 => exact .nil
    case mw6 => rfl
    case mw7 => rfl
    case mw8 => rfl
    case mt1 =>
      rintro i us c v C oC E₁ m₂ h7 tk7 it oi hv hus hoC hm1 hoff hlo hDC F7 N7
      (try k_fold)
      first | (refine Mine.ex_2 (ints_at hns i v hv) ?_; rintro kn tn h9E; refine Mine.cj_2 h9E ?_; clear h9E; rintro hkn rfl) | (obtain ⟨kn, tn, hkn, rfl⟩ := ints_at hns i v hv)
      (try k_fold)
      obtain ⟨n, hn, rfl⟩ : ∃ n, ns[i]? = some n ∧ (n : Int) = kn := by simpa using hkn
      refine wpAny_tests_nil ?_
      (try k_unfold)
      (try dsimp only)
      rw [if_pos rfl]
      w_strict repeat' ((fail_if_success (with_reducible show wpAny _ _ (truthy _) _ _ _)); first | (k_here; (with_reducible show wpAny _ _ (PySem.eval (PySem.Expr.Name _ _) (compEnvC _ _ _ _)) _ _ _); k_dflt (first | ((first | (with_reducible show wpAny _ _ (PySem.eval (PySem.Expr.Name (PySem.Str.ofString "sum") _) _) _ _ _) | (with_reducible show wpAny _ _ (PySem.eval (PySem.Expr.Name (PySem.Str.ofString "len") _) _) _ _ _) | (with_reducible show wpAny _ _ (PySem.eval (PySem.Expr.Name (PySem.Str.ofString "range") _) _) _ _ _) | (with_reducible show wpAny _ _ (PySem.eval (PySem.Expr.Name (PySem.Str.ofString "enumerate") _) _) _ _ _) | (with_reducible show wpAny _ _ (PySem.eval (PySem.Expr.Name (PySem.Str.ofString "zip") _) _) _ _ _) | (with_reducible show wpAny _ _ (PySem.eval (PySem.Expr.Name (PySem.Str.ofString "str") _) _) _ _ _) | (with_reducible show wpAny _ _ (PySem.eval (PySem.Expr.Name (PySem.Str.ofString "min") _) _) _ _ _) | (with_reducible show wpAny _ _ (PySem.eval (PySem.Expr.Name (PySem.Str.ofString "max") _) _) _ _ _)); refine LCgL.ld_built (by k_asm) (by k_asm) (by k_asm) (by k_is) (by boot_by_name) (by decide) ?_) | ((first | (with_reducible show wpAny _ _ (PySem.eval (PySem.Expr.Name (PySem.Str.ofString "drawn") _) _) _ _ _) | (with_reducible show wpAny _ _ (PySem.eval (PySem.Expr.Name (PySem.Str.ofString "width") _) _) _ _ _)); refine kcf_cell (by k_asm) (by rfl) (by k_mem) (by k_asm) ?_ (by rfl) (by kernel_rfl) (by decide)) | refine LCgL.ld_own (by k_asm) (by ((repeat (first | (with_reducible exact List.mem_cons_self) | (with_reducible refine List.mem_cons_of_mem _ ?_))); (first | done | fail "open"))) (by assumption) (by assumption) ?_ | refine LCgL.ld_built (by k_asm) (by k_asm) (by k_asm) (by k_is) (by boot_by_name) (by decide) ?_ | refine LCgL.ld_global (by k_asm) (by k_asm) (by k_asm) (by k_is) ?_)) | kla_enter)
      rw [show Int.fmod (n : Int) 7 = ((n % 7 : Nat) : Int) from fmod_nat n 7]
      have hse : ∀ t, StrsAre (us ++ [.str (endS n) t]) ((ns.take (i + 1)).map endS) := fun t => by
        rw [List.take_add_one, hn, Option.toList_some, List.map_append, List.map_singleton]
        exact StrsAre.snoc hus
      w_strict repeat' kla_enter
      all_goals rename_i hz7
      all_goals refine cend () F7 N7 (by kst_allIn) (by simp) (by simp) (by kst_allIn) (fun p hp => ⟨fun e => (hoff p hp).1 (List.mem_singleton.mp e), (hoff p hp).2⟩) ?_
      · dsimp only
        rw [show Str.ofString ";" = endS n by unfold endS; rw [if_neg (by kst_p2)]]
        exact hse _
      · dsimp only
        rw [show Str.ofString "," = endS n by unfold endS; rw [if_pos (by kst_p2)]]
        exact hse _
    case mr1 =>
      rintro E₁ h7 tk7 us c F7 N7 hoff hle hus
      rw [List.take_of_length_le (Nat.le_of_eq (by rw [hns.length, List.length_map]))] at hus
      show Hold _
      refine ⟨⟨rfl, E₁, us, [(E₁, listOf us.toArray us.length)], _, _, rfl, hus, ?wF, N7, Mine.fmc (?wl) (List.forall_mem_nil _), .head _⟩⟩
      case wF => exact F7
      case wl => exact Nat.lt_of_lt_of_le (Heap.lt_size (N4 (LF + 1 + 1, ow') (List.mem_append_right _ (.head _))).1) hle
  intro el ev tlE h4 tk5 h9E
  refine Mine.cj_5 h9E ?_
  clear h9E
  intro hev F4 N4 ltE mel
  (try dsimp only)
  clear F3 N3
  (try dsimp only)
  w_strict repeat' ((fail_if_success (with_reducible show wpAny _ _ (exec (Stmt.Assign _ _ _) _) _ _ _)); kla_enter)
  refine wpAny_mono (E := fun _ _ => False) (Q := fun f s₂ => Hold (f = .next ∧ ∃ pl pv pn ps ps2 g' h' tk', s₂ = { heap := h', gens := g', drawn := s₁.drawn, toks := tk', os := s₁.os } ∧ StrsAre pv (ns.flatMap (rowLines wd)) ∧ AllBare g' ∧ Fr gH LF h' (kstB (fun _ => none) ([(Str.ofString "page", .ref pl), (Str.ofString "ends", .ref el), (Str.ofString "rows", .ref rl), (Str.ofString "numbers", .ref nl), (Str.ofString "script", .ref sl)])) ∧ News gH LF h' ((pl, listOf pv.toArray pn) :: (140, plO ps) :: (147, plO ps2) :: (tlE ++ (tl3 ++ [(LF + 1 + 1, ow')]))))) ?S5 (Mine.hq_8 ?_) fun _ _ x => x.elim
  case S5 =>
    w_strict repeat' ((fail_if_success (with_reducible show wpAny _ _ (call (.ref 272) _) _ _ _)); kla_enter)
    rename Fr gH LF _ _ => F5
    rename News gH LF _ _ => N5
    refine typed_spec (rest := tlE ++ (tl3 ++ [(LF + 1 + 1, ow')])) (ps := #[]) (ps2 := #[]) (ns := ns) (wd := wd) (rl := rl) (el := el) (rv := rv) (ev := ev) ⟨K', F5, X', nsub N5 ?w1, T', rfl⟩ (by decide) (by decide) ?w2 ?w3 (.inl rfl) (.inl rfl) (List.mem_append_right _ (List.mem_append_left _ mrl)) (List.mem_append_left _ mel) (hrv.mono fun v p h => h.mono fun q hq => List.mem_append_right _ (List.mem_append_left _ hq)) hev hnl4 hw1 hw2 ?_
    case w1 =>
      refine Mine.fmc (List.mem_append_right _ (List.mem_append_right _ (.tail _ (.head _)))) (Mine.fmc (List.mem_append_right _ (List.mem_append_right _ (.tail _ (.tail _ (.head _))))) (fun p hp => ?_))
      rcases List.mem_append.mp hp with hp | hp
      · exact List.mem_append_left _ hp
      rcases List.mem_append.mp hp with hp | hp
      · exact List.mem_append_right _ (List.mem_append_left _ hp)
      · rw [List.mem_singleton.mp hp]; exact List.mem_append_right _ (List.mem_append_right _ (.head _))
    case w2 =>
      have hgt : ∀ q ∈ tlE ++ (tl3 ++ [(LF + 1 + 1, ow')]), LF + 1 < q.1 := by
        intro p hp
        rcases List.mem_append.mp hp with hp | hp
        · exact Nat.lt_trans (Nat.lt_succ_self _) (ltE p hp)
        rcases List.mem_append.mp hp with hp | hp
        · exact Nat.lt_trans (Nat.lt_succ_self _) (lt3 p hp)
        · rw [List.mem_singleton.mp hp]; exact Nat.lt_succ_self _
      intro q hq
      have e1 := ltN (hgt q hq)
      exact ⟨neN (by kst_p2), neN (by kst_p2)⟩
    case w3 => rw [hg]; exact AllBare.empty
    intro h6 g6 tk6 pl pv pn ps6 ps7 hpv F6 N6 hG6
    w_strict repeat' kla_enter
    rename Fr gH LF _ _ => F7
    rename News gH LF _ _ => N7
    exact ⟨⟨rfl, pl, pv, pn, ps6, ps7, g6, _, _, rfl, hpv, hG6, F7, N7⟩⟩
  intro pl pv pn ps ps2 g5 h5 tk6 h9E
  refine Mine.cj_4 h9E ?_
  clear h9E
  intro hpv hG5 F5 N5
  (try dsimp only)
  clear F4 N4
  (try dsimp only)
  w_strict repeat' ((fail_if_success (with_reducible show wpAny _ _ (exec (Stmt.Assign _ _ _) _) _ _ _)); kla_enter)
  refine wpAny_mono (E := fun _ _ => False) (Q := fun f s₂ => Hold (f = .next ∧ ∃ (al : Addr) (av : List Value) (an : Nat) (h' : Heap) (tk' : Nat), s₂ = { heap := h', gens := g5, drawn := s₁.drawn, toks := tk', os := s₁.os } ∧ av.length = (ns.filter (Parted wd)).length ∧ Fr gH LF h' (kstB (fun _ => none) ([(Str.ofString "parted", .ref al), (Str.ofString "page", .ref pl), (Str.ofString "ends", .ref el), (Str.ofString "rows", .ref rl), (Str.ofString "numbers", .ref nl), (Str.ofString "script", .ref sl)])) ∧ News gH LF h' ((al, listOf av.toArray an) :: (pl, listOf pv.toArray pn) :: (140, plO ps) :: (147, plO ps2) :: (tlE ++ (tl3 ++ [(LF + 1 + 1, ow')]))))) ?S6 (Mine.hq_5 ?_) fun _ _ x => x.elim
  case S6 =>
    show wpAny _ _ _ _ _ _
    (try k_fold)
    refine' comp_openA (cl := [(Str.ofString "width", LF + 1 + 1)]) ?hc1 ?hc2 ?hc3 ?hc4 ?_
    case hc1 => with_unfolding_all rfl
    case hc2 => with_unfolding_all rfl
    case hc3 => rfl
    case hc4 => decide
    w_strict repeat' ((fail_if_success (with_reducible show wpAny _ _ (call (.type "zip") _) _ _ _)); kla_enter)
    rename Fr gH LF _ _ => F6
    rename News gH LF _ _ => N6
    have hrl4 : rv.length = 4 := by rw [hrv.length, hnl4]
    have hev4 : ev.length = 4 := by rw [Mine.StrsAre.sum_len hev, List.length_map, hnl4]
    have hrv6 : Items (RowT (tlE ++ (tl3 ++ [(LF + 1 + 1, ow')]))) rv ns := hrv.mono fun v p h => h.mono fun q hq => List.mem_append_right _ (List.mem_append_left _ hq)
    refine' comp_zipA (σ := Unit) (n := 4) (xs := rv) (ys₀ := ev) (n1 := rn) (n2 := ev.length) (fun _ => g5) (fun _ => (pl, listOf pv.toArray pn) :: (140, plO ps) :: (147, plO ps2) :: (tlE ++ (tl3 ++ [(LF + 1 + 1, ow')])))
      (fun i us _ => us.length = ((ns.take i).filter (Parted wd)).length) (fun i x y m₂ => ∃ n tk te, ns[i]? = some n ∧ m₂ (Str.ofString "lead") = some (.str (leadS n) tk) ∧ m₂ (Str.ofString "end") = some (.str (endS n) te)) () ?mh ?ml1 ?ml2 hrl4 hev4 ?mz ?mw1 ?mw2 ?mwg ?mF ?mN ?mp1 ?ma1 ?mt1 ?mw6 ?mw7 ?mw8 ?mr1
    case mh => rfl
    case ml1 => exact fun _ => .tail _ (.tail _ (.tail _ (List.mem_append_right _ (List.mem_append_left _ mrl))))
    case ml2 => exact fun _ => .tail _ (.tail _ (.tail _ (List.mem_append_left _ mel)))
    case mz => rw [sizeLine_eq]; kst_p2
    case mw1 => decide
    case mw2 => rfl
    case mwg => rfl
    case mF => exact F6
    case mN => exact N6
    case mp1 => rfl
    case mw6 => rfl
    case mw7 => rfl
    case mw8 => rfl
    case ma1 =>
      rintro i c x y T C mc s' Q' hi hx hy hT N9 hn9 hoff h
      (try k_fold)
      refine Mine.gk ?_
      intro Gz9 kz9
      obtain ⟨v, n, hv, hn, hrow⟩ := hrv6.at i (by kst_p2)
      refine kz9 ?_
      (try clear kz9 Gz9)
      rw [hx] at hv
      (try k_fold)
      refine Mine.gk ?_
      intro Gz9 kz9
      (try k_fold)
      cases hv
      all_goals (try (refine kz9 ?_; (try clear kz9 Gz9)))
      (try k_fold)
      obtain ⟨ty, tky, wl, ta, tb, wn, rfl, hty, hwl⟩ := hrow
      (try k_fold)
      obtain ⟨te, rfl⟩ : ∃ te, y = .str (endS n) te := by
        (try k_fold)
        first | (refine Mine.ex_2 (strs_at hev i y hy) ?_; rintro e9 t9 h9E; refine Mine.cj_2 h9E ?_; clear h9E; rintro he9 rfl) | (obtain ⟨e9, t9, he9, rfl⟩ := strs_at hev i y hy)
        rw [List.getElem?_map, hn] at he9
        (try k_fold)
        refine Mine.gk ?_
        intro Gz9 kz9
        (try k_fold)
        cases he9
        all_goals (try (refine kz9 ?_; (try clear kz9 Gz9)))
        exact ⟨t9, rfl⟩
      have hty9 := N9 _ (.tail _ (.tail _ (.tail _ hty)))
      refine asg_nest rfl hT ⟨_, hty9.1, rfl, _, rfl⟩ (lookup_relabel_local rfl) (lookup_relabel_local rfl) (lookup_relabel_local rfl) (by rfl) (hoff _ (.tail _ (.tail _ (.tail _ hty)))) hn9 ?_
      intro h' tk hn' hk'
      exact h h' tk _ hn' ⟨n, tky, te, hn, by rw [if_neg (by decide), if_neg (by decide), if_pos rfl], by rw [if_pos rfl]⟩ hk'
    case mt1 =>
      rintro i us c x y C oC E₁ m₂ h7 tk7 z TI TO i1 i2 oz oTI oTO o1 o2 hi hx hy hus hoC h9Q1 hoff hlo hDC F7 N7
      (try k_fold)
      refine Mine.gk ?_
      intro Gz9 kz9
      obtain ⟨n, tky, te, hn, hm1, hm2⟩ := h9Q1
      refine kz9 ?_
      (try clear kz9 Gz9)
      refine wpAny_tests_one ?_
      have hus2 : ((ns.take (i + 1)).filter (Parted wd)).length = us.length + (if Parted wd n = true then 1 else 0) := by
        rw [List.take_add_one, hn, Option.toList_some, List.filter_append, List.length_append, hus]
        congr 1
        by_cases hP : Parted wd n = true
        · simp [hP]
        · simp [hP]
      by_cases h70 : n % 7 = 0
      · have hP : Parted wd n = false := by unfold Parted; rw [decide_eq_false (by kst_p2)]; rfl
        rw [show endS n = Str.ofString "," by unfold endS; rw [if_pos h70]] at hm2
        w_strict repeat' (first | (k_here; (with_reducible show wpAny _ _ (PySem.eval (PySem.Expr.Name _ _) (compEnvC _ _ _ _)) _ _ _); k_dflt (first | ((first | (with_reducible show wpAny _ _ (PySem.eval (PySem.Expr.Name (PySem.Str.ofString "sum") _) _) _ _ _) | (with_reducible show wpAny _ _ (PySem.eval (PySem.Expr.Name (PySem.Str.ofString "len") _) _) _ _ _) | (with_reducible show wpAny _ _ (PySem.eval (PySem.Expr.Name (PySem.Str.ofString "range") _) _) _ _ _) | (with_reducible show wpAny _ _ (PySem.eval (PySem.Expr.Name (PySem.Str.ofString "enumerate") _) _) _ _ _) | (with_reducible show wpAny _ _ (PySem.eval (PySem.Expr.Name (PySem.Str.ofString "zip") _) _) _ _ _) | (with_reducible show wpAny _ _ (PySem.eval (PySem.Expr.Name (PySem.Str.ofString "str") _) _) _ _ _) | (with_reducible show wpAny _ _ (PySem.eval (PySem.Expr.Name (PySem.Str.ofString "min") _) _) _ _ _) | (with_reducible show wpAny _ _ (PySem.eval (PySem.Expr.Name (PySem.Str.ofString "max") _) _) _ _ _)); refine LCgL.ld_built (by k_asm) (by k_asm) (by k_asm) (by k_is) (by boot_by_name) (by decide) ?_) | ((first | (with_reducible show wpAny _ _ (PySem.eval (PySem.Expr.Name (PySem.Str.ofString "drawn") _) _) _ _ _) | (with_reducible show wpAny _ _ (PySem.eval (PySem.Expr.Name (PySem.Str.ofString "width") _) _) _ _ _)); refine kcf_cell (by k_asm) (by rfl) (by k_mem) (by k_asm) ?_ (by rfl) (by kernel_rfl) (by decide)) | refine LCgL.ld_own (by k_asm) (by ((repeat (first | (with_reducible exact List.mem_cons_self) | (with_reducible refine List.mem_cons_of_mem _ ?_))); (first | done | fail "open"))) (by assumption) (by assumption) ?_ | refine LCgL.ld_built (by k_asm) (by k_asm) (by k_asm) (by k_is) (by boot_by_name) (by decide) ?_ | refine LCgL.ld_global (by k_asm) (by k_asm) (by k_asm) (by k_is) ?_)) | kla_enter)
        refine cend () F7 N7 (by kst_allIn) (by simp) (by simp) (by kst_allIn) hoff ?_
        rw [hus2, hP]; rfl
      · rw [show endS n = Str.ofString ";" by unfold endS; rw [if_neg h70]] at hm2
        w_strict repeat' ((fail_if_success (with_reducible show wpAny _ _ (call (.builtin "len") _) _ _ _)); first | (k_here; (with_reducible show wpAny _ _ (PySem.eval (PySem.Expr.Name _ _) (compEnvC _ _ _ _)) _ _ _); k_dflt (first | ((first | (with_reducible show wpAny _ _ (PySem.eval (PySem.Expr.Name (PySem.Str.ofString "sum") _) _) _ _ _) | (with_reducible show wpAny _ _ (PySem.eval (PySem.Expr.Name (PySem.Str.ofString "len") _) _) _ _ _) | (with_reducible show wpAny _ _ (PySem.eval (PySem.Expr.Name (PySem.Str.ofString "range") _) _) _ _ _) | (with_reducible show wpAny _ _ (PySem.eval (PySem.Expr.Name (PySem.Str.ofString "enumerate") _) _) _ _ _) | (with_reducible show wpAny _ _ (PySem.eval (PySem.Expr.Name (PySem.Str.ofString "zip") _) _) _ _ _) | (with_reducible show wpAny _ _ (PySem.eval (PySem.Expr.Name (PySem.Str.ofString "str") _) _) _ _ _) | (with_reducible show wpAny _ _ (PySem.eval (PySem.Expr.Name (PySem.Str.ofString "min") _) _) _ _ _) | (with_reducible show wpAny _ _ (PySem.eval (PySem.Expr.Name (PySem.Str.ofString "max") _) _) _ _ _)); refine LCgL.ld_built (by k_asm) (by k_asm) (by k_asm) (by k_is) (by boot_by_name) (by decide) ?_) | ((first | (with_reducible show wpAny _ _ (PySem.eval (PySem.Expr.Name (PySem.Str.ofString "drawn") _) _) _ _ _) | (with_reducible show wpAny _ _ (PySem.eval (PySem.Expr.Name (PySem.Str.ofString "width") _) _) _ _ _)); refine kcf_cell (by k_asm) (by rfl) (by k_mem) (by k_asm) ?_ (by rfl) (by kernel_rfl) (by decide)) | refine LCgL.ld_own (by k_asm) (by ((repeat (first | (with_reducible exact List.mem_cons_self) | (with_reducible refine List.mem_cons_of_mem _ ?_))); (first | done | fail "open"))) (by assumption) (by assumption) ?_ | refine LCgL.ld_built (by k_asm) (by k_asm) (by k_asm) (by k_is) (by boot_by_name) (by decide) ?_ | refine LCgL.ld_global (by k_asm) (by k_asm) (by k_asm) (by k_is) ?_)) | kla_enter)
        have hl5 := (lead_ok n).2
        refine len_str (x := leadS n) (by kst_p2) ?_
        generalize hlg : (leadS n).length = ln
        rw [hlg] at hl5
        clear hm1
        w_strict repeat' ((fail_if_success (with_reducible show wpAny _ _ (eval (Expr.Name (Str.ofString "width") _) _) _ _ _)); kla_enter)
        refine kcf_cell (c := LF + 1 + 1) (o := ow') (v := .int (wd : Int) tw) N7 ?k1 ?k2 how' ?_ ?k3 ?k4 ?k5
        case k1 => rfl
        case k2 => simp
        case k3 => rfl
        case k4 => kernel_rfl
        case k5 => decide
        w_strict repeat' kla_enter
        all_goals rename_i hgt
        all_goals refine cend () F7 N7 (by kst_allIn) (by simp) (by simp) (by kst_allIn) hoff ?_
        · have hP : Parted wd n = true := by unfold Parted; rw [hlg, decide_eq_true (by kst_p2), decide_eq_true (by kst_p2)]; rfl
          rw [hus2, hP, List.length_append]; rfl
        · have hP : Parted wd n = false := by unfold Parted; rw [hlg, decide_eq_true (by kst_p2), decide_eq_false (by kst_p2)]; rfl
          rw [hus2, hP]; rfl
    case mr1 =>
      rintro E₁ h7 tk7 us c F7 N7 hoff hle hus
      rw [List.take_of_length_le (Nat.le_of_eq hnl4)] at hus
      show Hold _
      refine ⟨⟨rfl, E₁, us, us.length, _, _, rfl, hus, ?wF, N7⟩⟩
      case wF => exact F7
  intro al av an h6 tk7 h9E
  refine Mine.cj_3 h9E ?_
  clear h9E
  intro hav F6 N6
  (try dsimp only)
  clear F5 N5
  (try dsimp only)
  have hpl4 : pv.length = 4 + av.length := by rw [Mine.StrsAre.sum_len hpv, page_len, hnl4, hav]
  have hav8 : av.length ≤ 4 := by rw [hav, ← hnl4]; exact List.length_filter_le _ _
  w_strict repeat' ((fail_if_success (with_reducible show wpAny _ _ (compareOp _ _ _) _ _ _)); first | (k_unfold; (try dsimp only)) | (k_end; wrow_close) | walk1 | (dsimp only; walk1) | (leave1; walk_say "STEP leave1"; try dsimp only) | fail "no step")
  rw [show ((pv.length : Nat) : Int) = 4 + ((av.length : Nat) : Int) by kst_p2]
  w_strict repeat' ((fail_if_success (with_reducible show wpAny _ _ (exec (Stmt.Assign _ _ _) _) _ _ _)); kla_enter)
  all_goals (try (exfalso; kst_p2))
  refine wpAny_mono (E := fun _ _ => False) (Q := fun f s₂ => Hold (f = .next ∧ ∃ (x y : Int) (t1 t2 : Tok) (h' : Heap) (tk' : Nat), s₂ = { heap := h', gens := g5, drawn := s₁.drawn, toks := tk', os := s₁.os } ∧ (x, y) = runF (forest ltW (ns.flatMap itemsOf)) (1, 1) ∧ Fr gH LF h' (kstB (fun _ => none) ([(Str.ofString "two", .int y t2), (Str.ofString "one", .int x t1), (Str.ofString "parted", .ref al), (Str.ofString "page", .ref pl), (Str.ofString "ends", .ref el), (Str.ofString "rows", .ref rl), (Str.ofString "numbers", .ref nl), (Str.ofString "script", .ref sl)])) ∧ News gH LF h' ((140, plO ps) :: (147, plO ps2) :: tl3))) ?S8 (Mine.hq_6 ?_) fun _ _ x => x.elim
  case S8 =>
    w_strict repeat' ((fail_if_success (with_reducible show wpAny _ _ (call (.ref 284) _) _ _ _)); kla_enter)
    rename Fr gH LF _ _ => F7
    rename News gH LF _ _ => N7
    refine items_spec (rows := ns.flatMap (rowsD wd)) (pg := pl) (pv := pv) (pn := pn) ⟨K', F7, X', N7, T', rfl⟩ (by decide) (by decide) (.tail _ (.head _)) (page_rows wd ns pv hpv) ?w1 ?_
    case w1 => rw [rows_len]; have := (page_good wd ns).1; kst_p2
    intro il iv inn tlI h8 tk8 F8 N8 lt8 mil hit
    rw [page_words] at hit
    have hit2 := items_W hit (items_bnd ns)
    have hil : (ns.flatMap itemsOf).length = 8 := by rw [items_len, hnl4]
    obtain ⟨hfo, hfh⟩ := forest_ok ltW _ (ns.flatMap itemsOf) (Nat.le_refl _) fun x hx => (items_bnd ns x hx).1
    w_strict repeat' ((fail_if_success (with_reducible show wpAny _ _ (call (.ref 291) _) _ _ _)); kla_enter)
    (try dsimp only)
    refine tree_use (tree_all w 8) (W := tlI) (ws := ns.flatMap itemsOf) ⟨K', F8, X', N8, T', rfl⟩ (by rw [hil]; decide) (by rw [hil]; decide) (by kst_p2) (by kst_p2) (List.mem_append_left _ mil) hit2 (fun p hp => List.mem_append_left _ hp) ?_
    intro trl tus tnu tlT h9 tk9 F9 N9 lt9 mtl hfl
    w_strict repeat' ((fail_if_success (with_reducible show wpAny _ _ (call (.ref 298) _) _ _ _)); kla_enter)
    (try dsimp only)
    generalize hfe : forest ltW (ns.flatMap itemsOf) = fo at *
    have hdp : (302 : Nat) + 8 + 10 < recursionLimit := by decide
    have hun : (7 : Nat) + 8 * 8 + 50 < cLine := by decide
    refine run_use (run_all w 8) (f := fo) ⟨K', F9, X', N9, T', rfl⟩ (by kst_p2) (by kst_p2) (by kst_p2) hfo (List.mem_append_left _ mtl) (hfl.mono fun p hp => ?w2) ?_
    case w2 =>
      rcases List.mem_append.mp hp with hp | hp
      · exact List.mem_append_left _ hp
      · exact List.mem_append_right _ (List.mem_append_left _ hp)
    intro d t3 t4 tlD hA tkA FA NA ltA mD
    w_strict repeat' kla_enter
    rename Fr gH LF _ _ => FB
    rename News gH LF _ _ => NB
    (try k_fold)
    subst hfe
    refine ⟨⟨rfl, _, _, t3, t4, _, _, rfl, rfl, FB, nsub NB ?w3⟩⟩
    case w3 =>
      intro p hp
      refine List.mem_append_right _ (List.mem_append_right _ (List.mem_append_right _ ?_))
      (try k_fold)
      rcases List.mem_cons.mp hp with rfl | hp
      · exact .tail _ (.tail _ (.head _))
      (try k_fold)
      rcases List.mem_cons.mp hp with rfl | hp
      · exact .tail _ (.tail _ (.tail _ (.head _)))
      · exact .tail _ (.tail _ (.tail _ (.tail _ (List.mem_append_right _ (List.mem_append_left _ hp)))))
  intro x y t1 t2 h7 tk8 h9E
  refine Mine.cj_3 h9E ?_
  clear h9E
  intro hxy F7 N7
  (try dsimp only)
  clear F6 N6
  (try dsimp only)
  w_strict repeat' ((fail_if_success (with_reducible show wpAny _ _ (exec (Stmt.Assign _ _ _) _) _ _ _)); kla_enter)
  refine wpAny_mono (E := fun _ _ => False) (Q := fun f s₂ => Hold (f = .next ∧ ∃ (wl : Addr) (wv : List Value) (tl : List (Addr × Obj)) (h' : Heap) (tk' : Nat), s₂ = { heap := h', gens := g5, drawn := s₁.drawn, toks := tk', os := s₁.os } ∧ Items (ItemC tl) wv (colItems ns) ∧ Fr gH LF h' (kstB (fun _ => none) ([(Str.ofString "words", .ref wl), (Str.ofString "two", .int y t2), (Str.ofString "one", .int x t1), (Str.ofString "parted", .ref al), (Str.ofString "page", .ref pl), (Str.ofString "ends", .ref el), (Str.ofString "rows", .ref rl), (Str.ofString "numbers", .ref nl), (Str.ofString "script", .ref sl)])) ∧ News gH LF h' ((wl, listOf wv.toArray wv.length) :: (tl ++ ((140, plO ps) :: (147, plO ps2) :: tl3))))) ?S9 (Mine.hq_5 ?_) fun _ _ x => x.elim
  case S9 =>
    show wpAny _ _ _ _ _ _
    (try k_fold)
    refine' comp_openA2 (cl := []) ?hc1 ?hc2 ?hc3 ?hc4 ?_
    case hc1 => with_unfolding_all rfl
    case hc2 => with_unfolding_all rfl
    case hc3 => rfl
    case hc4 => decide
    w_strict repeat' ((fail_if_success (with_reducible show wpAny _ _ (pyIter _) _ _ _)); kla_enter)
    rename Fr gH LF _ _ => F8
    rename News gH LF _ _ => N8
    have hrl4 : rv.length = 4 := by rw [hrv.length, hnl4]
    refine' nest_comp (l := rl) (vs := rv) (ln := rn) (news := (140, plO ps) :: (147, plO ps2) :: tl3) (fun i j us tl => Items (ItemC tl) us (listAt ns i j)) ?mh ?ml ?mz ?mrow ?mw1 ?mw2 ?mw3 ?mw4 ?mw5 ?mw6 ?mw7 ?mname ?mfold ?mF ?mN ?mp1 ?mst ?mt1 ?mw8 ?mw9 ?mw0 ?mr1
    case mh => rfl
    case ml => exact .tail _ (.tail _ mrl)
    case mz => kst_p2
    case mrow =>
      intro i v hv
      have hi : i < ns.length := by
        have := (List.getElem?_eq_some_iff.mp hv).1
        kst_p2
      (try k_fold)
      first | (refine Mine.ex_2 (hrv.at i hi) ?_; rintro v' n h9E; refine Mine.cj_3 h9E ?_; clear h9E; rintro hv' hn hrow) | (obtain ⟨v', n, hv', hn, hrow⟩ := hrv.at i hi)
      rw [hv] at hv'
      (try k_fold)
      refine Mine.gk ?_
      intro Gz9 kz9
      (try k_fold)
      cases hv'
      all_goals (try (refine kz9 ?_; (try clear kz9 Gz9)))
      (try k_fold)
      obtain ⟨ty, tky, wl, ta, tb, wn, rfl, hty, hwl⟩ := hrow
      exact ⟨ty, _, wl, _, _, wn, rfl, .tail _ (.tail _ hty), .tail _ (.tail _ hwl)⟩
    case mw1 => decide
    case mw2 => rfl
    case mw3 => rfl
    case mw4 => rfl
    case mw5 => rfl
    case mw6 => decide
    case mw7 => decide
    case mname => exact fun C m₂ v s' Q' hn hv h => name_comp rfl rfl hn hv h (by decide)
    case mfold => exact fun _ _ => rfl
    case mF => exact F8
    case mN => exact N8
    case mp1 => exact .nil
    case mst => exact fun i us tl h => by rw [← listAt_step]; exact h
    case mw8 => rfl
    case mw9 => rfl
    case mw0 => rfl
    case mr1 =>
      intro D h9 tk9 us tl F9 N9 hP
      rw [hrl4, ← hnl4, listAt_all] at hP
      show Hold _
      refine ⟨⟨rfl, D, us, tl, _, _, rfl, hP, ?wF, N9⟩⟩
      case wF => exact F9
    case mt1 =>
      intro i j us tl t x9 wl w0 w1 wn wv C oC D m₂ h9 tk9 IT oI IT2 oI2 hv hmt hmw hw hj hP hoC hma hmy hoff F9 N9
      have hi : i < ns.length := by
        have := (List.getElem?_eq_some_iff.mp hv).1
        kst_p2
      (try k_fold)
      first | (refine Mine.ex_2 (hrv.at i hi) ?_; rintro v' n h9E; refine Mine.cj_3 h9E ?_; clear h9E; rintro hv' hn hrow) | (obtain ⟨v', n, hv', hn, hrow⟩ := hrv.at i hi)
      rw [hv] at hv'
      (try k_fold)
      refine Mine.gk ?_
      intro Gz9 kz9
      (try k_fold)
      cases hv'
      all_goals (try (refine kz9 ?_; (try clear kz9 Gz9)))
      obtain ⟨ty, tky, wl', ta, tb, wn', e1, hty, hwl⟩ := hrow
      (try k_fold)
      refine Mine.gk ?_
      intro Gz9 kz9
      (try k_fold)
      cases e1
      all_goals (try (refine kz9 ?_; (try clear kz9 Gz9)))
      have up : ∀ q ∈ tl3, News gH LF h9 [q] := fun q hq => nsub N9 fun p hp => by
        rw [List.mem_singleton.mp hp]
        exact .tail _ (.tail _ (.tail _ (.tail _ (List.mem_append_right _ (.tail _ (.tail _ hq))))))
      have e2 := (up _ hty _ (.head _)).1
      have e3 := (N9 _ (.tail _ (.tail _ (.tail _ (.tail _ (List.mem_append_right _ hmt)))))).1
      rw [e3] at e2
      (try k_fold)
      refine Mine.gk ?_
      intro Gz9 kz9
      (try k_fold)
      cases e2
      all_goals (try (refine kz9 ?_; (try clear kz9 Gz9)))
      have e4 := (up _ hwl _ (.head _)).1
      have e5 := (N9 _ (.tail _ (.tail _ (.tail _ (.tail _ (List.mem_append_right _ hmw)))))).1
      rw [e5] at e4
      (try k_fold)
      refine Mine.gk ?_
      intro Gz9 kz9
      (try k_fold)
      cases e4
      all_goals (try (refine kz9 ?_; (try clear kz9 Gz9)))
      (try k_fold)
      obtain ⟨p, tw9, hp, rfl⟩ : ∃ (p : Cols × Nat) (tw9 : Tok), (colN n)[j]? = some p ∧ wv = .int ((p.2 : Nat) : Int) tw9 := by
        obtain rfl | rfl : j = 0 ∨ j = 1 := by kst_p2
        · exact ⟨_, ta, rfl, by simpa using hw.symm⟩
        · exact ⟨_, tb, rfl, by simpa using hw.symm⟩
      have hp1 : p.1 = colsOf (kOf n) (jOf n) := by
        obtain rfl | rfl : j = 0 ∨ j = 1 := by kst_p2
        · (try k_fold)
          cases hp; rfl
        · (try k_fold)
          cases hp; rfl
      w_strict repeat' ((fail_if_success (with_reducible show wpAny _ _ (call (.ref 305) _) _ _ _)); first | (k_here; (with_reducible show wpAny _ _ (PySem.eval (PySem.Expr.Name _ _) (compEnvC _ _ _ _)) _ _ _); k_dflt (first | ((first | (with_reducible show wpAny _ _ (PySem.eval (PySem.Expr.Name (PySem.Str.ofString "sum") _) _) _ _ _) | (with_reducible show wpAny _ _ (PySem.eval (PySem.Expr.Name (PySem.Str.ofString "len") _) _) _ _ _) | (with_reducible show wpAny _ _ (PySem.eval (PySem.Expr.Name (PySem.Str.ofString "range") _) _) _ _ _) | (with_reducible show wpAny _ _ (PySem.eval (PySem.Expr.Name (PySem.Str.ofString "enumerate") _) _) _ _ _) | (with_reducible show wpAny _ _ (PySem.eval (PySem.Expr.Name (PySem.Str.ofString "zip") _) _) _ _ _) | (with_reducible show wpAny _ _ (PySem.eval (PySem.Expr.Name (PySem.Str.ofString "str") _) _) _ _ _) | (with_reducible show wpAny _ _ (PySem.eval (PySem.Expr.Name (PySem.Str.ofString "min") _) _) _ _ _) | (with_reducible show wpAny _ _ (PySem.eval (PySem.Expr.Name (PySem.Str.ofString "max") _) _) _ _ _)); refine LCgL.ld_built (by k_asm) (by k_asm) (by k_asm) (by k_is) (by boot_by_name) (by decide) ?_) | ((first | (with_reducible show wpAny _ _ (PySem.eval (PySem.Expr.Name (PySem.Str.ofString "drawn") _) _) _ _ _) | (with_reducible show wpAny _ _ (PySem.eval (PySem.Expr.Name (PySem.Str.ofString "width") _) _) _ _ _)); refine kcf_cell (by k_asm) (by rfl) (by k_mem) (by k_asm) ?_ (by rfl) (by kernel_rfl) (by decide)) | refine LCgL.ld_own (by k_asm) (by ((repeat (first | (with_reducible exact List.mem_cons_self) | (with_reducible refine List.mem_cons_of_mem _ ?_))); (first | done | fail "open"))) (by assumption) (by assumption) ?_ | refine LCgL.ld_built (by k_asm) (by k_asm) (by k_asm) (by k_is) (by boot_by_name) (by decide) ?_ | refine LCgL.ld_global (by k_asm) (by k_asm) (by k_asm) (by k_is) ?_)) | kla_enter)
      refine cols_spec (k := kOf n) (j := jOf n) ⟨K', F9, X', N9, T', rfl⟩ (by decide) (by decide) (Nat.mod_lt _ (by decide)) (Nat.mod_lt _ (by decide)) rfl ?_
      intro cC uC nC tlC hC tkC FC NC ltC9 mC hiC
      w_strict repeat' kla_enter
      rename Fr gH LF _ _ => FD
      rename News gH LF _ _ => ND
      rename_i tA _ lA
      obtain ⟨tk0, ND'⟩ : ∃ tk0, News gH LF _ ((tA, tupO [.ref cC, .int ((p.2 : Nat) : Int) tk0]) :: (tlC ++ ((C, oC) :: (D, LCg.lst us) :: (IT, oI) :: (IT2, oI2) :: (tl ++ ((140, plO ps) :: (147, plO ps2) :: tl3))))) := ⟨_, ND⟩
      refine ⟨(tA, tupO [.ref cC, .int ((p.2 : Nat) : Int) tk0]) :: (tlC ++ tl), _, _, rfl, FD, nsub ND' ?w1, ?w2, ?w3⟩
      case w1 => simp only [List.cons_append, List.nil_append, List.append_assoc]; kst_allIn
      case w2 =>
        have far : ∀ z : Addr, (∀ q ∈ (C, oC) :: (D, LCg.lst us) :: (IT, oI) :: (IT2, oI2) :: (tl ++ ((140, plO ps) :: (147, plO ps2) :: tl3)), q.1 < z) → z ∉ [C, D, IT, IT2] := by
          intro z hz hm
          simp only [List.mem_cons, List.not_mem_nil, or_false] at hm
          (try k_fold)
          refine Mine.gk ?_
          intro Gz9 kz9
          rcases hm with e | e | e | e
          all_goals (try (refine kz9 ?_; (try clear kz9 Gz9)))
          · exact Nat.ne_of_gt (hz _ (.head _)) e
          · exact Nat.ne_of_gt (hz _ (.tail _ (.head _))) e
          · exact Nat.ne_of_gt (hz _ (.tail _ (.tail _ (.head _)))) e
          · exact Nat.ne_of_gt (hz _ (.tail _ (.tail _ (.tail _ (.head _))))) e
        intro q hq
        (try k_fold)
        rcases List.mem_cons.mp hq with rfl | hq
        · exact far _ fun q hq => lA q (List.mem_append_right _ hq)
        rcases List.mem_append.mp hq with hq | hq
        · exact far _ (ltC9 q hq)
        · exact hoff q (List.mem_append_left _ hq)
      case w3 =>
        rw [listAt_turn hn hj hp]
        refine Items.snoc (hP.mono fun v p h => h.mono fun q hq => .tail _ (List.mem_append_right _ hq)) ⟨tA, cC, tk0, rfl, .head _, uC, nC, .tail _ (List.mem_append_left _ mC), ?_⟩
        rw [hp1]
        exact hiC
  intro wl wv tlW h8 tk9 h9E
  refine Mine.cj_3 h9E ?_
  clear h9E
  intro hwv F8 N8
  (try dsimp only)
  clear F7 N7
  (try dsimp only)
  have hwl8 : (colItems ns).length = 8 := by unfold colItems; rw [List.length_map, items_len, hnl4]
  w_strict repeat' ((fail_if_success (with_reducible show wpAny _ _ (call (.ref 317) _) _ _ _)); kla_enter)
  (try dsimp only)
  rename Fr gH LF _ _ => F9
  rename News gH LF _ _ => N9
  refine back_spec (told := toldOf (forest ltC (colItems ns))) ⟨K', F9, X', N9, T', rfl⟩ (by decide) (by decide) (told_bits _) (told_small ns hnl4) (hxy.trans (run_told ns (1, 1))) ?_
  intro d lB tt tlB wsB nB hB tkB FB NB ltB md mlB hiB
  w_strict repeat' ((fail_if_success (with_reducible show wpAny _ _ (call (.ref 310) _) _ _ _)); kla_enter)
  (try dsimp only)
  rename Fr gH LF _ _ => FC
  rename News gH LF _ _ => NC
  refine told_use (told_all w 8) (ws := colItems ns) (vs := wv) (l := wl) (n := wv.length) ⟨K', FC, X', NC, T', rfl⟩ (by rw [hwl8]; decide) (by rw [hwl8]; decide) (by kst_p2) (by kst_p2) ?w1 ?w2 (hwv.mono fun v p h => h.mono fun q hq => ?w3) ?_
  case w1 =>
    intro p hp
    unfold colItems at hp
    (try k_fold)
    obtain ⟨q, hq, rfl⟩ := List.mem_map.mp hp
    exact (items_bnd ns q hq).1
  case w2 => k_mem
  case w3 => exact List.mem_append_right _ (.tail _ (List.mem_append_left _ hq))
  intro r usT nuT tlT hT tkT FT NT ltT mr hiT
  w_strict repeat' ((fail_if_success (with_reducible show wpAny _ _ (compareOp _ _ _) _ _ _)); kla_enter)
  rename Fr gH LF _ _ => FD
  rename News gH LF _ _ => ND
  rename_i tB _ lTB
  obtain ⟨tz, ND'⟩ : ∃ tz, News gH LF _ ((tB, tupO [.int 1 tz, .ref r]) :: (tlT ++ (tlB ++ (wl, listOf wv.toArray wv.length) :: (tlW ++ ((140, plO ps) :: (147, plO ps2) :: tl3))))) := ⟨_, ND⟩
  generalize toldOf (forest ltC (colItems ns)) = told at hiB hiT
  have mlB' : (lB, listOf wsB.toList.toArray nB) ∈ tlB := by rw [Array.toArray_toList]; exact mlB
  have ra := td_reads ND' (.tail _ (List.mem_append_right _ (List.mem_append_left _ md))) (.tail _ (List.mem_append_right _ (List.mem_append_left _ mlB'))) hiB
  have rb := td_reads ND' (.head _) (.tail _ (List.mem_append_left _ mr)) hiT
  refine eq_dataH ra rb (td_shaped _) (td_shaped _) (show 7 + 64 < cLine by decide) ?_
  rw [td_eqv]
  have m1 := ND' (140, plO ps) (.tail _ (List.mem_append_right _ (List.mem_append_right _ (.tail _ (List.mem_append_right _ (.head _))))))
  have m2 := ND' (147, plO ps2) (.tail _ (List.mem_append_right _ (List.mem_append_right _ (.tail _ (List.mem_append_right _ (.tail _ (.head _)))))))
  exact ⟨rfl, fun b o e => FD.keep b o e, rfl, hG5, ⟨ps, m1.1⟩, ⟨ps2, m2.1⟩, trivial⟩)
end Mine
end TClaw

set_option maxRecDepth 100000 in
set_option maxHeartbeats 8000000 in
theorem PySem.Challenge.cw_ti0073_01_holds : PySem.Challenge.rw_ti0073_01.Holds := by
  exact Mine.law_walk
