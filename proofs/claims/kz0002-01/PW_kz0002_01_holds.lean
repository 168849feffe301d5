import PyProof.Rows.All
import Wide.All
import OpenK.AllK
import Wide.FinOn
import KE.KPop
import KE.KRevIter
import KE.KDictList
import KE.KTurns
import KE.KCompIf
import KE.KSliceW
import PySem.Challenge.RW_kz0002_01
set_option Elab.async false

section
open PySem PySem.W PyProof.Rows
set_option Elab.async false
namespace Mine
set_option maxRecDepth 100000 in
/-- the program as the head sees it: the statements that bind no loose name -/
noncomputable def view : Program := (fun (s0 s1 s2 s3 s4 s5 s6 s7 s8 s9 s10 s11 s12 s13 s14 s15 s16 : Stmt) (_ : PySem.Challenge.pw_kz0002_01.main.body = [s0, s1, s2, s3, s4, s5, s6, s7, s8, s9, s10, s11, s12, s13, s14, s15, s16]) => ({ PySem.Challenge.pw_kz0002_01 with main := { PySem.Challenge.pw_kz0002_01.main with body := [s0, s1, s3, s4, s7, s8, s9, s10, s12, s13, s14, s15, s16] } } : Program)) _ _ _ _ _ _ _ _ _ _ _ _ _ _ _ _ _ rfl
theorem opt_pair {α β γ : Type} {o : Option α} {f : α → β} {g : α → γ} {b : β} {c : γ} (h1 : o.map f = some b) (h2 : o.map g = some c) : o.map (fun s => (f s, g s)) = some (b, c) := by
  cases o with
  | none => cases h1
  | some s => rw [Option.map_some] at *; rw [Option.some.inj h1, Option.some.inj h2]
noncomputable def openG (tb : String → Option Builtin) (imp : (String → Option Builtin) → Program → World → Nat → Shared → Thread → Option Shared) (st : Program → Shared × Thread) (tr : (String → Option Builtin) → Program → World → Nat → Option Value → Nat → Shared → Thread → Option Shared) (p : Program) (w : World) (N : Nat) : Option Shared :=
  ((imp tb (opening p) w N (st (opening p)).1 (st (opening p)).2).bind (fenceModules? p)).bind fun s₀ => match s₀.heap.isNs mainGlobals && s₀.gens.size == 0 with
  | true => (tr tb p w s₀.heap.objs.size (s₀.heap.nsMap mainGlobals "__annotations__") N s₀ (topStub p)).bind fun s₁ => match staticsOk (importedModules p.main.body) s₀.heap s₁.heap && namesBound p s₁.heap && gensDone s₁ && laidKept s₀.heap s₁.heap with
      | true => some s₁
      | false => none
  | false => none
theorem openG_eq (p : Program) (w : World) (N : Nat) : openEnds treeTable p w N = openG treeTable importEnds start topRun p w N := rfl
noncomputable def openQ (p : Program) (w : World) (N : Nat) : Option Shared := openG PySem.W.Fast.tw14364793385576792824 PySem.W.Fast.tw10274390034422433532 PySem.W.Fast.tw1435165496053646825 PySem.W.Fast.tw14082659384304107361 p w N
theorem openQ_eq (p : Program) (w : World) (N : Nat) : openEnds treeTable p w N = openQ p w N := by
  rw [openG_eq]
  unfold openQ
  rw [← PySem.W.Fast.te14364793385576792824, ← PySem.W.Fast.te10274390034422433532, ← PySem.W.Fast.te1435165496053646825, ← PySem.W.Fast.te14082659384304107361]
theorem left_join {p q : Program} {loose : List Str} {Xt : Shared → Bool} {N : Nat} {K : Params → Frag} {as ts : List Addr} {e : ∀ P, as = (K P).map (·.1)}
    (ha : ∀ w : World, (openQ p w N).map (fun s => PySem.W.Fast.tw4187177175401517315 q loose (importedModules p.main.body) Xt true s) = some (openGood q loose))
    (hb : ∀ w : World, (openQ p w N).map (fun s => (((K w.params).map (·.1)).map s.heap.get?, ts.map s.heap.get?)) = some ((K w.params).map fun p => some p.2, ts.map fun _ => some (tabObj #[]))) :
    LeftO p q loose Xt (Hook.obs (kmHook K as e ts)) (Hook.val (kmHook K as e ts)) N := fun w => by
  have a := ha w
  have b := hb w
  rw [← openQ_eq, ← PySem.W.Fast.te4187177175401517315] at a
  rw [← openQ_eq, ← e w.params] at b
  exact opt_pair a b
theorem holds_both {r : OpenRow} {q : Program} {loose : List Str} {Xt : Shared → Bool} {XP : (Str → Option Value) → Heap → Prop} {α : Type} {Yf : Shared → α} {Ya : World → α} {YP : World → Heap → Prop} {d : DefRec} {kwd : List (Str × Expr)} {N : Nat}
    (hY : ∀ w s, Yf s = Ya w → YP w s.heap) (hYk : ∀ w h h', YP w h → (∀ b o, h.get? b = some o → h'.get? b = some o) → YP w h')
    (hX : ∀ s, Xt s = true → XP (s.heap.nsMap mainGlobals) s.heap) (hXk : ∀ mg h h', XP mg h → (∀ b o, h.get? b = some o → h'.get? b = some o) → XP mg h')
    (hdef : defOf q r.name = some (d, kwd)) (hp : r.prog.theDef r.name = some (d.params, d.body, d.scope)) (hk : kwWritten? d.params.kwonlyargs d.params.kw_defaults = some kwd) (hRf : ∀ s, Xt s = true → RecFacts r.records s.heap) (hwr : (!r.writes || r.records.isEmpty) = true)
    (k1 : r.wellSaid = true) (ok : (chainsOk q && opensWell r.prog && (frees r.toRowW && r.within.isEmpty)) = true) (hb : r.prog.bare) (hw : r.toRowW.promised)
    (both : LeftO r.prog q loose Xt Yf Ya N ∧ WalkO q loose XP YP r.toRowW d kwd fun f vs => PySem.call f vs) : r.Holds :=
  holds_open both.1 hY hYk hX hXk hdef hp hk hRf hwr k1 ok hb hw both.2
set_option hygiene false in
local macro_rules | `(tactic| o_head $H) => `(tactic| (refine holds_both (q := Mine.view) (loose := [Str.ofString "_twin_re_1", Str.ofString "split_lines", Str.ofString "NodeOrLeaf", Str.ofString "Leaf", Str.ofString "BaseNode"]) (Xt := fun s => xlAt Mine.view [] s && recOk (RowW.records (OpenRow.toRowW PySem.Challenge.rw_kz0002_01.row)) s) (XP := XL Mine.view []) (Yf := Hook.obs $H) (Ya := Hook.val $H) (YP := Hook.says $H) (N := 4722) (Hook.of $H) (Hook.keeps $H) (fun s e => xl_of s (Bool.and_eq_true_iff.mp e).1) XL.keeps (by rfl) (by rfl) (by rfl) (fun s e => recFacts_of (Bool.and_eq_true_iff.mp e).2) (by rfl) (by first | assumption | decide +kernel) (by decide +kernel) ⟨rfl, rfl, rfl, rfl, rfl, by decide +kernel⟩ ?hw ?hc))
set_option maxRecDepth 100000 in
set_option maxHeartbeats 0 in
open_top hd for PySem.Challenge.rw_kz0002_01
set_option maxRecDepth 100000 in
theorem left_seenQ (w : World) : (openQ PySem.Challenge.rw_kz0002_01.row.prog w 4722).map (fun s => PySem.W.Fast.tw4187177175401517315 Mine.view [Str.ofString "_twin_re_1", Str.ofString "split_lines", Str.ofString "NodeOrLeaf", Str.ofString "Leaf", Str.ofString "BaseNode"] (importedModules PySem.Challenge.rw_kz0002_01.row.prog.main.body) (fun s => xlAt Mine.view [] s && recOk (RowW.records (OpenRow.toRowW PySem.Challenge.rw_kz0002_01.row)) s) true s) = some (openGood Mine.view [Str.ofString "_twin_re_1", Str.ofString "split_lines", Str.ofString "NodeOrLeaf", Str.ofString "Leaf", Str.ofString "BaseNode"]) := by
  kernel_rfl
set_option maxRecDepth 100000 in
theorem left_hookQ (w : World) : (openQ PySem.Challenge.rw_kz0002_01.row.prog w 4722).map (fun s => (((Mine.hd.heap_39 w.params).map (·.1)).map s.heap.get?, ([237] : List Addr).map s.heap.get?)) = some ((Mine.hd.heap_39 w.params).map fun p => some p.2, ([237] : List Addr).map fun _ => some (tabObj #[])) := by
  kernel_rfl
theorem left {as : List Addr} {e : ∀ P, as = (Mine.hd.heap_39 P).map (·.1)} : LeftO PySem.Challenge.rw_kz0002_01.row.prog Mine.view [Str.ofString "_twin_re_1", Str.ofString "split_lines", Str.ofString "NodeOrLeaf", Str.ofString "Leaf", Str.ofString "BaseNode"] (fun s => xlAt Mine.view [] s && recOk (RowW.records (OpenRow.toRowW PySem.Challenge.rw_kz0002_01.row)) s) (Hook.obs (kmHook Mine.hd.heap_39 as e [237])) (Hook.val (kmHook Mine.hd.heap_39 as e [237])) 4722 := by
  with_reducible exact left_join left_seenQ left_hookQ
end Mine
end

section
open PySem PySem.W PyProof.Rows
set_option Elab.async false
namespace Mine

/-- the surroundings of a call made from a def's frame -/
abbrev topA (dp un : Nat) (gd : Option (List Code)) (env : Env) (outer : List Env) : Around := { handled := none, depth := dp, frames := some (env :: outer), guards := gd, units := un }

/-- what holds of the frame at hand, the ledger and the written part -/
structure At (w : World) (A₀ : Around) (base h₀ : Heap) (outer : List Env) (L : Addr) (m : Str → Option Value) (loose : List Str) (mean : ExcName → Option Value) (mg mb : Str → Option Value) (news : List (Addr × Obj)) (h : Heap) : Prop where
  B : Below A₀ base outer h₀
  F : Fr h₀ L h m
  X : (Mine.hd.heap_39 w.params).In h₀
  N : News h₀ L h news
  T : Top topProg loose mean mg mb h₀
  C : CodeHd base 241 237

/-- a def's contract: called with vs over the ledger news it hands back a value and a ledger of which Post speaks -/
def Tell (w : World) (f : Addr) (vs : List Value) (news : List (Addr × Obj)) (d u : Nat) (Post : Value → List (Addr × Obj) → Prop) : Prop :=
  ∀ (dp un : Nat) (gd : Option (List Code)) (cn : Str) (cs : Scope) (L a : Addr) (ccd : Value) (cl : List (Str × Addr)) (outer : List Env) (A₀ : Around) (base h₀ : Heap) (m : Str → Option Value) (loose : List Str) (mean : ExcName → Option Value) (mg mb : Str → Option Value) (s : Shared) (R : Result → Shared → Prop),
    At w A₀ base h₀ outer L m loose mean mg mb news s.heap → cs.kind = .function → dp + d < 1000 → un + u < 9900 →
    (∀ r news' h' tk', Fr h₀ L h' m → News h₀ L h' news' → Post r news' → R (.ok (.ret r)) { s with heap := h', toks := tk' }) →
    codeAny (model PySem.Challenge.rw_kz0002_01.row.toRowW.prog w) (topA dp un gd (envX cn cs L a ccd cl) outer) (.call (.ref f) ⟨vs, []⟩) R s

section
variable {w : World} {f : Addr} {vs : List Value} {news : List (Addr × Obj)} {d u : Nat} {Post : Value → List (Addr × Obj) → Prop} {dp un : Nat} {gd : Option (List Code)} {cn : Str} {cs : Scope} {L a : Addr} {ccd : Value} {cl : List (Str × Addr)} {outer : List Env} {A₀ : Around} {base h₀ : Heap} {m : Str → Option Value} {loose : List Str} {mean : ExcName → Option Value} {mg mb : Str → Option Value} {s : Shared} {R : Result → Shared → Prop}
theorem Tell.use (t : Tell w f vs news d u Post) (B : Below A₀ base outer h₀) (F : Fr h₀ L s.heap m) (X : (Mine.hd.heap_39 w.params).In h₀) (N : News h₀ L s.heap news) (T : Top topProg loose mean mg mb h₀) (C : CodeHd base 241 237)
    (hk : cs.kind = .function) (hd : dp + d < 1000) (hu : un + u < 9900)
    (ret : ∀ r news' h' tk', Fr h₀ L h' m → News h₀ L h' news' → Post r news' → R (.ok (.ret r)) { s with heap := h', toks := tk' }) :
    codeAny (model PySem.Challenge.rw_kz0002_01.row.toRowW.prog w) (topA dp un gd (envX cn cs L a ccd cl) outer) (.call (.ref f) ⟨vs, []⟩) R s :=
  t _ _ _ _ _ _ _ _ _ _ _ _ _ _ _ _ _ _ _ _ ⟨B, F, X, N, T, C⟩ hk hd hu ret
theorem Tell.call {Q E : Value → Shared → Prop} (t : Tell w f vs news d u Post) (B : Below A₀ base outer h₀) (F : Fr h₀ L s.heap m) (X : (Mine.hd.heap_39 w.params).In h₀) (N : News h₀ L s.heap news) (T : Top topProg loose mean mg mb h₀) (C : CodeHd base 241 237)
    (hk : cs.kind = .function) (hd : dp + d < 1000) (hu : un + u < 9900)
    (ret : ∀ r news' h' tk', Fr h₀ L h' m → News h₀ L h' news' → Post r news' → Q r { s with heap := h', toks := tk' }) :
    wpAny (model PySem.Challenge.rw_kz0002_01.row.toRowW.prog w) (topA dp un gd (envX cn cs L a ccd cl) outer) (PySem.call (.ref f) vs) Q E s :=
  wpAny_call (t.use B F X N T C hk hd hu ret)
end
end Mine
end

section
open PySem PySem.W PyProof.Rows
set_option Elab.async false
set_option maxRecDepth 100000
namespace Mine

section
variable {prog : Program} {w : World} {A : Around} {E : Value → Shared → Prop} {s : Shared}
open Builtin Builtin.Str in
theorem replGE {x y z : Str} {t u v : Tok} {Q : Value → Shared → Prop}
    (hu : @LT.lt Nat _ 0 u) (hv : @LT.lt Nat _ 0 v) (huv : @Ne Nat u v) (hyz : (y == z) = false) (hx : x.length ≤ 1000000) (hz : z.length ≤ 10)
    (hq : ∀ (t' : Tok) (k : Nat), @LE.le Nat _ s.toks k → Q (.str (Txt.replace x y z) t') { s with toks := k }) : wpAny (model prog w) A (call (.builtin "str.replace") [.str x t, .str y u, .str z v]) Q E s := by
  have h2 : (x.length + 1) * z.length ≤ 1000001 * 10 := Nat.mul_le_mul (by omega) hz
  have hb : x.length + (x.length + 1) * z.length ≤ 16777216 := Nat.le_trans (Nat.add_le_add hx h2) (by decide)
  have hl : tooLong (x.length + (occurrences x y 0 x.length (x.length + 1)).length * z.length) = false := by
    have h1 := StrLaws.occ_length_le x y 0 x.length (x.length + 1)
    have h3 : (occurrences x y 0 x.length (x.length + 1)).length * z.length ≤ (x.length + 1) * z.length := Nat.mul_le_mul_right _ h1
    unfold tooLong sizeLine
    exact decide_eq_false (Nat.not_lt.mpr (Nat.le_trans (Nat.add_le_add_left h3 _) hb))
  refine call_gives F.slot_str_replace (typeIs_str _ _ _) F.entry_str_replace (F.args_str_replace_3 _ _ _)
    (gives_str_replace x y z t u v fun _ => ⟨by have := Nat.ne_of_gt hu; have := Nat.ne_of_gt hv; simp_all, by simpa using huv, hyz, hl⟩) ?_
  unfold Txt.replace at hq
  split
  · rename_i hc
    rw [if_pos hc] at hq
    exact hq t s.toks (Nat.le_refl _)
  · rename_i hc
    rw [if_neg hc] at hq
    exact ⟨fits_replaced y hb, hq _ _ (Nat.le_succ _)⟩

/-- the last item of a list -/
theorem lastL {value slice : Expr} {a : Addr} {l : List Value} {v : Value} {t : Tok} {Q : Value → Shared → Prop} (hl : s.heap.IsList a l.toArray) (hv : l[l.length - 1]? = some v) (h : Q v s)
    (hs : subscripted slice false (.ref a) (.int (-1) t) = operate [.ref a, .int (-1) t] (getItem (.ref a) (.int (-1) t)) := by with_unfolding_all rfl) :
    wpAny (model prog w) A (subscriptTail value slice (.ref a) (.int (-1) t)) Q E s := by
  have hp : 0 < l.length := by
    cases l with
    | nil => cases hv
    | cons _ _ => exact Nat.succ_pos _
  refine tail_any hl.typeIs slot_list_getitem.lookup (wpAny_getItem_list_neg (x := v) hl (by decide) ?_ (by decide) ?_ h) hs
  · simp only [List.size_toArray]; omega
  · have e : ((-1 : Int) + ((l.toArray.size : Nat) : Int)).toNat = l.length - 1 := by simp only [List.size_toArray]; omega
    rw [e]; simpa using hv
end

theorem strsAre_last : ∀ {l : List Value} {ys : List Str}, StrsAre l ys → 0 < ys.length → ∃ t, l[l.length - 1]? = some (.str (ys.getLastD Str.empty) t) := by
  intro l ys h hp
  have e : ys[ys.length - 1]? = some (ys.getLastD Str.empty) := by
    rw [List.getLastD_eq_getLast?, List.getLast?_eq_getElem?]
    have : ys.length - 1 < ys.length := by omega
    simp [this]
  rw [h.len_eq]
  exact h.at e

def texts : List Str := [Str.ofString "+", Str.ofString "a", Str.ofString "", Str.ofString "b\ncd", Str.ofString "\n", Str.ofString "x\ry", Str.ofString "a\r\n", Str.ofString "  ", Str.ofString "\n\nz", Str.ofString " ", Str.ofString "# c\n", Str.ofString "\n  ", Str.ofString "\r\n"]
def rep1 (v : Str) : Str := Txt.replace v (Str.ofString "\r\n") (Str.ofString "\n")
def rep2 (v : Str) : Str := Txt.replace (rep1 v) (Str.ofString "\r") (Str.ofString "\n")
/-- the lines of a text, as law's own helper cuts it -/
def linesT (v : Str) : List Str := Txt.split (rep2 v) (Str.ofString "\n")
theorem rep_short : ∀ v ∈ texts, v.length ≤ 10 ∧ (rep1 v).length ≤ 10 ∧ (rep2 v).length ≤ 10 ∧ 0 < (linesT v).length ∧ (linesT v).length ≤ 10 ∧ ((linesT v).getLastD Str.empty).length ≤ 10 := by decide +kernel

def advL (l : Int) (t : Str) : Int := l + (linesT t).length - 1
def advC (c : Int) (t : Str) : Int := (if (linesT t).length = 1 then c else 0) + ((linesT t).getLastD Str.empty).length
/-- a tuple of two ints -/
abbrev tup2 (l : Int) (tl : Tok) (c : Int) (tc : Tok) : Obj := { cls := .type "tuple", data := .seq #[.int l tl, .int c tc] }
theorem drop1 {h₀ h : Heap} {L : Addr} {x y : Addr × Obj} {r : List (Addr × Obj)} (N : News h₀ L h (x :: y :: r)) : News h₀ L h (x :: r) := fun p hp => N p (by
  rcases List.mem_cons.mp hp with rfl | hp
  · exact .head _
  · exact .tail _ (.tail _ hp))
/-- what a call that makes a pair hands back -/
def Pair (l c : Int) (news : List (Addr × Obj)) (r : Value) (news' : List (Addr × Obj)) : Prop := ∃ a ta tb, r = .ref a ∧ news' = (a, tup2 l ta c tb) :: news ∧ AllLt a news
theorem Pair.mk {l c l' c' : Int} {news : List (Addr × Obj)} {a : Addr} {t1 t2 : Tok} (hl : l' = l) (hc : c' = c) (h : AllLt a news) : Pair l c news (.ref a) ((a, tup2 l' t1 c' t2) :: news) := ⟨a, t1, t2, rfl, by rw [hl, hc], h⟩
theorem advC_one {c : Int} {v : Str} (h : ((linesT v).length : Int) = 1) : c + ((linesT v).getLastD Str.empty).length = advC c v := by
  have h' : (linesT v).length = 1 := by omega
  unfold advC; rw [if_pos h']
theorem advC_more {c : Int} {v : Str} (h : ¬ ((linesT v).length : Int) = 1) : 0 + (((linesT v).getLastD Str.empty).length : Int) = advC c v := by
  have h' : ¬ (linesT v).length = 1 := by omega
  unfold advC; rw [if_neg h']
theorem allLt_trans {a b : Addr} {l : List (Addr × Obj)} (h : AllLt a l) (hab : @LT.lt Nat _ a b) : AllLt b l := tbn_up hab h
end Mine
end

section
open PySem PySem.W PyProof.Rows
set_option Elab.async false
set_option maxRecDepth 100000
namespace Mine
theorem slot_pat_split : Slot "re.Pattern" "split" "re.Pattern.split" :=
  .of (owner := "re.Pattern") (n := "split") (by rw [typeLookup_type, builtinLookup_eq_fast]; kernel_rfl) (by decide +kernel) (by decide +kernel) (by decide +kernel)
    (by first | exact .inl (by decide +kernel) | exact .inr (by decide +kernel)) (by rw [isSubtype_type]; kernel_rfl)
theorem plain_pat : PlainAttrs "re.Pattern" :=
  ⟨⟨"object.__getattribute__", by rw [typeLookup_type, builtinLookup_eq_fast]; kernel_rfl, by decide +kernel⟩, by rw [typeLookup_type, builtinLookup_eq_fast]; kernel_rfl⟩
theorem type_pat_split : typeOf (.builtin "re.Pattern.split") = pure (.type "method_descriptor") := by show builtinType _ = _; rw [builtinType_eq_fast]; kernel_rfl
theorem entry_pat_split : entryFor table "re.Pattern.split" = some Builtin.«re.Pattern.split» := entryFor_of_tree (by kernel_rfl)
theorem args_pat_split (a b : Value) : argsOk "re.Pattern.split" ⟨[a, b], []⟩ := by unfold argsOk; kernel_rfl

open Builtin.Re in
theorem named_split (v : Value) : reNamed "re.Pattern.split" "split" ["string", "maxsplit"] 1 [v] [] = pure [some v, none] := by rfl

open Builtin.Re
def driveP : Nat → Sre.M → Option Sre.M
  | 0, _ => none
  | n + 1, m => if (m.runFor reTurnSteps).outcome.isSome then some (m.runFor reTurnSteps) else driveP n (m.runFor reTurnSteps)
def nextP (m : Sre.M) : Option (Option Sre.M) := match driveP 60 m with
  | none => none
  | some m => match m.outcome with
    | some .matched => some (some m)
    | some .failed => some none
    | _ => none

section
variable {M : Model} {A : Around} {E : Value → Shared → Prop} {s : Shared}
theorem drive_ {m' : Sre.M} {Q : Sre.M → Shared → Prop} : ∀ (n k : Nat) (m : Sre.M), driveP n m = some m' → Q m' s → wpAny M A (reDrive (k + n) m) Q E s
  | 0, _, _, e, _ => by cases e
  | n + 1, k, m, e, h => by
    unfold driveP at e
    show wpAny M A (if (m.runFor reTurnSteps).outcome.isSome then pure (m.runFor reTurnSteps) else do rule "sre.turn"; reDrive (k + n) (m.runFor reTurnSteps)) Q E s
    by_cases hc : (m.runFor reTurnSteps).outcome.isSome = true
    · rw [if_pos hc] at e ⊢; cases e; exact wpAny_pure h
    · rw [if_neg hc] at e ⊢; exact wpAny_bind (wpAny_rule (drive_ n k _ e h))
theorem runToEnd_ {m : Sre.M} {r : Option Sre.M} {Q : Option Sre.M → Shared → Prop} (e : nextP m = some r) (h : Q r s) : wpAny M A (reRunToEnd m) Q E s := by
  unfold nextP at e
  cases hd : driveP 60 m with
  | none => rw [hd] at e; cases e
  | some m' =>
    rw [hd] at e
    unfold reRunToEnd
    refine wpAny_bind ?_
    rw [show (2 ^ 64 : Nat) = (2 ^ 64 - 60) + 60 from rfl]
    refine drive_ 60 _ m hd ?_
    refine wpAny_bind ?_
    refine wpAny_forIn_list _ (fun _ _ s' => s' = s) _ (fun x rest b s' hs => ?_) (fun b s' hs => ?_) _ _ rfl
    · subst hs
      split
      · exact wpAny_bind (wpAny_rule (wpAny_pure rfl))
      · exact wpAny_pure rfl
    · subst hs
      dsimp only at e
      cases ho : m'.outcome with
      | none => rw [ho] at e; cases e
      | some o =>
        rw [ho] at e
        cases o with
        | matched => cases e; exact wpAny_pure h
        | failed => cases e; exact wpAny_pure h
        | stuck _ => cases e

def patCode : Array Nat := #[14, 9, 4, 1, 2, 16, 10, 16, 13, 0, 7, 5, 16, 10, 15, 14, 7, 16, 13, 16, 10, 15, 7, 5, 16, 13, 15, 2, 0, 1]
def PatAt (h : Heap) : Prop := ∃ t a b c d e f g, h.get? 43 = some { cls := .type "re.Pattern", data := .fields #[.str t a, .int 32 b, .int 0 c, d, e, .ref 42, .int 0 f] } ∧ h.get? 42 = some { cls := .type "tuple", data := .seq g } ∧ (g.map reRawOf).map (·.toNat) = patCode

theorem whole_ {v : Str} {t : Tok} {Q : ReTarget → Shared → Prop} (hp : PatAt s.heap) (h : Q ⟨.ref 43, .str v t, patCode, v.cps, 0, 0, 0, v.cps.size⟩ s) : wpAny M A (reWholeTarget (.ref 43) (.str v t)) Q E s := by
  obtain ⟨x, a, b, c, d, e, f, g, h1, h2, h3⟩ := hp
  unfold reWholeTarget fieldsOf
  refine wpAny_bind (wpAny_bind (wpAny_load h1 (wpAny_pure ?_)))
  refine wpAny_bind (wpAny_pure ?_)
  show wpAny M A (do (pure () : Sem Unit); let r ← reRawItems (.ref 42); pure { pattern := Value.ref 43, string := Value.str v t, code := Array.map (fun x => x.toNat) r, text := v.cps, kind := 0, groups := 0, pos := 0, lim := v.cps.size : ReTarget }) Q E s
  refine wpAny_bind ?_
  unfold reRawItems seqItems?
  refine wpAny_bind (wpAny_bind (wpAny_load h2 (wpAny_pure ?_)))
  refine wpAny_pure (wpAny_pure ?_)
  rw [← h3] at h
  exact h
end

/-- one turn of split's loop, over plain data: the texts cut so far, where the next search begins, where the last cut ended, whether it must advance, whether it is over -/
structure PS where
  outs : List Str
  start : Nat
  last : Nat
  must : Bool
  over : Bool
def stepP (text : Array Nat) (p : PS) : Option PS :=
  if p.over then some p else match nextP (Sre.forSearch patCode text 0 p.start text.size p.must) with
  | none => none
  | some none => some { p with over := true }
  | some (some m) => some ⟨p.outs ++ [⟨text.extract p.last m.start⟩], m.handed, m.handed, m.handed == m.start, false⟩
def loopP (text : Array Nat) : Nat → PS → Option PS
  | 0, p => some p
  | k + 1, p => (stepP text p).bind (loopP text k)
def resP (v : Str) : Option (List Str) := (loopP v.cps (2 * v.cps.size + 3) ⟨[], 0, 0, false, false⟩).bind fun p => if p.over then some (p.outs ++ [⟨v.cps.extract p.last v.cps.size⟩]) else none
set_option maxHeartbeats 4000000 in
theorem res_lines : ∀ v ∈ texts, resP v = some (linesT v) := by decide +kernel

theorem StrsAre.push : ∀ {vs : List Value} {ys : List Str} {y : Str} {t : Tok}, StrsAre vs ys → StrsAre (vs ++ [.str y t]) (ys ++ [y])
  | _, _, y, t, .nil => .cons y t .nil
  | _, _, _, _, .cons y' t' h => .cons y' t' (StrsAre.push h)

section
variable {prog : Program} {w : World} {A : Around} {E : Value → Shared → Prop} {s : Shared}
theorem body_split {v : Str} {t : Tok} {ys : List Str} {Q : Fin → Shared → Prop} (hp : PatAt s.heap) (hr : resP v = some ys) (hsz : v.cps.size ≤ 100) (hys : ys.length ≤ 100)
    (h : ∀ (vs : List Value) (tk : Nat), StrsAre vs ys → Q (.done (.ret (.ref s.heap.objs.size))) { s with heap := s.heap.push (listOf vs.toArray 0), toks := tk }) :
    wpAny (model prog w) A (Builtin.«re.Pattern.split» ⟨[.ref 43, .str v t], []⟩) Q E s := by
  have cutSz : ∀ b e, (⟨v.cps.extract b e⟩ : Str).length ≤ sizeLine := fun b e => by
    show (v.cps.extract b e).size ≤ sizeLine
    rw [sizeLine_eq, Array.size_extract]; omega
  unfold resP at hr
  cases hl : loopP v.cps (2 * v.cps.size + 3) ⟨[], 0, 0, false, false⟩ with
  | none => rw [hl] at hr; cases hr
  | some pf =>
  rw [hl] at hr
  dsimp only [Option.bind] at hr
  split at hr
  case isFalse => cases hr
  rename_i hover
  cases hr
  unfold Builtin.«re.Pattern.split»
  dsimp only
  rw [named_split]
  refine wpAny_bind (wpAny_pure ?_)
  refine wpAny_bind (wpAny_pure ?_)
  refine wpAny_bind (whole_ hp ?_)
  refine wpAny_bind (wpAny_forIn_list _ (fun rest b s' => ∃ (tk : Nat) (vs : List Value) (p : PS) (n : Int), s' = { s with toks := tk } ∧ b = (vs.toArray, p.start, p.last, p.must, n, p.over) ∧ StrsAre vs p.outs ∧ loopP v.cps rest.length p = some pf) _ ?_ ?_ _ _ ?_)
  · rintro x rest b s' ⟨tk, vs, p, n, rfl, rfl, hvs, hlp⟩
    rw [List.length_cons] at hlp
    unfold loopP stepP at hlp
    dsimp only at hlp ⊢
    cases ho : p.over with
    | true =>
      rw [ho] at hlp
      simp only [if_true, Option.bind_some] at hlp
      simp only [Bool.not_true, Bool.false_eq_true, if_false]
      exact wpAny_pure ⟨tk, vs, p, n, rfl, by rw [ho], hvs, hlp⟩
    | false =>
      rw [ho] at hlp
      simp only [Bool.false_eq_true, if_false] at hlp
      simp only [Bool.not_false, if_true]
      show wpAny (model prog w) A (do let r ← reNextFound ⟨.ref 43, .str v t, patCode, v.cps, 0, 0, 0, v.cps.size⟩ p.start p.must; _) _ E _
      refine wpAny_bind ?_
      unfold reNextFound
      cases hn : nextP (Sre.forSearch patCode v.cps 0 p.start v.cps.size p.must) with
      | none => rw [hn] at hlp; cases hlp
      | some r =>
        rw [hn] at hlp
        refine runToEnd_ hn ?_
        cases r with
        | none => exact wpAny_pure ⟨tk, vs, { p with over := true }, n, rfl, rfl, hvs, by simpa using hlp⟩
        | some m' =>
          refine wpAny_bind ?_
          show wpAny _ _ (mkStr ⟨v.cps.extract p.last m'.start⟩) _ _ _
          refine wpAny_mkStr ?_ (cutSz _ _)
          refine wpAny_bind (wpAny_pure ?_)
          refine wpAny_pure ⟨tk + 1, vs ++ [.str ⟨v.cps.extract p.last m'.start⟩ tk], ⟨p.outs ++ [⟨v.cps.extract p.last m'.start⟩], m'.handed, m'.handed, m'.handed == m'.start, false⟩, n + 1, rfl, ?_, StrsAre.push hvs, by simpa using hlp⟩
          simp
  · rintro b s' ⟨tk, vs, p, n, rfl, rfl, hvs, hlp⟩
    unfold loopP at hlp
    obtain rfl : p = pf := Option.some.inj hlp
    dsimp only
    rw [hover]
    simp only [Bool.not_true, Bool.false_eq_true, if_false]
    refine wpAny_bind ?_
    show wpAny _ _ (mkStr ⟨v.cps.extract p.last v.cps.size⟩) _ _ _
    refine wpAny_mkStr ?_ (cutSz _ _)
    have hv2 := StrsAre.push (y := ⟨v.cps.extract p.last v.cps.size⟩) (t := tk) hvs
    have hlen := hv2.len_eq
    have e : (vs.toArray.push (.str ⟨v.cps.extract p.last v.cps.size⟩ tk)).toList = vs ++ [.str ⟨v.cps.extract p.last v.cps.size⟩ tk] := by simp
    show wpAny _ _ (newList (vs.toArray.push (.str ⟨v.cps.extract p.last v.cps.size⟩ tk)).toList >>= ret) _ _ _
    rw [e]
    refine wpAny_bind (wpAny_newList (wpAny_pure (h _ (tk + 1) hv2)) ?_)
    rw [sizeLine_eq]
    omega
  · exact ⟨s.toks, [], ⟨[], 0, 0, false, false⟩, 0, rfl, rfl, .nil, by rw [List.length_range]; exact hl⟩

theorem pat_split {v : Str} {t : Tok} {Q : Value → Shared → Prop} (hp : PatAt s.heap) (hv : v ∈ texts)
    (h : ∀ (vs : List Value) (tk : Nat), StrsAre vs (linesT v) → Q (.ref s.heap.objs.size) { s with heap := s.heap.push (listOf vs.toArray 0), toks := tk }) :
    wpAny (model prog w) A (call (.builtin "re.Pattern.split") [.ref 43, .str v t]) Q E s := by
  obtain ⟨q1, q2, q3, q4, q5, q6⟩ := rep_short v hv
  have hp' := hp
  obtain ⟨x, a, b, c, d, e, f, g, h1, h2, h3⟩ := hp'
  refine wpAny_call (codeAny_call_builtin slot_pat_split.plain entry_pat_split (slot_pat_split.check _ _ _ _ _ _ _ _ ⟨_, h1, rfl⟩ (args_pat_split _ _) ?_))
  exact body_split hp (res_lines v hv) (by have : v.cps.size = v.length := rfl; omega) (by omega) h
end

theorem patAt_K {w : World} {h : Heap} (X : (Mine.hd.heap_39 w.params).In h) : PatAt h :=
  ⟨Str.ofString "\\n|\\r\\n|\\r", 292, 325, 0, .none, .none, 0, #[.int 14 0, .int 9 0, .int 4 0, .int 1 0, .int 2 0, .int 16 0, .int 10 0, .int 16 0, .int 13 0, .int 0 0, .int 7 0, .int 5 0, .int 16 0, .int 10 0, .int 15 0, .int 14 0, .int 7 0, .int 16 0, .int 13 0, .int 16 0, .int 10 0, .int 15 0, .int 7 0, .int 5 0, .int 16 0, .int 13 0, .int 15 0, .int 2 0, .int 0 0, .int 1 0],
    X 43 _ (by kernel_rfl), X 42 _ (by kernel_rfl), by decide +kernel⟩

section
variable {prog : Program} {w : World} {A : Around} {E : Value → Shared → Prop} {s : Shared} {h₀ : Heap} {L : Addr} {m : Str → Option Value} {news : List (Addr × Obj)}
theorem pat_splitK {v : Str} {t : Tok} {Q : Value → Shared → Prop} (F : Fr h₀ L s.heap m) (X : (Mine.hd.heap_39 w.params).In h₀) (N : News h₀ L s.heap news) (hv : v ∈ texts)
    (h : ∀ D vs h' (tk : Nat), StrsAre vs (linesT v) → Fr h₀ L h' m → News h₀ L h' ((D, listOf vs.toArray 0) :: news) → (∀ p ∈ news, p.1 < D) → Q (.ref D) { s with heap := h', toks := tk }) :
    wpAny (model prog w) A (call (.builtin "re.Pattern.split") [.ref 43, .str v t]) Q E s :=
  pat_split (patAt_K (X.keeps F.keep)) hv fun vs tk hs => h _ vs _ tk hs (F.push _) (N.push F _) fun p hp => Heap.lt_size (N p hp).1
theorem pat_method {pl : Sem Bool} {Q : Value × List Value → Shared → Prop} (F : Fr h₀ L s.heap m) (X : (Mine.hd.heap_39 w.params).In h₀) (h : Q (.builtin "re.Pattern.split", [.ref 43]) s) :
    wpAny (model prog w) A (getMethod (.ref 43) (Str.ofString "split") pl) Q E s := by
  obtain ⟨x, a, b, c, d, e, f, g, h1, h2, h3⟩ := patAt_K (X.keeps F.keep)
  exact getMethod_builtin ⟨_, h1, rfl⟩ plain_pat slot_pat_split type_pat_split (fun a' e' => by cases e'; exact ⟨_, h1, rfl⟩) h
end
end Mine
end

section
open PySem PySem.W PyProof.Rows
set_option Elab.async false
set_option maxRecDepth 100000
namespace Mine

abbrev leafEs (w : World) (t1 t2 t3 t4 t5 : Tok) (v : Str) (tv : Tok) (l : Int) (tl : Tok) (c : Int) (tc : Tok) (pv qv : Value) : List DictEntry :=
  [⟨PyData.keyHash w.params (Str.ofString "value"), .str (Str.ofString "value") t1, .str v tv⟩,
   ⟨PyData.keyHash w.params (Str.ofString "line"), .str (Str.ofString "line") t2, .int l tl⟩,
   ⟨PyData.keyHash w.params (Str.ofString "column"), .str (Str.ofString "column") t3, .int c tc⟩,
   ⟨PyData.keyHash w.params (Str.ofString "prefix"), .str (Str.ofString "prefix") t4, pv⟩,
   ⟨PyData.keyHash w.params (Str.ofString "parent"), .str (Str.ofString "parent") t5, qv⟩]
abbrev nodeEs (w : World) (t1 t2 t3 : Tok) (cv pv yv : Value) : List DictEntry :=
  [⟨PyData.keyHash w.params (Str.ofString "children"), .str (Str.ofString "children") t1, cv⟩,
   ⟨PyData.keyHash w.params (Str.ofString "parent"), .str (Str.ofString "parent") t2, pv⟩,
   ⟨PyData.keyHash w.params (Str.ofString "type"), .str (Str.ofString "type") t3, yv⟩]

/-- a leaf as law sees it: its object, where it starts, where it ends -/
structure LeafR where
  ref : Addr
  st : Int × Int
  en : Int × Int

/-- the ledger bears, at v, a tree no deeper than d whose leaves are ls in order -/
inductive TreeIn (w : World) (news : List (Addr × Obj)) : Nat → Value → List LeafR → Prop
  | leaf {d : Nat} {x dx : Addr} {t1 t2 t3 t4 t5 tv tl tc : Tok} {v : Str} {l c : Int} {pv qv : Value} {n : Nat} : (x, instObj 180 dx) ∈ news →
      (dx, dictOf (leafEs w t1 t2 t3 t4 t5 v tv l tl c tc pv qv) n) ∈ news → v ∈ texts → TreeIn w news d (.ref x) [⟨x, (l, c), (advL l v, advC c v)⟩]
  | node {d : Nat} {x dx cl : Addr} {t1 t2 t3 : Tok} {pv yv : Value} {n n' : Nat} {vs : List Value} {lss : List (List LeafR)} : (x, instObj 280 dx) ∈ news →
      (dx, dictOf (nodeEs w t1 t2 t3 (.ref cl) pv yv) n) ∈ news → (cl, listOf vs.toArray n') ∈ news → vs.length = lss.length → 0 < vs.length → vs.length ≤ 3 →
      (∀ (i : Nat) (v : Value) (ls : List LeafR), vs[i]? = some v → lss[i]? = some ls → TreeIn w news d v ls) → TreeIn w news (d + 1) (.ref x) lss.flatten

theorem TreeIn.mono {w : World} {news news' : List (Addr × Obj)} {d : Nat} {v : Value} {ls : List LeafR} (h : TreeIn w news d v ls) (hs : ∀ p ∈ news, p ∈ news') : TreeIn w news' d v ls := by
  induction h with
  | leaf h1 h2 h3 => exact .leaf (hs _ h1) (hs _ h2) h3
  | node h1 h2 h3 h4 h5 h6 _ ih => exact .node (hs _ h1) (hs _ h2) (hs _ h3) h4 h5 h6 ih
theorem TreeIn.up {w : World} {news : List (Addr × Obj)} {d : Nat} {v : Value} {ls : List LeafR} (h : TreeIn w news d v ls) : TreeIn w news (d + 1) v ls := by
  induction h with
  | leaf h1 h2 h3 => exact .leaf h1 h2 h3
  | node h1 h2 h3 h4 h5 h6 _ ih => exact .node h1 h2 h3 h4 h5 h6 ih
theorem TreeIn.ne_nil {w : World} {news : List (Addr × Obj)} {d : Nat} {v : Value} {ls : List LeafR} (h : TreeIn w news d v ls) : ls ≠ [] := by
  induction h with
  | leaf => exact List.cons_ne_nil _ _
  | @node d x dx cl t1 t2 t3 pv yv n n' vs lss h1 h2 h3 h4 h5 h6 hk ih =>
    cases vs with
    | nil => exact absurd h5 (Nat.lt_irrefl _)
    | cons v vs =>
      cases lss with
      | nil => cases h4
      | cons ls lss =>
        have := ih 0 v ls rfl rfl
        intro e
        rw [List.flatten_cons] at e
        exact this (List.append_eq_nil_iff.mp e).1
theorem TreeIn.handed {w : World} {news : List (Addr × Obj)} {d : Nat} {v : Value} {ls : List LeafR} (h : TreeIn w news d v ls) : handedIn v = true := by
  cases h <;> rfl

/-- the same of an attribute read -/
def TellA (w : World) (v : Value) (name : Str) (news : List (Addr × Obj)) (d u : Nat) (Post : Value → List (Addr × Obj) → Prop) : Prop :=
  ∀ (dp un : Nat) (gd : Option (List Code)) (cn : Str) (cs : Scope) (L a : Addr) (ccd : Value) (cl : List (Str × Addr)) (outer : List Env) (A₀ : Around) (base h₀ : Heap) (m : Str → Option Value) (loose : List Str) (mean : ExcName → Option Value) (mg mb : Str → Option Value) (s : Shared) (ex : Bool) (Q E : Value → Shared → Prop),
    At w A₀ base h₀ outer L m loose mean mg mb news s.heap → cs.kind = .function → dp + d < 1000 → un + u < 9900 →
    (∀ r news' h' tk', Fr h₀ L h' m → News h₀ L h' news' → Post r news' → Q r { s with heap := h', toks := tk' }) →
    wpAny (model PySem.Challenge.rw_kz0002_01.row.toRowW.prog w) (topA dp un gd (envX cn cs L a ccd cl) outer) (getAttr v name ex) Q E s

section
variable {w : World} {v : Value} {name : Str} {news : List (Addr × Obj)} {d u : Nat} {Post : Value → List (Addr × Obj) → Prop} {dp un : Nat} {gd : Option (List Code)} {cn : Str} {cs : Scope} {L a : Addr} {ccd : Value} {cl : List (Str × Addr)} {outer : List Env} {A₀ : Around} {base h₀ : Heap} {m : Str → Option Value} {loose : List Str} {mean : ExcName → Option Value} {mg mb : Str → Option Value} {s : Shared}
theorem TellA.use {ex : Bool} {Q E : Value → Shared → Prop} (t : TellA w v name news d u Post) (B : Below A₀ base outer h₀) (F : Fr h₀ L s.heap m) (X : (Mine.hd.heap_39 w.params).In h₀) (N : News h₀ L s.heap news) (T : Top topProg loose mean mg mb h₀) (C : CodeHd base 241 237)
    (hk : cs.kind = .function) (hd : dp + d < 1000) (hu : un + u < 9900)
    (ret : ∀ r news' h' tk', Fr h₀ L h' m → News h₀ L h' news' → Post r news' → Q r { s with heap := h', toks := tk' }) :
    wpAny (model PySem.Challenge.rw_kz0002_01.row.toRowW.prog w) (topA dp un gd (envX cn cs L a ccd cl) outer) (getAttr v name ex) Q E s :=
  t _ _ _ _ _ _ _ _ _ _ _ _ _ _ _ _ _ _ _ _ _ _ ⟨B, F, X, N, T, C⟩ hk hd hu ret
end
end Mine
end

section
open PySem PySem.W PyProof.Rows
set_option Elab.async false
set_option maxRecDepth 100000
namespace Mine
example : (PySem.Challenge.rw_kz0002_01 = PySem.Challenge.rw_kz0002_01) ∧ (Mine.hd.heap_39 = Mine.hd.heap_39) := by k_fill; exact ⟨rfl, rfl⟩

local macro_rules | `(tactic| k_room) => `(tactic| ((try simp only [depth_mark, depth_under_make, depth_under_kw, depth_in1, depth_deeper, depth_caller]); (try dsimp only [topA]); (try simp only [recursionLimit]); omega))
local macro_rules | `(tactic| k_units) => `(tactic| ((try simp only [units_in1, units_deeper, Around.mark_units, units_caller]); (try dsimp only [topA]); (try simp only [cLine]); omega))
local macro_rules | `(tactic| ktr_enter) => `(tactic| (refine' code_def ?k1 ?k2 ?k3 ?k4 ?k5 ?kA ?kF ?kK ?k6 ?k7 ?k8 ?k9 ?kB ?_ ?c2 ?c3 ?c4 ?c5; (case kA => exact rfl); (case kF => exact rfl); (case kK => assumption); (case k1 => k_asm); (case k2 => k_asm); (case k3 => k_asm); (case k4 => k_asm); (case k5 => k_asm); (case k6 => k_is); (case k7 => k_is); (case k8 => k_room); (case k9 => first | exact BindsTo.of_eq rfl | exact binds_K (by k_in) rfl (by k_is) rfl rfl rfl); (case c5 => decide); (case kB => exact locs rfl); (case c2 => exact rfl); (case c3 => exact rfl); (case c4 => exact rfl); k_whole; intro g' L' h' FG' F' N' B' X' T'; (try dsimp only); (try k_fold)))
local macro_rules | `(tactic| k_mem) => `(tactic| assumption)

local macro_rules | `(tactic| walk_at "call builtin:str.replace") => `(tactic| (with_unfolding_all refine replGE (by omega) (by omega) (by omega) (by decide) (by omega) (by decide) ?_; intro t' k' hk'; (try dsimp only at hk')))
local macro_rules | `(tactic| walk_at "call builtin:str.split") => `(tactic| (with_unfolding_all refine KSpl.split1 (by k_asm) (by k_asm) (by decide) ?_ (by rw [sizeLine_eq]; omega); intro D' l' h' k' e' a' F' N' l1; (rw [e'] at a'); (clear e'); (generalize strValues l' = ls' at a' N'); (obtain ⟨tz', hz'⟩ := strsAre_last a' (by omega)); (try k_lt l1)))
local macro_rules | `(tactic| walk_at "call builtin:len") => `(tactic| ((with_reducible show wpAny _ _ (call (Value.builtin "len") [Value.ref _]) _ _ _); k_dflt (refine' len_strsA ?k1 ?k2 ?k3 ?_; (case k1 => exact News.isList (by k_asm) (by k_mem)); (case k2 => assumption); (case k3 => omega); k_whole)))
local macro_rules | `(tactic| walk_at "call builtin:len") => `(tactic| ((with_reducible show wpAny _ _ (call (Value.builtin "len") [Value.str _ _]) _ _ _); (refine SBL.len (by first | omega | (rw [sizeLine_eq]; omega)) ?_)))
local macro_rules | `(tactic| walk_at "subscriptTail") => `(tactic| ((with_reducible show wpAny _ _ (subscriptTail _ _ (Value.ref _) (Value.int (-1) _)) _ _ _); k_dflt (refine' lastL ?k1 ?k2 ?_; (case k1 => exact News.isList (by k_asm) (by k_mem)); (case k2 => assumption); k_whole)))

set_option maxHeartbeats 8000000 in
theorem past_ {w : World} {x : Addr} {tl tc tv : Tok} {v : Str} {l c : Int} {news : List (Addr × Obj)}
    (h1 : (x, tup2 l tl c tc) ∈ news) (hv : v ∈ texts) :
    Tell w 303 [.ref x, .str v tv] news 3 20 (Pair (advL l v) (advC c v) news) := by
  unfold Tell
  intro dp un gd cn cs L a ccd cl outer A₀ base h₀ m loose mean mg mb s R H hk hd hu ret
  obtain ⟨B, F, X, N, T, C⟩ := H
  obtain ⟨q1, q2, q3, q4, q5, q6⟩ := rep_short v hv
  k_dflt ktr_enter
  with_unfolding_all (change wpAny _ _ _ _ _ (Shared.mk _ _ _ (s.toks + 2) _))
  (generalize htk : s.toks + 2 = tk)
  have htk0 : @LT.lt Nat _ 0 tk := by have : @Eq Nat (s.toks + 2) tk := htk; omega
  simp only [rep1, rep2, linesT] at q2 q3 q4 q5 q6
  k_steps
  all_goals (refine ret _ _ _ _ (by k_asm) (drop1 (by k_asm)) (Pair.mk rfl ?_ (by tbn_find)))
  · exact advC_one (by assumption)
  · exact advC_more (by assumption)
end Mine
end

section
open PySem PySem.W PyProof.Rows
set_option Elab.async false
set_option maxRecDepth 100000
namespace Mine
local macro_rules | `(tactic| walk_at "no such key") => `(tactic| fail "none")
example : (PySem.Challenge.rw_kz0002_01 = PySem.Challenge.rw_kz0002_01) ∧ (Mine.hd.heap_39 = Mine.hd.heap_39) := by k_fill; exact ⟨rfl, rfl⟩

local macro_rules | `(tactic| k_room) => `(tactic| ((try simp only [depth_mark, depth_under_make, depth_under_kw, depth_in1, depth_deeper, depth_caller]); (try dsimp only [topA]); (try simp only [recursionLimit]); omega))
local macro_rules | `(tactic| k_units) => `(tactic| ((try simp only [units_in1, units_deeper, Around.mark_units, units_caller]); (try dsimp only [topA]); (try simp only [cLine]); omega))
local macro_rules | `(tactic| ktr_enter) => `(tactic| (refine' code_def ?k1 ?k2 ?k3 ?k4 ?k5 ?kA ?kF ?kK ?k6 ?k7 ?k8 ?k9 ?kB ?_ ?c2 ?c3 ?c4 ?c5; (case kA => exact rfl); (case kF => exact rfl); (case kK => assumption); (case k1 => k_asm); (case k2 => k_asm); (case k3 => k_asm); (case k4 => k_asm); (case k5 => k_asm); (case k6 => k_is); (case k7 => k_is); (case k8 => k_room); (case k9 => first | exact BindsTo.of_eq rfl | exact binds_K (by k_in) rfl (by k_is) rfl rfl rfl); (case c5 => decide); (case kB => exact locs rfl); (case c2 => exact rfl); (case c3 => exact rfl); (case c4 => exact rfl); k_whole; intro g' L' h' FG' F' N' B' X' T'; (try dsimp only); (try k_fold)))
local macro_rules | `(tactic| k_mem) => `(tactic| assumption)
local macro_rules | `(tactic| k_enter) => `(tactic| ktr_enter)
local macro_rules | `(tactic| walk_at "getMethod ref") => `(tactic| ((with_reducible show wpAny _ _ (getMethod (Value.ref 43) _ _) _ _ _); refine pat_method (by k_asm) (by k_asm) ?_))
local macro_rules | `(tactic| walk_at "call builtin:re.Pattern.split") => `(tactic| (refine pat_splitK (by k_asm) (by k_asm) (by k_asm) (by assumption) ?_; intro D' vs' h' tk' a' F' N' l1; (obtain ⟨tz', hz'⟩ := strsAre_last a' (by omega)); (try k_lt l1)))
local macro_rules | `(tactic| walk_at "call builtin:len") => `(tactic| ((with_reducible show wpAny _ _ (call (Value.builtin "len") [Value.ref _]) _ _ _); k_dflt (refine' len_strsA ?k1 ?k2 ?k3 ?_; (case k1 => exact News.isList (by k_asm) (by k_mem)); (case k2 => assumption); (case k3 => omega); k_whole)))
local macro_rules | `(tactic| walk_at "call builtin:len") => `(tactic| ((with_reducible show wpAny _ _ (call (Value.builtin "len") [Value.str _ _]) _ _ _); (refine SBL.len (by first | omega | (rw [sizeLine_eq]; omega)) ?_)))
local macro_rules | `(tactic| walk_at "subscriptTail") => `(tactic| ((with_reducible show wpAny _ _ (subscriptTail _ _ (Value.ref _) (Value.int (-1) _)) _ _ _); k_dflt (refine' lastL ?k1 ?k2 ?_; (case k1 => exact News.isList (by k_asm) (by k_mem)); (case k2 => assumption); k_whole)))
set_option maxHeartbeats 8000000 in
theorem end_leaf {w : World} {x dx : Addr} {t1 t2 t3 t4 t5 tv tl tc : Tok} {v : Str} {l c : Int} {pv qv : Value} {n : Nat} {news : List (Addr × Obj)}
    (h1 : (x, instObj 180 dx) ∈ news) (h2 : (dx, dictOf (leafEs w t1 t2 t3 t4 t5 v tv l tl c tc pv qv) n) ∈ news) (hv : v ∈ texts) :
    Tell w 176 [.ref x] news 6 40 (Pair (advL l v) (advC c v) news) := by
  unfold Tell
  intro dp un gd cn cs L a ccd cl outer A₀ base h₀ m loose mean mg mb s R H hk hd hu ret
  obtain ⟨B, F, X, N, T, C⟩ := H
  obtain ⟨q1, q2, q3, q4, q5, q6⟩ := rep_short v hv
  k_dflt ktr_enter
  k_steps
  all_goals (refine ret _ _ _ _ (by k_asm) (drop1 (by k_asm)) (Pair.mk rfl ?_ (by tbn_find)))
  · exact advC_one (by omega)
  · exact (Int.zero_add _).symm.trans (advC_more (by omega))
end Mine
end

section
open PySem PySem.W PyProof.Rows
set_option Elab.async false
set_option maxRecDepth 100000
namespace Mine
example : (PySem.Challenge.rw_kz0002_01 = PySem.Challenge.rw_kz0002_01) ∧ (Mine.hd.heap_39 = Mine.hd.heap_39) := by k_fill; exact ⟨rfl, rfl⟩

local macro_rules | `(tactic| k_room) => `(tactic| ((try simp only [depth_mark, depth_under_make, depth_under_kw, depth_in1, depth_deeper, depth_caller]); (try dsimp only [topA]); (try simp only [recursionLimit]); omega))
local macro_rules | `(tactic| k_units) => `(tactic| ((try simp only [units_in1, units_deeper, Around.mark_units, units_caller]); (try dsimp only [topA]); (try simp only [cLine]); omega))
local macro_rules | `(tactic| ktr_enter) => `(tactic| (refine' code_def ?k1 ?k2 ?k3 ?k4 ?k5 ?kA ?kF ?kK ?k6 ?k7 ?k8 ?k9 ?kB ?_ ?c2 ?c3 ?c4 ?c5; (case kA => exact rfl); (case kF => exact rfl); (case kK => assumption); (case k1 => k_asm); (case k2 => k_asm); (case k3 => k_asm); (case k4 => k_asm); (case k5 => k_asm); (case k6 => k_is); (case k7 => k_is); (case k8 => k_room); (case k9 => first | exact BindsTo.of_eq rfl | exact binds_K (by k_in) rfl (by k_is) rfl rfl rfl); (case c5 => decide); (case kB => exact locs rfl); (case c2 => exact rfl); (case c3 => exact rfl); (case c4 => exact rfl); k_whole; intro g' L' h' FG' F' N' B' X' T'; (try dsimp only); (try k_fold)))
local macro_rules | `(tactic| k_mem) => `(tactic| assumption)
local macro_rules | `(tactic| k_enter) => `(tactic| ktr_enter)

local macro_rules | `(tactic| walk_at "subscriptTail") => `(tactic| ((with_reducible show wpAny _ _ (subscriptTail _ _ (Value.ref _) (Value.int 0 _)) _ _ _); k_dflt (refine' item_listL ?k1 ?k2 ?k3 ?k4 ?_; (case k1 => exact News.isList (by k_asm) (by k_mem)); (case k2 => decide); (case k3 => decide); (case k4 => assumption); k_whole)))

set_option maxHeartbeats 8000000 in
theorem attr_start {w : World} : ∀ (d : Nat) (news : List (Addr × Obj)) (v : Value) (ls : List LeafR), TreeIn w news d v ls → ∀ a rest, ls = a :: rest → TellA w v (Str.ofString "start_pos") news (2 * d + 8) (10 * d + 60) (Pair a.st.1 a.st.2 news) := by
  intro d
  induction d with
  | zero =>
    intro news v ls ht a rest e
    cases ht with
    | leaf h1 h2 h3 =>
    cases e
    unfold TellA
    intro dp un gd cn cs L a' ccd cl outer A₀ base h₀ m loose mean mg mb s ex Q E H hk hd hu ret
    obtain ⟨B, F, X, N, T, C⟩ := H
    k_steps
    exact ret _ _ _ _ (by k_asm) (by k_asm) (Pair.mk rfl rfl (by first | tbn_find | exact allLt_of (by assumption)))
  | succ d ih =>
    intro news v ls ht a rest e
    cases ht with
    | leaf h1 h2 h3 =>
      cases e
      unfold TellA
      intro dp un gd cn cs L a' ccd cl outer A₀ base h₀ m loose mean mg mb s ex Q E H hk hd hu ret
      obtain ⟨B, F, X, N, T, C⟩ := H
      k_steps
      exact ret _ _ _ _ (by k_asm) (by k_asm) (Pair.mk rfl rfl (by first | tbn_find | exact allLt_of (by assumption)))
    | @node _ x dx cl t1 t2 t3 pv yv n n' vs lss h1 h2 h3 h4 h5 h6 hkids =>
      unfold TellA
      intro dp un gd cn cs L a' ccd cl outer A₀ base h₀ m loose mean mg mb s ex Q E H hk hd hu ret
      obtain ⟨B, F, X, N, T, C⟩ := H
      have hv0 : ∃ v0, vs[0]? = some v0 := ⟨vs[0], by simp⟩
      obtain ⟨v0, hv0⟩ := hv0
      k_steps
      obtain ⟨ls0, hl0⟩ : ∃ ls0, lss[0]? = some ls0 := ⟨lss[0]'(by omega), by simp⟩
      have ht0 := hkids 0 v0 ls0 hv0 hl0
      obtain ⟨a0, r0, rfl⟩ : ∃ a0 r0, ls0 = a0 :: r0 := by
        cases ls0 with
        | nil => exact absurd rfl ht0.ne_nil
        | cons a0 r0 => exact ⟨a0, r0, rfl⟩
      have ea : a0 = a := by
        cases lss with
        | nil => cases hl0
        | cons q qs =>
          cases hl0
          rw [List.flatten_cons] at e
          exact (List.cons.inj e).1
      subst ea
      refine TellA.use (ih news v0 _ ht0 a0 r0 rfl) (by k_asm) (by k_asm) (by k_asm) (by k_asm) (by k_asm) (by k_asm) (by rfl) (by k_room) (by k_units) ?_
      intro r news' h' tk' F' N' P
      obtain ⟨D, ta, tb, rfl, rfl, hlt⟩ := P
      k_steps
      exact ret _ _ _ _ (by k_asm) (by k_asm) (Pair.mk rfl rfl (by first | tbn_find | exact allLt_of (by assumption)))
end Mine
end

section
open PySem PySem.W PyProof.Rows
set_option Elab.async false
set_option maxRecDepth 100000
namespace Mine
local macro_rules | `(tactic| walk_at "no such key") => `(tactic| fail "none")
example : (PySem.Challenge.rw_kz0002_01 = PySem.Challenge.rw_kz0002_01) ∧ (Mine.hd.heap_39 = Mine.hd.heap_39) := by k_fill; exact ⟨rfl, rfl⟩

local macro_rules | `(tactic| k_room) => `(tactic| ((try simp only [depth_mark, depth_under_make, depth_under_kw, depth_in1, depth_deeper, depth_caller]); (try dsimp only [topA]); (try simp only [recursionLimit]); omega))
local macro_rules | `(tactic| k_units) => `(tactic| ((try simp only [units_in1, units_deeper, Around.mark_units, units_caller]); (try dsimp only [topA]); (try simp only [cLine]); omega))
local macro_rules | `(tactic| ktr_enter) => `(tactic| (refine' code_def ?k1 ?k2 ?k3 ?k4 ?k5 ?kA ?kF ?kK ?k6 ?k7 ?k8 ?k9 ?kB ?_ ?c2 ?c3 ?c4 ?c5; (case kA => exact rfl); (case kF => exact rfl); (case kK => assumption); (case k1 => k_asm); (case k2 => k_asm); (case k3 => k_asm); (case k4 => k_asm); (case k5 => k_asm); (case k6 => k_is); (case k7 => k_is); (case k8 => k_room); (case k9 => first | exact BindsTo.of_eq rfl | exact binds_K (by k_in) rfl (by k_is) rfl rfl rfl); (case c5 => decide); (case kB => exact locs rfl); (case c2 => exact rfl); (case c3 => exact rfl); (case c4 => exact rfl); k_whole; intro g' L' h' FG' F' N' B' X' T'; (try dsimp only); (try k_fold)))
local macro_rules | `(tactic| k_mem) => `(tactic| assumption)
local macro_rules | `(tactic| k_enter) => `(tactic| ktr_enter)

section
variable {w : World} {x C dx p fget : Addr} {name : Str} {es : List DictEntry} {n d u : Nat} {l c : Int} {rest : List Value} {news : List (Addr × Obj)}
theorem propA (h1 : (x, instObj C dx) ∈ news) (h2 : (dx, dictOf es n) ∈ news) (hg : plainGet (Mine.hd.heap_39 w.params) C name = true) (hh : hasDictIn (Mine.hd.heap_39 w.params) C = true)
    (ha : findIn (Mine.hd.heap_39 w.params) (.ref C) name = some (some (.ref p))) (hn : specialIn (Mine.hd.heap_39 w.params) (.ref p) "__get__" = some (some (.builtin "property.__get__"))) (ht : takesIn (Mine.hd.heap_39 w.params) (.ref p) = some true)
    (hp : recIn (Mine.hd.heap_39 w.params) p "property" = some (.ref fget :: rest)) (t : Tell w fget [.ref x] news d u (Pair l c news)) : TellA w (.ref x) name news d (u + 1) (Pair l c news) := by
  unfold TellA
  intro dp un gd cn cs L a' ccd cl outer A₀ base h₀ m loose mean mg mb s ex Q E H hk hd hu ret
  obtain ⟨B, F, X, N, T, C⟩ := H
  refine get_prop F X (InstAt.of_news N h1 h2) hg hh ha hn ht hp ?_
  refine Tell.use (dp := dp) (un := un + 1) t B F X N T C hk hd (by omega) ?_
  intro r news' h' tk' F' N' P
  have P' := P
  obtain ⟨D, ta, tb, rfl, rfl, hlt⟩ := P
  exact handed_on rfl (ret _ _ _ _ F' N' P')
end
theorem end_leafA {w : World} {x dx : Addr} {t1 t2 t3 t4 t5 tv tl tc : Tok} {v : Str} {l c : Int} {pv qv : Value} {n : Nat} {news : List (Addr × Obj)}
    (h1 : (x, instObj 180 dx) ∈ news) (h2 : (dx, dictOf (leafEs w t1 t2 t3 t4 t5 v tv l tl c tc pv qv) n) ∈ news) (hv : v ∈ texts) :
    TellA w (.ref x) (Str.ofString "end_pos") news 6 41 (Pair (advL l v) (advC c v) news) :=
  propA h1 h2 (by k_is) (by k_is) (by k_is) (by k_is) (by k_is) (by k_is) (end_leaf h1 h2 hv)
theorem TellA.weak {w : World} {v : Value} {name : Str} {news : List (Addr × Obj)} {d u d' u' : Nat} {Post : Value → List (Addr × Obj) → Prop} (t : TellA w v name news d u Post) (hd : d ≤ d') (hu : u ≤ u') : TellA w v name news d' u' Post := by
  unfold TellA at t ⊢
  intro dp un gd cn cs L a' ccd cl outer A₀ base h₀ m loose mean mg mb s ex Q E H hk hd' hu' ret
  exact t dp un gd cn cs L a' ccd cl outer A₀ base h₀ m loose mean mg mb s ex Q E H hk (by omega) (by omega) ret

local macro_rules | `(tactic| walk_at "subscriptTail") => `(tactic| ((with_reducible show wpAny _ _ (subscriptTail _ _ (Value.ref _) (Value.int (-1) _)) _ _ _); k_dflt (refine' lastL ?k1 ?k2 ?_; (case k1 => exact News.isList (by k_asm) (by k_mem)); (case k2 => assumption); k_whole)))

theorem flatten_last {α : Type} {lss : List (List α)} {l : List α} (h : lss.getLast? = some l) (hn : l ≠ []) : lss.flatten.getLast? = l.getLast? := by
  obtain ⟨pre, rfl⟩ := List.getLast?_eq_some_iff.mp h
  rw [List.flatten_append, List.flatten_singleton]
  rw [List.getLast?_append]
  cases hl : l.getLast? with
  | none => exact absurd (List.getLast?_eq_none_iff.mp hl) hn
  | some a => rfl

set_option maxHeartbeats 8000000 in
theorem attr_end {w : World} : ∀ (d : Nat) (news : List (Addr × Obj)) (v : Value) (ls : List LeafR), TreeIn w news d v ls → ∀ a, ls.getLast? = some a → TellA w v (Str.ofString "end_pos") news (2 * d + 8) (10 * d + 60) (Pair a.en.1 a.en.2 news) := by
  intro d
  induction d with
  | zero =>
    intro news v ls ht a e
    cases ht with
    | leaf h1 h2 h3 => cases e; exact (end_leafA h1 h2 h3).weak (by omega) (by omega)
  | succ d ih =>
    intro news v ls ht a e
    cases ht with
    | leaf h1 h2 h3 => cases e; exact (end_leafA h1 h2 h3).weak (by omega) (by omega)
    | @node _ x dx cl t1 t2 t3 pv yv n n' vs lss h1 h2 h3 h4 h5 h6 hkids =>
      unfold TellA
      intro dp un gd cn cs L a' ccd cl outer A₀ base h₀ m loose mean mg mb s ex Q E H hk hd hu ret
      obtain ⟨B, F, X, N, T, C⟩ := H
      obtain ⟨v0, hv0⟩ : ∃ v0, vs[vs.length - 1]? = some v0 := ⟨vs[vs.length - 1], by simp⟩
      obtain ⟨ls0, hl0⟩ : ∃ ls0, lss[vs.length - 1]? = some ls0 := ⟨lss[vs.length - 1]'(by omega), by simp⟩
      have ht0 := hkids _ v0 ls0 hv0 hl0
      have hgl : lss.getLast? = some ls0 := by rw [List.getLast?_eq_getElem?, ← h4]; exact hl0
      have e0 : ls0.getLast? = some a := (flatten_last hgl ht0.ne_nil).symm.trans e
      k_steps
      refine TellA.use (ih news v0 _ ht0 a e0) (by k_asm) (by k_asm) (by k_asm) (by k_asm) (by k_asm) (by k_asm) (by rfl) (by k_room) (by k_units) ?_
      intro r news' h' tk' F' N' P
      obtain ⟨D, ta, tb, rfl, rfl, hlt⟩ := P
      k_steps
      exact ret _ _ _ _ (by k_asm) (by k_asm) (Pair.mk rfl rfl (by first | tbn_find | exact allLt_of (by assumption)))
end Mine
end

section
open PySem PySem.W PyProof.Rows
set_option Elab.async false
set_option maxRecDepth 100000
namespace Mine
def leP (p q : Int × Int) : Bool := decide (p.1 < q.1) || (p.1 == q.1 && decide (p.2 ≤ q.2))
def ltP (p q : Int × Int) : Bool := decide (p.1 < q.1) || (p.1 == q.1 && decide (p.2 < q.2))

section
variable {prog : Program} {w : World} {A : Around} {E : Value → Shared → Prop} {s : Shared}

theorem le_tup2 {x y : Addr} {a b c d : Int} {ta tb tc td : Tok} {Q : Value → Shared → Prop} (hx : s.heap.get? x = some (tup2 a ta b tb)) (hy : s.heap.get? y = some (tup2 c tc d td)) (hu : A.units < cLine)
    (h : Q (.bool (leP (a, b) (c, d))) s) : wpAny (model prog w) A (compareOp .LtE (.ref x) (.ref y)) Q E s := by
  show wpAny _ _ (richCompare .LtE (.ref x) (.ref y)) Q E s
  have tx : s.TypeIs (.ref x) "tuple" := ⟨_, hx, rfl⟩
  have ty : s.TypeIs (.ref y) "tuple" := ⟨_, hy, rfl⟩
  refine wpAny_richCompare_same_room (op := .LtE) tx ty F.slot_tuple_le (wpAny_call_entry F.slot_tuple_le tx F.entry_tuple_le ?_ (F.args_tuple_le_2 _ _)) hu
  show wpAny _ _ (isInstance (.ref y) (.type "tuple") >>= _) _ _ _
  refine wpAny_bind (wpAny_isInstance ty sub_tuple_self ?_)
  simp only [Bool.not_true, Bool.false_eq_true, if_false]
  refine wpAny_bind (wpAny_tupleItemsOf hx rfl ?_)
  refine wpAny_bind (wpAny_tupleItemsOf hy rfl ?_)
  refine wpAny_bind ?_
  show wpAny _ _ (forIn [(Value.int a ta, Value.int c tc), (Value.int b tb, Value.int d td)] _ _) _ _ _
  rw [List.forIn_cons]
  refine wpAny_bind (wpAny_bind (wpAny_eqBool_int ?_))
  by_cases h1 : a = c
  · subst h1
    simp only [beq_self_eq_true, Bool.not_true, Bool.false_eq_true, if_false]
    refine wpAny_pure ?_
    dsimp only
    rw [List.forIn_cons]
    refine wpAny_bind (wpAny_bind (wpAny_eqBool_int ?_))
    by_cases h2 : b = d
    · subst h2
      simp only [beq_self_eq_true, Bool.not_true, Bool.false_eq_true, if_false]
      refine wpAny_pure ?_
      dsimp only
      rw [List.forIn_nil]
      refine wpAny_pure ?_
      refine wpAny_pure ⟨_, rfl, (fun x => nomatch x), ?_⟩
      have e : leP (a, b) (a, b) = true := by simp [leP]
      rw [e] at h
      exact h
    · have e2 : (b == d) = false := by simpa using h2
      simp only [e2, Bool.not_false, if_true]
      refine wpAny_bind (wpAny_rule (wpAny_bind (le_int (wpAny_bind (wpAny_pure (wpAny_pure (wpAny_pure (wpAny_pure ⟨_, rfl, (fun x => nomatch x), ?_⟩))))))))
      have e : leP (a, b) (a, d) = decide (b ≤ d) := by simp [leP]
      rw [e] at h
      exact h
  · have e1 : (a == c) = false := by simpa using h1
    simp only [e1, Bool.not_false, if_true]
    refine wpAny_bind (wpAny_rule (wpAny_bind (le_int (wpAny_bind (wpAny_pure (wpAny_pure (wpAny_pure (wpAny_pure ⟨_, rfl, (fun x => nomatch x), ?_⟩))))))))
    have e : leP (a, b) (c, d) = decide (a ≤ c) := by
      unfold leP
      dsimp only
      rw [e1, Bool.false_and, Bool.or_false]
      exact decide_eq_decide.mpr (by omega)
    rw [e] at h
    exact h

theorem lt_tup2 {x y : Addr} {a b c d : Int} {ta tb tc td : Tok} {Q : Value → Shared → Prop} (hx : s.heap.get? x = some (tup2 a ta b tb)) (hy : s.heap.get? y = some (tup2 c tc d td)) (hu : A.units < cLine)
    (h : Q (.bool (ltP (a, b) (c, d))) s) : wpAny (model prog w) A (compareOp .Lt (.ref x) (.ref y)) Q E s := by
  show wpAny _ _ (richCompare .Lt (.ref x) (.ref y)) Q E s
  have tx : s.TypeIs (.ref x) "tuple" := ⟨_, hx, rfl⟩
  have ty : s.TypeIs (.ref y) "tuple" := ⟨_, hy, rfl⟩
  refine wpAny_richCompare_same_room (op := .Lt) tx ty F.slot_tuple_lt (wpAny_call_entry F.slot_tuple_lt tx F.entry_tuple_lt ?_ (F.args_tuple_lt_2 _ _)) hu
  show wpAny _ _ (isInstance (.ref y) (.type "tuple") >>= _) _ _ _
  refine wpAny_bind (wpAny_isInstance ty sub_tuple_self ?_)
  simp only [Bool.not_true, Bool.false_eq_true, if_false]
  refine wpAny_bind (wpAny_tupleItemsOf hx rfl ?_)
  refine wpAny_bind (wpAny_tupleItemsOf hy rfl ?_)
  refine wpAny_bind ?_
  show wpAny _ _ (forIn [(Value.int a ta, Value.int c tc), (Value.int b tb, Value.int d td)] _ _) _ _ _
  rw [List.forIn_cons]
  refine wpAny_bind (wpAny_bind (wpAny_eqBool_int ?_))
  by_cases h1 : a = c
  · subst h1
    simp only [beq_self_eq_true, Bool.not_true, Bool.false_eq_true, if_false]
    refine wpAny_pure ?_
    dsimp only
    rw [List.forIn_cons]
    refine wpAny_bind (wpAny_bind (wpAny_eqBool_int ?_))
    by_cases h2 : b = d
    · subst h2
      simp only [beq_self_eq_true, Bool.not_true, Bool.false_eq_true, if_false]
      refine wpAny_pure ?_
      dsimp only
      rw [List.forIn_nil]
      refine wpAny_pure ?_
      refine wpAny_pure ⟨_, rfl, (fun x => nomatch x), ?_⟩
      have e : ltP (a, b) (a, b) = false := by simp [ltP]
      rw [e] at h
      exact h
    · have e2 : (b == d) = false := by simpa using h2
      simp only [e2, Bool.not_false, if_true]
      refine wpAny_bind (wpAny_rule (wpAny_bind (lt_int (wpAny_bind (wpAny_pure (wpAny_pure (wpAny_pure (wpAny_pure ⟨_, rfl, (fun x => nomatch x), ?_⟩))))))))
      have e : ltP (a, b) (a, d) = decide (b < d) := by simp [ltP]
      rw [e] at h
      exact h
  · have e1 : (a == c) = false := by simpa using h1
    simp only [e1, Bool.not_false, if_true]
    refine wpAny_bind (wpAny_rule (wpAny_bind (lt_int (wpAny_bind (wpAny_pure (wpAny_pure (wpAny_pure (wpAny_pure ⟨_, rfl, (fun x => nomatch x), ?_⟩))))))))
    have e : ltP (a, b) (c, d) = decide (a < c) := by
      unfold ltP
      dsimp only
      rw [e1, Bool.false_and, Bool.or_false]
    rw [e] at h
    exact h
end
end Mine
end

section
open PySem PySem.W PyProof.Rows
set_option Elab.async false
set_option maxRecDepth 100000
namespace Mine

theorem neAll_le {a b : Addr} {l : List (Addr × Obj)} (h : AllLt a l) (hab : @LE.le Nat _ a b) : ∀ p ∈ l, p.1 ≠ b := fun p hp e => by
  have h1 : @LT.lt Nat _ p.1 a := tb_ltOf h p hp
  rw [e] at h1
  exact absurd hab (Nat.not_le_of_gt h1)

abbrev bsQual : Str := Str.ofString "BaseNode.get_leaf_for_position.<locals>.binary_search"
abbrev setTab (c' : Addr) : Array Value := #[rawInt 125, rawInt 8, .ref c']
/-- the code object that the nested def's first run has laid -/
def CodeIn (news : List (Addr × Obj)) (c' : Addr) : Prop := ∃ oc vs t, (c', oc) ∈ news ∧ oc.data = .fields vs ∧ vs[1]? = some (.str bsQual t)
theorem CodeIn.mono {news news' : List (Addr × Obj)} {c' : Addr} (h : CodeIn news c') (hs : ∀ p ∈ news, p ∈ news') : CodeIn news' c' :=
  let ⟨oc, vs, t, a, b, c⟩ := h; ⟨oc, vs, t, hs _ a, b, c⟩
/-- the table of codes is empty, or holds the nested def's -/
def TabOk (ps : Array Value) (news : List (Addr × Obj)) : Prop := ps = #[] ∨ ∃ c', ps = setTab c' ∧ CodeIn news c'

section
variable {M : Model} {A : Around} {E : Value → Shared → Prop} {s : Shared} {h₀ : Heap} {L a : Addr} {m mg mb : Str → Option Value} {cn : Str} {cs : Scope} {cl : List (Str × Addr)} {news : List (Addr × Obj)}
  {p : Program} {loose : List Str} {mean : ExcName → Option Value} {name : Str} {params : Arguments} {body : List Stmt} {scope : Scope} {ps : Array Value} {l2 c2 : Nat} {firstLine : Nat} {clos : List (Str × Addr)} {p1 p2 p3 p4 : Addr × Obj}
theorem nestAny {Q : Value → Shared → Prop} (F : Fr h₀ L s.heap m) (N : News h₀ L s.heap (p1 :: p2 :: p3 :: p4 :: (237, tabObj ps) :: news)) (T : Top p loose mean mg mb h₀) (C : CodeHd h₀ 241 237)
    (n1 : p1.1 ≠ 237) (n2 : p2.1 ≠ 237) (n3 : p3.1 ≠ 237) (n4 : p4.1 ≠ 237) (hn : ∀ p ∈ news, p.1 ≠ 237) (ht : TabOk ps news)
    (hcl : closureFor scope (envX cn cs L a (.ref 241) cl) = pure clos)
    (h : ∀ f c' ctv doc h' tk cx, Fr h₀ L h' m →
      News h₀ L h' ((f, fnMade name bsQual params body scope clos doc ((mg "__name__").getD .none) c' ctv) :: p1 :: p2 :: p3 :: p4 :: (237, tabObj (setTab c')) :: (cx ++ news)) →
      CodeIn (cx ++ news) c' → (∀ q ∈ cx, (∀ p ∈ p1 :: p2 :: p3 :: p4 :: (237, tabObj ps) :: news, p.1 < q.1) ∧ q.1 < f) → (∀ q ∈ p1 :: p2 :: p3 :: p4 :: (237, tabObj ps) :: news, q.1 < f) →
      ((ps ≠ #[] → ps = setTab c' ∧ cx = []) ∧ (ps = #[] → CodeIn cx c')) → Q (.ref f) { s with heap := h', toks := tk }) :
    wpAny M A (makeFunction name bsQual params (.stmts body) scope (envX cn cs L a (.ref 241) cl) [] [] [] ⟨125, 8, l2, c2⟩ firstLine) Q E s := by
  rcases ht with rfl | ⟨c', rfl, oc, vs, t, h1, h2, h3⟩
  · refine nest_K F N T C rfl (P := 237) (ps := #[]) (g := fun o => p1 :: p2 :: p3 :: p4 :: (237, o) :: news) (.tail n1 (.tail n2 (.tail n3 (.tail n4 (.head hn))))) ?_ ?_ hcl ?_
    · exact True.intro
    · rfl
    · intro f c' oc vs t ctv doc h' tk F' N' d1 d2 l1 l2
      refine h f c' ctv doc h' tk [(c', oc)] F' ?_ ⟨oc, vs, t, .head _, d1, d2⟩ ?_ ?_ ⟨fun q => absurd rfl q, fun _ => ⟨oc, vs, t, .head _, d1, d2⟩⟩
      · intro q hq
        refine N' q ?_
        simp only [List.mem_cons, List.cons_append, List.nil_append] at hq ⊢
        rcases hq with hq | hq | hq | hq | hq | hq | hq | hq
        · exact .inl hq
        · exact .inr (.inr (.inl hq))
        · exact .inr (.inr (.inr (.inl hq)))
        · exact .inr (.inr (.inr (.inr (.inl hq))))
        · exact .inr (.inr (.inr (.inr (.inr (.inl hq)))))
        · exact .inr (.inr (.inr (.inr (.inr (.inr (.inl hq))))))
        · exact .inr (.inl hq)
        · exact .inr (.inr (.inr (.inr (.inr (.inr (.inr hq))))))
      · intro q hq
        obtain rfl := List.mem_singleton.mp hq
        exact ⟨l1, l2⟩
      · exact fun q hq => Nat.lt_trans (l1 q hq) l2
  · refine nestHit_K F N T C rfl (P := 237) (ps := setTab c') (c' := c') (.tail _ (.tail _ (.tail _ (.tail _ (.head _))))) ?_ ?_ hcl ?_
    · simp [TriplesOk, rawInt]
    · simp [codeAmong, rawInt]
    · intro f ctv doc h' tk F' N' l1
      exact h f c' ctv doc h' tk [] F' N' ⟨oc, vs, t, h1, h2, h3⟩ (fun _ hq => nomatch hq) l1 ⟨fun _ => ⟨rfl, rfl⟩, fun e => absurd (congrArg Array.size e) (Nat.succ_ne_zero 2)⟩
end
end Mine
end

section
open PySem PySem.W PyProof.Rows
set_option Elab.async false
set_option maxRecDepth 100000
namespace Mine

/-! the plain law: places in order, leaves in order, what is picked -/
theorem leP_iff {p q : Int × Int} : leP p q = true ↔ p.1 < q.1 ∨ (p.1 = q.1 ∧ p.2 ≤ q.2) := by
  unfold leP; simp
theorem leP_not {p q : Int × Int} : leP p q = false ↔ q.1 < p.1 ∨ (p.1 = q.1 ∧ q.2 < p.2) := by
  rw [← Bool.not_eq_true, leP_iff]; omega
theorem ltP_iff {p q : Int × Int} : ltP p q = true ↔ p.1 < q.1 ∨ (p.1 = q.1 ∧ p.2 < q.2) := by
  unfold ltP; simp
theorem leP_trans {p q r : Int × Int} (h : leP p q = true) (k : leP q r = true) : leP p r = true := by
  rw [leP_iff] at *; omega
theorem leP_of_lt {p q r : Int × Int} (h : ltP p q = true) (k : leP q r = true) : leP p r = true := by
  rw [ltP_iff] at h; rw [leP_iff] at *; omega
theorem leP_flip {p q r : Int × Int} (h : leP p q = false) (k : leP r q = true) : leP p r = false := by
  rw [leP_not] at *; rw [leP_iff] at k; omega

def lastEn (ls : List LeafR) : Int × Int := match ls.getLast? with
  | some a => a.en
  | none => (0, 0)
def pick (ls : List LeafR) (p : Int × Int) (wide : Bool) : Value := match ls.find? (fun a => leP p a.en) with
  | some a => if (!wide && ltP p a.st) = true then .none else .ref a.ref
  | none => .none
structure Ord (ls : List LeafR) : Prop where
  own : ∀ a ∈ ls, leP a.st a.en = true
  next : ls.Pairwise fun a b => leP a.en b.st = true
theorem Ord.sub {ls ls' : List LeafR} (h : Ord ls) (s : ls'.Sublist ls) : Ord ls' := ⟨fun a ha => h.own a (s.subset ha), h.next.sublist s⟩

/-- in order, each leaf ends no later than the last -/
theorem Ord.le_last {ls : List LeafR} (h : Ord ls) : ∀ a ∈ ls, leP a.en (lastEn ls) = true := by
  intro a ha
  obtain ⟨l, hl⟩ : ∃ l, ls.getLast? = some l := by
    cases e : ls.getLast? with
    | none => rw [List.getLast?_eq_none_iff.mp e] at ha; cases ha
    | some l => exact ⟨l, rfl⟩
  unfold lastEn
  rw [hl]
  obtain ⟨pre, rfl⟩ := List.getLast?_eq_some_iff.mp hl
  rcases List.mem_append.mp ha with ha | ha
  · have h1 := (List.pairwise_append.mp h.next).2.2 a ha l (List.mem_singleton.mpr rfl)
    exact leP_trans h1 (h.own l (List.mem_append_right _ (List.mem_singleton.mpr rfl)))
  · rw [List.mem_singleton.mp ha]
    show leP l.en l.en = true
    rw [leP_iff]; omega

theorem pick_none {ls : List LeafR} {p : Int × Int} {wide : Bool} {a : LeafR} {r : List LeafR} (h : Ord ls) (e : ls = a :: r) (hw : wide = false) (hlt : ltP p a.st = true) : pick ls p wide = .none := by
  subst e hw
  have h1 : leP p a.en = true := leP_of_lt hlt (h.own a (.head _))
  unfold pick
  rw [List.find?_cons_of_pos (by exact h1)]
  simp [hlt]
theorem pick_one {a : LeafR} {p : Int × Int} {wide : Bool} (h1 : leP p a.en = true) (h2 : wide = true ∨ ltP p a.st = false) : pick [a] p wide = .ref a.ref := by
  unfold pick
  rw [List.find?_cons_of_pos (by exact h1)]
  rcases h2 with rfl | h2
  · simp
  · simp [h2]
theorem find_append_none {α : Type} {q : α → Bool} {xs ys : List α} (h : ∀ a ∈ xs, q a = false) : (xs ++ ys).find? q = ys.find? q := by
  rw [List.find?_append, List.find?_eq_none.mpr (fun a ha => by rw [h a ha]; decide)]
  rfl
/-- of a list of lists in order: the first list whose last end is not ahead of the place has the leaf -/
theorem pick_flatten {p : Int × Int} {wide : Bool} : ∀ {lss : List (List LeafR)} {i : Nat} {ls : List LeafR}, Ord lss.flatten → lss[i]? = some ls → (∀ j ls', j < i → lss[j]? = some ls' → leP p (lastEn ls') = false) → ls ≠ [] → leP p (lastEn ls) = true →
    pick lss.flatten p wide = pick ls p wide
  | [], _, _, _, e, _, _, _ => by simp at e
  | l0 :: lss, 0, ls, ho, e, _, hne, hle => by
    obtain rfl : l0 = ls := by simpa using e
    have hex : ∃ a ∈ l0, leP p a.en = true := by
      obtain ⟨l, hl⟩ : ∃ l, l0.getLast? = some l := by
        cases e : l0.getLast? with
        | none => exact absurd (List.getLast?_eq_none_iff.mp e) hne
        | some l => exact ⟨l, rfl⟩
      refine ⟨l, List.mem_of_getLast? hl, ?_⟩
      unfold lastEn at hle
      rw [hl] at hle
      exact hle
    unfold pick
    rw [List.flatten_cons, List.find?_append]
    cases hf : l0.find? (fun a => leP p a.en) with
    | none =>
      obtain ⟨a, ha, h1⟩ := hex
      have := List.find?_eq_none.mp hf a ha
      exact absurd h1 this
    | some a => rfl
  | l0 :: lss, i + 1, ls, ho, e, hb, hne, hle => by
    have hs : Ord lss.flatten := ho.sub (by rw [List.flatten_cons]; exact List.sublist_append_right _ _)
    have h0 : Ord l0 := ho.sub (by rw [List.flatten_cons]; exact List.sublist_append_left _ _)
    have ih := pick_flatten (p := p) (wide := wide) (lss := lss) (i := i) (ls := ls) hs (by simpa using e) (fun j ls' hj hl => hb (j + 1) ls' (by omega) (by simpa using hl)) hne hle
    rw [← ih]
    have hl0 := hb 0 l0 (by omega) rfl
    unfold pick
    rw [List.flatten_cons, find_append_none]
    intro a ha
    exact leP_flip hl0 (h0.le_last a ha)

theorem cxNews {p1 p2 p3 p4 : Addr × Obj} {ps : Array Value} {cx news : List (Addr × Obj)} {f L : Addr} (hcx : ∀ q ∈ cx, (∀ p ∈ p1 :: p2 :: p3 :: p4 :: (237, tabObj ps) :: news, p.1 < q.1) ∧ q.1 < f) (hn : AllLt L news) (hL : @LE.le Nat _ L p1.1) :
    ∀ p ∈ cx ++ news, p.1 ≠ p1.1 := fun p hp => by
  rcases List.mem_append.mp hp with hp | hp
  · exact Nat.ne_of_gt ((hcx p hp).1 p1 (.head _))
  · exact neAll_le hn hL p hp
end Mine
end

section
open PySem PySem.W PyProof.Rows
set_option Elab.async false
set_option maxRecDepth 100000
namespace Mine

/-- a walk stands still here -/
def Stop (p : Prop) : Prop := p
theorem Stop.go {p : Prop} (h : p) : Stop p := h
theorem stop_here {p : Prop} (h : Stop p) : p := h

theorem News.less {h₀ h : Heap} {L : Addr} {big small : List (Addr × Obj)} (N : News h₀ L h big) (hs : ∀ p ∈ small, p ∈ big) : News h₀ L h small := fun p hp => N p (hs p hp)

section
variable {w : World} {v : Value} {name : Str} {news big : List (Addr × Obj)} {d u : Nat} {Post : Value → List (Addr × Obj) → Prop} {dp un : Nat} {gd : Option (List Code)} {cn : Str} {cs : Scope} {L a f : Addr} {vs : List Value} {ccd : Value} {cl : List (Str × Addr)} {outer : List Env} {A₀ : Around} {base h₀ : Heap} {m : Str → Option Value} {loose : List Str} {mean : ExcName → Option Value} {mg mb : Str → Option Value} {s : Shared}
theorem TellA.useS {ex : Bool} {Q E : Value → Shared → Prop} (t : TellA w v name news d u Post) (B : Below A₀ base outer h₀) (F : Fr h₀ L s.heap m) (X : (Mine.hd.heap_39 w.params).In h₀) (N : News h₀ L s.heap big) (hs : ∀ p ∈ news, p ∈ big) (T : Top topProg loose mean mg mb h₀) (C : CodeHd base 241 237)
    (hk : cs.kind = .function) (hd : dp + d < 1000) (hu : un + u < 9900)
    (ret : ∀ r news' h' tk', Fr h₀ L h' m → News h₀ L h' news' → Post r news' → Q r { s with heap := h', toks := tk' }) :
    wpAny (model PySem.Challenge.rw_kz0002_01.row.toRowW.prog w) (topA dp un gd (envX cn cs L a ccd cl) outer) (getAttr v name ex) Q E s :=
  t _ _ _ _ _ _ _ _ _ _ _ _ _ _ _ _ _ _ _ _ _ _ ⟨B, F, X, News.less N hs, T, C⟩ hk hd hu ret
theorem Tell.callS {Q E : Value → Shared → Prop} (t : Tell w f vs news d u Post) (B : Below A₀ base outer h₀) (F : Fr h₀ L s.heap m) (X : (Mine.hd.heap_39 w.params).In h₀) (N : News h₀ L s.heap big) (hs : ∀ p ∈ news, p ∈ big) (T : Top topProg loose mean mg mb h₀) (C : CodeHd base 241 237)
    (hk : cs.kind = .function) (hd : dp + d < 1000) (hu : un + u < 9900)
    (ret : ∀ r news' h' tk', Fr h₀ L h' m → News h₀ L h' news' → Post r news' → Q r { s with heap := h', toks := tk' }) :
    wpAny (model PySem.Challenge.rw_kz0002_01.row.toRowW.prog w) (topA dp un gd (envX cn cs L a ccd cl) outer) (PySem.call (.ref f) vs) Q E s :=
  wpAny_call (t.use B F X (News.less N hs) T C hk hd hu ret)
end

theorem rot6 {a b c d e t : Addr × Obj} {r : List (Addr × Obj)} : ∀ p ∈ t :: a :: b :: c :: d :: e :: r, p ∈ a :: b :: c :: d :: e :: t :: r := fun p hp => by
  simp only [List.mem_cons] at hp ⊢
  rcases hp with h | h | h | h | h | h | h <;> simp only [h, true_or, or_true]
theorem News.cut {h₀ h : Heap} {L : Addr} {x : Addr × Obj} {r : List (Addr × Obj)} (N : News h₀ L h (x :: r)) : ∃ q, News h₀ L h (x :: q) ∧ q = r := ⟨r, N, rfl⟩
section
variable {a b c d e : Addr × Obj} {q r : List (Addr × Obj)}
theorem in1 (h : q = a :: r) : a ∈ q := h ▸ .head _
theorem in2 (h : q = a :: b :: r) : b ∈ q := h ▸ .tail _ (.head _)
theorem in3 (h : q = a :: b :: c :: r) : c ∈ q := h ▸ .tail _ (.tail _ (.head _))
theorem in4 (h : q = a :: b :: c :: d :: r) : d ∈ q := h ▸ .tail _ (.tail _ (.tail _ (.head _)))
theorem in5 (h : q = a :: b :: c :: d :: e :: r) : e ∈ q := h ▸ .tail _ (.tail _ (.tail _ (.tail _ (.head _))))
theorem inR (h : q = a :: b :: c :: d :: e :: r) : ∀ p ∈ r, p ∈ q := fun _ hp => h ▸ .tail _ (.tail _ (.tail _ (.tail _ (.tail _ hp))))
theorem in5_all {P : Addr × Obj → Prop} (h : q = a :: b :: c :: d :: e :: r) (ha : P a) (hb : P b) (hc : P c) (hd : P d) (he : P e) (hr : ∀ p ∈ r, P p) : ∀ p ∈ q, P p := fun p hp => by
  rw [h] at hp
  simp only [List.mem_cons] at hp
  rcases hp with rfl | rfl | rfl | rfl | rfl | hp
  · exact ha
  · exact hb
  · exact hc
  · exact hd
  · exact he
  · exact hr p hp
end

/-- the ledger behind a search: the nested def's code laid, else nothing -/
def GetPost (ps : Array Value) (news news' : List (Addr × Obj)) : Prop := ∃ c' cx, news' = (237, tabObj (setTab c')) :: (cx ++ news) ∧ CodeIn (cx ++ news) c' ∧ (∀ q ∈ cx, @LT.lt Nat _ 237 q.1 ∧ ∀ p ∈ news, @LT.lt Nat _ p.1 q.1) ∧ (ps ≠ #[] → ps = setTab c' ∧ cx = []) ∧ (ps = #[] → CodeIn cx c')

/-- the contract of a search: within, it hands back; else it raises ValueError -/
def TellG (w : World) (f : Addr) (vs : List Value) (news : List (Addr × Obj)) (d u : Nat) (inn : Bool) (Post : Value → List (Addr × Obj) → Prop) (PostR : List (Addr × Obj) → Prop) : Prop :=
  ∀ (dp un : Nat) (gd : Option (List Code)) (cn : Str) (cs : Scope) (L a : Addr) (ccd : Value) (cl : List (Str × Addr)) (outer : List Env) (A₀ : Around) (base h₀ : Heap) (m : Str → Option Value) (loose : List Str) (mean : ExcName → Option Value) (mg mb : Str → Option Value) (s : Shared) (R : Result → Shared → Prop),
    At w A₀ base h₀ outer L m loose mean mg mb news s.heap → cs.kind = .function → dp + d < 1000 → un + u < 9900 →
    (inn = true → ∀ r news' h' tk', Fr h₀ L h' m → News h₀ L h' news' → Post r news' → R (.ok (.ret r)) { s with heap := h', toks := tk' }) →
    (inn = false → ∀ e g news' h' tk', Fr h₀ L g m → RaisedN base (envX cn cs L a ccd cl :: outer) e (.type "ValueError") news' h' → g.UpToSlots h' → PostR news' → R (.error (.ref e)) { s with heap := h', toks := tk' }) →
    codeAny (model PySem.Challenge.rw_kz0002_01.row.toRowW.prog w) (topA dp un gd (envX cn cs L a ccd cl) outer) (.call (.ref f) ⟨vs, []⟩) R s
theorem TellG.tell {w : World} {f : Addr} {vs : List Value} {news : List (Addr × Obj)} {d u : Nat} {Post : Value → List (Addr × Obj) → Prop} {PostR : List (Addr × Obj) → Prop} (t : TellG w f vs news d u true Post PostR) : Tell w f vs news d u Post := by
  unfold Tell
  intro dp un gd cn cs L a ccd cl outer A₀ base h₀ m loose mean mg mb s R H hk hd hu ret
  exact t dp un gd cn cs L a ccd cl outer A₀ base h₀ m loose mean mg mb s R H hk hd hu (fun _ => ret) (fun e => nomatch e)

theorem Tell.weak {w : World} {f : Addr} {vs : List Value} {news : List (Addr × Obj)} {d u d' u' : Nat} {Post : Value → List (Addr × Obj) → Prop} (t : Tell w f vs news d u Post) (hd : d ≤ d') (hu : u ≤ u') : Tell w f vs news d' u' Post := by
  unfold Tell at t ⊢
  intro dp un gd cn cs L a ccd cl outer A₀ base h₀ m loose mean mg mb s R H hk hd' hu' ret
  exact t dp un gd cn cs L a ccd cl outer A₀ base h₀ m loose mean mg mb s R H hk (by omega) (by omega) ret
theorem GetPost.hit {c' : Addr} {news news' : List (Addr × Obj)} (h : GetPost (setTab c') news news') : news' = (237, tabObj (setTab c')) :: news := by
  obtain ⟨c2, cx, e, _, _, k, _⟩ := h
  obtain ⟨k1, k2⟩ := k (by simp)
  rw [e, k2, ← k1]; rfl
theorem lastEn_of {ls : List LeafR} {a : LeafR} (h : ls.getLast? = some a) : lastEn ls = a.en := by unfold lastEn; rw [h]
theorem exists_last {α : Type} {ls : List α} (h : ls ≠ []) : ∃ a, ls.getLast? = some a := by
  cases e : ls.getLast? with
  | none => exact absurd (List.getLast?_eq_none_iff.mp e) h
  | some a => exact ⟨a, rfl⟩

theorem lastEn_mono {lss : List (List LeafR)} {j i : Nat} {la lb : List LeafR} (ho : Ord lss.flatten) (ha : lss[j]? = some la) (hb : lss[i]? = some lb) (hj : j < i) (na : la ≠ []) (nb : lb ≠ []) : leP (lastEn la) (lastEn lb) = true := by
  obtain ⟨x, hx⟩ := exists_last na
  obtain ⟨y, hy⟩ := exists_last nb
  rw [lastEn_of hx, lastEn_of hy]
  have hp := (List.pairwise_flatten.mp ho.next).2
  obtain ⟨hj', ea⟩ := List.getElem?_eq_some_iff.mp ha
  obtain ⟨hi', eb⟩ := List.getElem?_eq_some_iff.mp hb
  have h1 := List.pairwise_iff_getElem.mp hp j i hj' hi' hj
  rw [ea, eb] at h1
  have hx' := List.mem_of_getLast? hx
  have hy' := List.mem_of_getLast? hy
  exact leP_trans (h1 x hx' y hy') (ho.own y (List.mem_flatten.mpr ⟨lb, List.mem_of_getElem? hb, hy'⟩))

theorem RaisedN.less {base : Heap} {l : List Env} {e : Addr} {cls : Value} {news news' : List (Addr × Obj)} {h : Heap} (r : RaisedN base l e cls news h) (hs : ∀ p ∈ news', p ∈ news) : RaisedN base l e cls news' h :=
  let ⟨B, a0, k1, k2, k3⟩ := r; ⟨B, a0, k1, fun q hq => k2 q (hs q hq), k3⟩
section
variable {M : Model} {A : Around} {E : Value → Shared → Prop} {s' : Shared} {base g h : Heap} {outer : List Env} {L e : Addr} {m : Str → Option Value} {env : Env} {Q : Unit → Shared → Prop} {news : List (Addr × Obj)} {cls : String}
/-- a new exception leaves a def's frame, whatever cells the frame has -/
theorem leave_newX (K : Below A base outer g) (hx : Heap.NewExc h s'.heap e cls) (F : Fr g L h m) (N : News g L h news) (hf : env.frame = some L) (hk : env.scope.kind = .function)
    (hQ : ∀ h', RaisedN base outer e (.type cls) news h' → g.UpToSlots h' → Q () { s' with heap := h' }) :
    wpAny M (A.deeper env) (leaving env (.ref e)) Q E s' := by
  have P := pushX K F hf hk
  let fs := (env :: outer).filterMap (·.frame)
  have hin : ∀ env' ∈ env :: outer, ∀ b, env'.frame = some b → b ∈ fs := fun env' he b hb => List.mem_filterMap.mpr ⟨env', he, hb⟩
  have stay : base.StaysIn (hideAll h fs) := fun b o q => hideAll_get _ (P.stays b o q) fun hm => by
    rw [(P.frames.mem hm).1] at q; cases q
  have led : ∀ q ∈ news, (hideAll h fs).get? q.1 = some q.2 ∧ base.get? q.1 = none := fun q hq => by
    refine ⟨hideAll_get _ (N q hq).1 fun hm => ?_, fresh_of_stays K.stays (N q hq).2.2⟩
    obtain ⟨env', he, hf'⟩ := List.mem_filterMap.mp hm
    rcases List.mem_cons.mp he with rfl | he
    · exact (N q hq).2.1 (Option.some.inj (hf.symm.trans hf')).symm
    · obtain ⟨o, ho, _⟩ := (K.frames.mem (List.mem_filterMap.mpr ⟨env', he, hf'⟩)).2
      rw [(N q hq).2.2] at ho; cases ho
  obtain ⟨ob, tp, he, hcls, hd⟩ := hx.there
  have none_e : (hideAll h fs).get? e = none := by
    cases q : (hideAll h fs).get? e with
    | none => rfl
    | some o => have := of_hideAll _ q; rw [hx.new] at this; cases this
  refine wpAny_leaving_firstW (a0 := tp) P.stack ((funFrames_hide P.frames hin).of_keeps fun b o hb _ => ⟨o, hx.keeps b o hb, rfl⟩) hf he (fun b o hb => hx.keeps b o (of_hideAll _ hb)) none_e hd rfl rfl fun h' hL => ?_
  obtain ⟨k1, ⟨_, _, k2⟩, k3, k4⟩ := hL
  exact hQ h' ⟨_, tp, stay, led, k1, none_e, k2, by rw [← hcls]; exact k3⟩ (((Heap.UpToSlots.of_keeps F.keep).trans (Heap.UpToSlots.of_keeps hx.keeps)).trans k4)
end
end Mine
end

section
open PySem PySem.W PyProof.Rows
set_option Elab.async false
set_option maxRecDepth 100000
namespace Mine
example : (PySem.Challenge.rw_kz0002_01 = PySem.Challenge.rw_kz0002_01) ∧ (Mine.hd.heap_39 = Mine.hd.heap_39) := by k_fill; exact ⟨rfl, rfl⟩

local macro_rules | `(tactic| k_room) => `(tactic| ((try simp only [depth_mark, depth_under_make, depth_under_kw, depth_in1, depth_deeper, depth_caller]); (try dsimp only [topA]); (try simp only [recursionLimit]); omega))
local macro_rules | `(tactic| k_units) => `(tactic| ((try simp only [units_in1, units_deeper, Around.mark_units, units_caller]); (try dsimp only [topA]); (try simp only [cLine]); omega))
local macro_rules | `(tactic| k_mem) => `(tactic| assumption)
local macro_rules | `(tactic| ktr_enter) => `(tactic| (refine' code_defC ?k1 ?k2 ?k3 ?k4 ?k5 ?kA ?kF ?kK ?k6 ?k7 ?k8 ?k9 ?kB ?kD ?_ ?c2 ?c3 ?c4; (case kA => exact rfl); (case kF => exact rfl); (case kK => assumption); (case k1 => k_asm); (case k2 => k_asm); (case k3 => k_asm); (case k4 => k_asm); (case k5 => k_asm); (case k6 => k_is); (case k7 => k_is); (case k8 => k_room); (case k9 => first | exact BindsTo.of_eq rfl | exact binds_K (by k_in) rfl (by k_is) rfl rfl rfl | fail "k_enter: no rule for these arguments"); (case kB => exact rfl); (case kD => decide +kernel); (case c2 => exact rfl); (case c3 => exact rfl); (case c4 => exact rfl); k_whole; intro g' L' h' tk' cells' FG' F' N' Y' B' X' T' l1; (try k_lt l1); k_cells Y'; (try simp only [List.cons_append, List.nil_append] at N'); (try dsimp only); (try k_fold)))
local macro_rules | `(tactic| ktr_enter) => `(tactic| (refine' code_def ?k1 ?k2 ?k3 ?k4 ?k5 ?kA ?kF ?kK ?k6 ?k7 ?k8 ?k9 ?kB ?_ ?c2 ?c3 ?c4 ?c5; (case kA => exact rfl); (case kF => exact rfl); (case kK => first | exact rfl | assumption); (case k1 => k_asm); (case k2 => k_asm); (case k3 => k_asm); (case k4 => k_asm); (case k5 => k_asm); (case k6 => k_is); (case k7 => k_is); (case k8 => k_room); (case k9 => first | exact BindsTo.of_eq rfl | exact binds_K (by k_in) rfl (by k_is) rfl rfl rfl); (case c5 => decide); (case kB => exact locs rfl); (case c2 => exact rfl); (case c3 => exact rfl); (case c4 => exact rfl); k_whole; intro g' L' h' FG' F' N' B' X' T'; (try dsimp only); (try k_fold)))
local macro_rules | `(tactic| k_enter) => `(tactic| ktr_enter)

local macro_rules | `(tactic| k_all) => `(tactic| assumption)
local macro_rules | `(tactic| walk_at "compareOp LtE ref ref") => `(tactic| (refine le_tup2 (by first | exact News.get (by k_asm) (by k_mem)) (by first | exact News.get (by k_asm) (by k_mem)) (by k_units) ?_))
local macro_rules | `(tactic| walk_at "compareOp Lt ref ref") => `(tactic| (refine lt_tup2 (by first | exact News.get (by k_asm) (by k_mem)) (by first | exact News.get (by k_asm) (by k_mem)) (by k_units) ?_))
local macro_rules | `(tactic| ktd_sub) => `(tactic| (intro p9 h9; simp only [List.mem_append, List.mem_cons] at h9 ⊢; simp only [h9, true_or, or_true]; done))
local macro_rules | `(tactic| ktr_call $_x $_y) => `(tactic| (refine' TellA.useS ?t ?B ?F ?X ?N ?sub ?T ?C ?hk ?hd ?hu ?_; (case t => assumption); (case B => k_asm); (case F => k_asm); (case X => k_asm); (case N => k_asm); (case sub => ktd_sub); (case T => k_asm); (case C => k_asm); (case hk => first | exact rfl | assumption); (case hd => k_room); (case hu => k_units); k_whole; intro r' n' h' tk' F' N' P'; obtain ⟨D', ta', tb', e1', e2', l'⟩ := P'; subst e1' e2'; (simp only [AllLt, and_true] at l'); (try dsimp only)))
local macro_rules | `(tactic| walk_at "getAttr ref") => `(tactic| k_dflt (ktr_call 0 0))
local macro_rules | `(tactic| walk_at "getAttr") => `(tactic| k_dflt (ktr_call 0 0))
local macro_rules | `(tactic| walk_at "subscriptTail Name UnaryOp ref int") => `(tactic| ((with_reducible show wpAny _ _ (subscriptTail _ _ (Value.ref _) (Value.int (-1) _)) _ _ _); k_dflt (refine' lastL ?k1 ?k2 ?_; (case k1 => exact News.isList (by k_asm) (by k_mem)); (case k2 => assumption); k_whole)))
local macro_rules | `(tactic| walk_at "call ref") => `(tactic| refine stop_here ?_)
local macro_rules | `(tactic| walk_at "leaving ref") => `(tactic| refine stop_here ?_)
local macro_rules | `(tactic| walk_at "subscriptTail Name Name ref int") => `(tactic| ((with_reducible show wpAny _ _ (subscriptTail _ _ (Value.ref _) (Value.int _ _)) _ _ _); k_dflt (refine' item_listL ?k1 ?k2 ?k3 ?k4 ?_; (case k1 => exact News.isList (by k_asm) (by k_mem)); (case k2 => omega); (case k3 => omega); (case k4 => assumption); k_whole)))
local macro_rules | `(tactic| walk_at "compareOp Eq int int") => `(tactic| (refine eq_int ?_; (first | (simp only [beq_self_eq_true]) | (rw [‹((_ : Int) == _) = false›]))))
local macro_rules | `(tactic| walk_at "binaryOp FloorDiv int int") => `(tactic| (refine floordiv_int (by decide) ?_; rw [‹Int.fdiv _ 2 = _›]))
local macro_rules | `(tactic| walk_at "call builtin:len cons nil") => `(tactic| ((with_reducible show wpAny _ _ (call (Value.builtin "len") [Value.ref _]) _ _ _); k_dflt (refine' len_list ?k1 ?k2 ?_; (case k1 => exact News.isList (by k_asm) (by k_mem)); (case k2 => (simp only [List.size_toArray]; omega)); k_whole); (try simp only [List.size_toArray])))
local macro_rules | `(tactic| walk_at "exec Raise some none") => `(tactic| refine Raise_new rfl ?_)
local macro_rules | `(tactic| walk_at "subscriptTail Attribute Name UnaryOp ref int") => `(tactic| ((with_reducible show wpAny _ _ (subscriptTail _ _ (Value.ref _) (Value.int (-1) _)) _ _ _); k_dflt (refine' lastL ?k1 ?k2 ?_; (case k1 => exact News.isList (by k_asm) (by k_mem)); (case k2 => assumption); k_whole)))
local macro_rules | `(tactic| walk_at "subscriptTail Attribute Name Name ref int") => `(tactic| ((with_reducible show wpAny _ _ (subscriptTail _ _ (Value.ref _) (Value.int _ _)) _ _ _); k_dflt (refine' item_listL ?k1 ?k2 ?k3 ?k4 ?_; (case k1 => exact News.isList (by k_asm) (by k_mem)); (case k2 => omega); (case k3 => omega); (case k4 => assumption); k_whole)))

set_option maxHeartbeats 8000000 in
theorem get_step {w : World} {d : Nat} {news : List (Addr × Obj)} {x dx xl : Addr} {t1 t2 t3 : Tok} {pv yv : Value} {n n' : Nat} {vs : List Value} {lss : List (List LeafR)} {px : Addr} {l c : Int} {tl tc : Tok} {wide : Bool} {ps : Array Value}
    (h1 : (x, instObj 280 dx) ∈ news) (h2 : (dx, dictOf (nodeEs w t1 t2 t3 (.ref xl) pv yv) n) ∈ news) (h3 : (xl, listOf vs.toArray n') ∈ news) (h4 : vs.length = lss.length) (h5 : 0 < vs.length) (h6 : vs.length ≤ 3)
    (hkids : ∀ (i : Nat) (v : Value) (ls : List LeafR), vs[i]? = some v → lss[i]? = some ls → TreeIn w news d v ls)
    (hp : (px, tup2 l tl c tc) ∈ news) (hno : ∀ p ∈ news, p.1 ≠ 237) (htab : TabOk ps news) (hord : Ord lss.flatten)
    (IH : ∀ (ps : Array Value) (news : List (Addr × Obj)) (x dx px : Addr) (ls : List LeafR) (l c : Int) (tl tc : Tok) (wide : Bool), TreeIn w news d (.ref x) ls → (x, instObj 280 dx) ∈ news → (px, tup2 l tl c tc) ∈ news → (∀ p ∈ news, p.1 ≠ 237) → TabOk ps news → Ord ls →
      TellG w 242 [.ref x, .ref px, .bool wide] ((237, tabObj ps) :: news) (5 * d + 20) (60 * d + 100) (leP (1, 0) (l, c) && leP (l, c) (lastEn ls)) (fun r news' => r = pick ls (l, c) wide ∧ GetPost ps news news') (GetPost ps news)) :
    TellG w 242 [.ref x, .ref px, .bool wide] ((237, tabObj ps) :: news) (5 * d + 25) (60 * d + 160) (leP (1, 0) (l, c) && leP (l, c) (lastEn lss.flatten)) (fun r news' => r = pick lss.flatten (l, c) wide ∧ GetPost ps news news') (GetPost ps news) := by
  unfold TellG
  intro dp un gd cn cs L a ccd cl outer A₀ base h₀ m loose mean mg mb s R H hk hd hu ret rai
  obtain ⟨B, F, X, N, T, C⟩ := H
  w_strict (k_dflt ktr_enter)
  (rename (_ < _ ∧ AllLt _ _) => l1)
  obtain ⟨l1a, l1b⟩ := l1
  rename_i g L1 hh tkk FG F0 B1 X1 T1 o1 o2 o3 o4 d1 d2 d3 d4 N0
  have dS : o4.data = .cell (some (.ref x)) := d4
  have dP : o3.data = .cell (some (.ref px)) := d3
  have dW : o2.data = .cell (some (.bool wide)) := d2
  clear d2 d3 d4
  refine wpAny_execs_cons ?_
  refine nestDef_K rfl rfl rfl ?_
  refine' nestAny ?m1 ?m2 ?m3 (CodeHd.keeps C (Below.stays ?m4)) ?n1 ?n2 ?n3 ?n4 hno htab ?m5 ?_
  case m1 => k_asm
  case m2 => k_asm
  case m3 => k_asm
  case m4 => assumption
  case m5 => exact rfl
  case n1 => ((try dsimp only); refine neN ?_; omega)
  case n2 => ((try dsimp only); refine neN ?_; omega)
  case n3 => ((try dsimp only); refine neN ?_; omega)
  case n4 => ((try dsimp only); refine neN ?_; omega)
  intro f c' ctv doc h' tk cx F1 N1 hc hcx hf hset
  have hN4 := cxNews hcx l1b (by (try dsimp only); omega)
  replace hf := allLt_of hf
  simp only [AllLt, and_true] at hf
  have hsub : ∀ p ∈ news, p ∈ cx ++ news := fun p hp => List.mem_append_right _ hp
  have hgp : ∀ news', news' = (237, tabObj (setTab c')) :: (cx ++ news) → GetPost ps news news' := fun news' e => ⟨c', cx, e, hc, fun q hq => ⟨(hcx q hq).1 (237, tabObj ps) (by simp), fun p hp => (hcx q hq).1 p (by simp [hp])⟩, hset⟩
  have hno2 : ∀ p ∈ cx ++ news, p.1 ≠ 237 := fun p hp => by
    rcases List.mem_append.mp hp with hp | hp
    · exact Nat.ne_of_gt ((hcx p hp).1 (237, tabObj ps) (by simp))
    · exact hno p hp
  generalize hnw : cx ++ news = nw at N1 hc hN4 hsub hgp hno2
  walk1
  rename_i h2' o1' F2 N2 dF
  clear d1
  obtain ⟨nwF, hF, hF2⟩ := News.cut (News.less N2 rot6)
  have mf := in1 hF2
  have mB := in2 hF2
  have mW := in3 hF2
  have mP := in4 hF2
  have mS := in5 hF2
  have hsubF := inR hF2
  have g1 := hsubF _ (hsub _ h1)
  have g2 := hsubF _ (hsub _ h2)
  have g3 := hsubF _ (hsub _ h3)
  have gp := hsubF _ (hsub _ hp)
  have gc := hc.mono hsubF
  have gk : ∀ (i : Nat) (v : Value) (ls : List LeafR), vs[i]? = some v → lss[i]? = some ls → TreeIn w nwF d v ls := fun i v ls hv hl => (hkids i v ls hv hl).mono fun p hp => hsubF _ (hsub _ hp)
  have gno : ∀ p ∈ nwF, p.1 ≠ 237 := in5_all hF2 (by (try dsimp only); refine neN ?_; omega) (by (try dsimp only); refine neN ?_; omega) (by (try dsimp only); refine neN ?_; omega) (by (try dsimp only); refine neN ?_; omega) (by (try dsimp only); refine neN ?_; omega) hno2
  have BS : leP (1, 0) (l, c) = true → ∀ (k lower upper : Nat), upper = lower + k → upper < vs.length → (∀ j ls', j < lower → lss[j]? = some ls' → leP (l, c) (lastEn ls') = false) → (∀ ls', lss[upper]? = some ls' → leP (l, c) (lastEn ls') = true) →
      ∀ t1 t2, Tell w f [.int lower t1, .int upper t2] ((237, tabObj (setTab c')) :: nwF) (k + 5 * d + 22) (10 * k + 60 * d + 120) (fun r n' => r = pick lss.flatten (l, c) wide ∧ n' = (237, tabObj (setTab c')) :: nwF) := by
    clear rai ret hF N2 F2 hF2 hsubF hgp hno2 hN4 hf hcx hsub hset hnw h1 h2 h3 hp hno htab hkids F N X T B FG l1a l1b B1 X1 T1 hc
    intro hpos0 k
    have gc0 := gc
    obtain ⟨oc, vs9, t9, gc1, gc2, gc3⟩ := gc
    induction k using Nat.strongRecOn with | ind k ihk =>
    cases k with
    | zero =>
      clear ihk
      intro lower upper e hlt hb hu t1' t2'
      obtain rfl : upper = lower := by omega
      obtain ⟨vi, hvi⟩ : ∃ vi, vs[upper]? = some vi := ⟨vs[upper], by simp [hlt]⟩
      obtain ⟨lsi, hli⟩ : ∃ lsi, lss[upper]? = some lsi := ⟨lss[upper]'(by omega), by simp⟩
      have hvi2 : vs[((upper : Nat) : Int).toNat]? = some vi := by simpa using hvi
      have ti := gk upper vi lsi hvi hli
      have hpk : pick lss.flatten (l, c) wide = pick lsi (l, c) wide := pick_flatten hord hli (fun j ls' hj hl => hb j ls' hj hl) ti.ne_nil (hu _ hli)
      have hoi : Ord lsi := hord.sub (List.sublist_flatten_of_mem (List.mem_of_getElem? hli))
      have hui := hu _ hli
      obtain ⟨a0, r0, ha0⟩ : ∃ a0 r0, lsi = a0 :: r0 := by
        cases lsi with
        | nil => exact absurd rfl ti.ne_nil
        | cons a0 r0 => exact ⟨a0, r0, rfl⟩
      have hS := attr_start d ((237, tabObj (setTab c')) :: nwF) vi lsi (ti.mono fun p hp => .tail _ hp) a0 r0 ha0
      have hG : ∀ dxi, (∃ xi, vi = .ref xi ∧ (xi, instObj 280 dxi) ∈ nwF) → Tell w 242 [vi, .ref px, .bool wide] ((237, tabObj (setTab c')) :: nwF) (5 * d + 20) (60 * d + 100) (fun r news' => r = pick lsi (l, c) wide ∧ GetPost (setTab c') nwF news') := by
        rintro dxi ⟨xi, rfl, hxi⟩
        have := IH (setTab c') nwF xi dxi px lsi l c tl tc wide ti hxi gp gno (.inr ⟨c', rfl, gc0⟩) hoi
        rw [hpos0, hui, Bool.true_and] at this
        exact this.tell
      unfold Tell
      intro dp un gd cn cs L a ccd cl outer A₀ base h₀ m loose mean mg mb s R H hk hd hu ret
      obtain ⟨B, F, X, N, T, C⟩ := H
      rw [hpk] at ret
      refine code_nest B F X N T rfl rfl hk (.tail _ mf) (codeRec_news N (.tail _ gc1) gc2 gc3) (by k_room) (BindsTo.of_eq rfl) (locs rfl) ?_ rfl rfl rfl (by decide)
      intro g' L' h' FG' F' N' B' X' T'
      cases ti with
      | @leaf _ xi dxi _ _ _ _ _ _ _ _ _ _ _ _ _ _ i1 i2 i3 =>
        cases ha0
        k_steps
        · exact ret _ ((237, tabObj (setTab c')) :: nwF) _ _ (by k_asm) (News.less (by k_asm) (by ktd_sub)) ⟨(pick_one hui (.inl (by assumption))).symm, rfl⟩
        · exact ret _ ((237, tabObj (setTab c')) :: nwF) _ _ (by k_asm) (News.less (by k_asm) (by ktd_sub)) ⟨(pick_none hoi rfl (by assumption) (by assumption)).symm, rfl⟩
        · exact ret _ ((237, tabObj (setTab c')) :: nwF) _ _ (by k_asm) (News.less (by k_asm) (by ktd_sub)) ⟨(pick_one hui (.inr (by assumption))).symm, rfl⟩
      | @node d' xi dxi _ _ _ _ _ _ _ _ _ _ i1 i2 i3 i4 i5 i6 i7 =>
        have hG2 := hG dxi ⟨xi, rfl, i1⟩
        k_steps
        · refine Stop.go (Tell.callS hG2 (by k_asm) (by k_asm) (by k_asm) (by k_asm) (by ktd_sub) (by k_asm) (by k_asm) (by rfl) (by k_room) (by k_units) ?_)
          intro r n1 h1 tk1 F1 N1 ⟨e1, e2⟩
          rw [e2.hit] at N1
          k_steps
          exact ret _ ((237, tabObj (setTab c')) :: nwF) _ _ (by k_asm) (by k_asm) ⟨e1, rfl⟩
        · exact ret _ ((237, tabObj (setTab c')) :: nwF) _ _ (by k_asm) (News.less (by k_asm) (by ktd_sub)) ⟨(pick_none hoi ha0 (by assumption) (by assumption)).symm, rfl⟩
        · refine Stop.go (Tell.callS hG2 (by k_asm) (by k_asm) (by k_asm) (by k_asm) (by ktd_sub) (by k_asm) (by k_asm) (by rfl) (by k_room) (by k_units) ?_)
          intro r n1 h1 tk1 F1 N1 ⟨e1, e2⟩
          rw [e2.hit] at N1
          k_steps
          exact ret _ ((237, tabObj (setTab c')) :: nwF) _ _ (by k_asm) (by k_asm) ⟨e1, rfl⟩
    | succ k =>
      intro lower upper e hlt hb hu t1' t2'
      have hne : ((lower : Int) == (upper : Int)) = false := by
        rw [beq_eq_false_iff_ne]; omega
      obtain ⟨mi, hmi⟩ : ∃ mi : Nat, mi = (lower + upper) / 2 := ⟨_, rfl⟩
      have hfd : ((lower : Int) + (upper : Int)).fdiv 2 = (mi : Int) := by
        rw [Int.fdiv_eq_ediv_of_nonneg _ (by decide)]; omega
      have hm1 : lower ≤ mi := by omega
      have hm2 : mi < upper := by omega
      obtain ⟨vi, hvi⟩ : ∃ vi, vs[mi]? = some vi := ⟨vs[mi]'(by omega), by simp⟩
      obtain ⟨lsi, hli⟩ : ∃ lsi, lss[mi]? = some lsi := ⟨lss[mi]'(by omega), by simp⟩
      have hvi2 : vs[((mi : Nat) : Int).toNat]? = some vi := by simpa using hvi
      have ti := gk mi vi lsi hvi hli
      obtain ⟨am, ham⟩ := exists_last ti.ne_nil
      have hE := attr_end d ((237, tabObj (setTab c')) :: nwF) vi lsi (ti.mono fun p hp => .tail _ hp) am ham
      have hlast := lastEn_of ham
      unfold Tell
      intro dp un gd cn cs L a ccd cl outer A₀ base h₀ m loose mean mg mb s R H hk hd hu' ret
      obtain ⟨B, F, X, N, T, C⟩ := H
      refine code_nest B F X N T rfl rfl hk (.tail _ mf) (codeRec_news N (.tail _ gc1) gc2 gc3) (by k_room) (BindsTo.of_eq rfl) (locs rfl) ?_ rfl rfl rfl (by decide)
      intro g' L' h' FG' F' N' B' X' T'
      k_steps
      · (rename leP _ _ = true => hle)
        refine Stop.go (Tell.callS ((ihk (mi - lower) (by omega) lower mi (by omega) (by omega) hb (fun ls' h' => by rw [hli] at h'; cases h'; rw [hlast]; exact hle) _ _).weak (d' := 5 * d + k + 22) (u' := 10 * k + 60 * d + 120) (by omega) (by omega)) (by k_asm) (by k_asm) (by k_asm) (by k_asm) (by ktd_sub) (by k_asm) (by k_asm) (by rfl) (by k_room) (by k_units) ?_)
        intro r n1 h1 tk1 F1 N1 ⟨e1, e2⟩
        rw [e2] at N1
        k_steps
        exact ret _ ((237, tabObj (setTab c')) :: nwF) _ _ (by k_asm) (by k_asm) ⟨e1, rfl⟩
      · (rename leP _ _ = false => hle)
        have hb2 : ∀ (j : Nat) (ls' : List LeafR), j < mi + 1 → lss[j]? = some ls' → leP (l, c) (lastEn ls') = false := by
          intro j ls' hj hl'
          have hle' : leP (l, c) (lastEn lsi) = false := by rw [hlast]; exact hle
          rcases Nat.lt_or_ge j mi with hj' | hj'
          · have hjv : j < vs.length := by omega
            exact leP_flip hle' (lastEn_mono hord hl' hli hj' (gk j (vs[j]'hjv) ls' (by simp) hl').ne_nil ti.ne_nil)
          · obtain rfl : j = mi := by omega
            rw [hli] at hl'; cases hl'; exact hle'
        have hB9 := fun t8 t9 => (ihk (upper - (mi + 1)) (by omega) (mi + 1) upper (by omega) hlt hb2 hu t8 t9).weak (d' := 5 * d + k + 22) (u' := 10 * k + 60 * d + 120) (by omega) (by omega)
        rw [show ((mi + 1 : Nat) : Int) = (mi : Int) + 1 from by omega] at hB9
        refine Stop.go (Tell.callS (hB9 _ _) (by k_asm) (by k_asm) (by k_asm) (by k_asm) (by ktd_sub) (by k_asm) (by k_asm) (by rfl) (by k_room) (by k_units) ?_)
        intro r n1 h1 tk1 F1 N1 ⟨e1, e2⟩
        rw [e2] at N1
        k_steps
        exact ret _ ((237, tabObj (setTab c')) :: nwF) _ _ (by k_asm) (by k_asm) ⟨e1, rfl⟩
  dsimp only
  obtain ⟨vl, hvl⟩ : ∃ vl, vs[vs.length - 1]? = some vl := ⟨vs[vs.length - 1], by simp⟩
  obtain ⟨lsl, hll⟩ : ∃ lsl, lss[vs.length - 1]? = some lsl := ⟨lss[vs.length - 1]'(by omega), by simp⟩
  have tl9 := gk _ vl lsl hvl hll
  obtain ⟨al, hal⟩ := exists_last tl9.ne_nil
  have hE := attr_end d ((237, tabObj (setTab c')) :: nwF) vl lsl (tl9.mono fun p hp => .tail _ hp) al hal
  have hlast : lastEn lss.flatten = al.en := lastEn_of ((flatten_last (by rw [List.getLast?_eq_getElem?, ← h4]; exact hll) tl9.ne_nil).trans hal)
  rw [hlast] at ret rai
  clear N2 hN4 hcx hsub hnw hF2
  have hsB : ∀ p ∈ (237, tabObj (setTab c')) :: nw, p ∈ (237, tabObj (setTab c')) :: nwF := fun p9 h9 => by
    rcases List.mem_cons.mp h9 with h9 | h9
    · rw [h9]; exact List.mem_cons_self
    · exact List.mem_cons_of_mem _ (hsubF _ h9)
  k_steps
  · (rename leP (l, c) _ = true => hq2)
    (rename leP (1, 0) _ = true => hq1)
    have hB9 := fun t8 t9 => BS hq1 (vs.length - 1) 0 (vs.length - 1) (by omega) (by omega) (fun j ls' hj => absurd hj (Nat.not_lt_zero j)) (fun ls' h' => by rw [hll] at h'; cases h'; rw [lastEn_of hal]; exact hq2) t8 t9
    rw [show ((vs.length - 1 : Nat) : Int) = (vs.length : Int) - 1 from by omega, show ((0 : Nat) : Int) = 0 from rfl] at hB9
    refine Stop.go (Tell.callS (hB9 _ _) (by k_asm) (by k_asm) (by k_asm) (by k_asm) (by ktd_sub) (by k_asm) (by k_asm) (by rfl) (by k_room) (by k_units) ?_)
    intro r n1 h1 tk1 F1 N1 ⟨e1, e2⟩
    rw [e2] at N1
    k_steps
    exact ret (by rw [hq1, Bool.true_and]; exact hq2) _ ((237, tabObj (setTab c')) :: nw) _ _ (by k_asm) (News.less (by k_asm) hsB) ⟨e1, hgp _ rfl⟩
  · (rename leP (l, c) _ = false => hq2)
    (rename leP (1, 0) _ = true => hq1)
    refine Stop.go (leave_newX B1 (by assumption) (by k_asm) (by k_asm) rfl rfl ?_)
    intro h9 R9 U9
    exact rai (by rw [hq1, Bool.true_and]; exact hq2) _ _ ((237, tabObj (setTab c')) :: nw) _ _ FG (RaisedN.less R9 (fun p9 h9 => List.mem_cons_of_mem _ (hsB _ h9))) U9 (hgp _ rfl)
  · (rename leP (1, 0) _ = false => hq1)
    refine Stop.go (leave_newX B1 (by assumption) (by k_asm) (by k_asm) rfl rfl ?_)
    intro h9 R9 U9
    exact rai (by rw [hq1, Bool.false_and]) _ _ ((237, tabObj (setTab c')) :: nw) _ _ FG (RaisedN.less R9 (fun p9 h9 => List.mem_cons_of_mem _ (hsB _ h9))) U9 (hgp _ rfl)

theorem get_all {w : World} : ∀ (d : Nat) (ps : Array Value) (news : List (Addr × Obj)) (x dx px : Addr) (ls : List LeafR) (l c : Int) (tl tc : Tok) (wide : Bool), TreeIn w news d (.ref x) ls → (x, instObj 280 dx) ∈ news → (px, tup2 l tl c tc) ∈ news → (∀ p ∈ news, p.1 ≠ 237) → TabOk ps news → Ord ls →
      TellG w 242 [.ref x, .ref px, .bool wide] ((237, tabObj ps) :: news) (5 * d + 20) (60 * d + 100) (leP (1, 0) (l, c) && leP (l, c) (lastEn ls)) (fun r news' => r = pick ls (l, c) wide ∧ GetPost ps news news') (GetPost ps news) := by
  intro d
  induction d with
  | zero =>
    intro ps news x dx px ls l c tl tc wide ht hx
    cases ht with
    | leaf h1 =>
      intros
      unfold TellG
      intro dp un gd cn cs L a ccd cl outer A₀ base h₀ m loose mean mg mb s R H
      have e1 := (H.N _ (List.mem_cons_of_mem _ h1)).1
      have e2 := (H.N _ (List.mem_cons_of_mem _ hx)).1
      rw [e1] at e2
      cases e2
  | succ d ih =>
    intro ps news x dx px ls l c tl tc wide ht hx hp hno htab hord
    cases ht with
    | leaf h1 =>
      unfold TellG
      intro dp un gd cn cs L a ccd cl outer A₀ base h₀ m loose mean mg mb s R H
      have e1 := (H.N _ (List.mem_cons_of_mem _ h1)).1
      have e2 := (H.N _ (List.mem_cons_of_mem _ hx)).1
      rw [e1] at e2
      cases e2
    | node h1 h2 h3 h4 h5 h6 h7 =>
      have := get_step h1 h2 h3 h4 h5 h6 h7 hp hno htab hord (wide := wide) ih
      exact this
end Mine
end

section
open PySem PySem.W PyProof.Rows
set_option Elab.async false
set_option maxRecDepth 100000
namespace Mine
example : (PySem.Challenge.rw_kz0002_01 = PySem.Challenge.rw_kz0002_01) ∧ (Mine.hd.heap_39 = Mine.hd.heap_39) := by k_fill; exact ⟨rfl, rfl⟩

/-- what a call does to the ledger R (within led): trees stand as they stood but for the parents; what is new lies behind led -/
structure Keeps (w : World) (led R R' : List (Addr × Obj)) : Prop where
  flat : ∀ p ∈ R, p.2.cls ≠ .type "dict" → p ∈ R'
  leaf : ∀ (dx : Addr) (t1 t2 t3 t4 t5 tv tl tc : Tok) (v : Str) (l c : Int) (pv qv : Value) (n : Nat), (dx, dictOf (leafEs w t1 t2 t3 t4 t5 v tv l tl c tc pv qv) n) ∈ R →
    ∃ t5' qv' n', (dx, dictOf (leafEs w t1 t2 t3 t4 t5' v tv l tl c tc pv qv') n') ∈ R'
  node : ∀ (dx : Addr) (t1 t2 t3 : Tok) (cv pv yv : Value) (n : Nat), (dx, dictOf (nodeEs w t1 t2 t3 cv pv yv) n) ∈ R →
    ∃ t2' pv' n', (dx, dictOf (nodeEs w t1 t2' t3 cv pv' yv) n') ∈ R'
  addr : ∀ p ∈ R', (∃ q ∈ R, q.1 = p.1) ∨ ∀ q ∈ led, @LT.lt Nat _ q.1 p.1
  kept : ∀ p ∈ R, ∃ q ∈ R', q.1 = p.1

theorem Keeps.refl {w : World} {led R : List (Addr × Obj)} : Keeps w led R R :=
  ⟨fun _ h _ => h, fun _ _ _ _ _ t5 _ _ _ _ _ _ _ qv n h => ⟨t5, qv, n, h⟩, fun _ _ t2 _ _ pv _ n h => ⟨t2, pv, n, h⟩, fun p h => .inl ⟨p, h, rfl⟩, fun p h => ⟨p, h, rfl⟩⟩
theorem Keeps.trans {w : World} {led led' R R' R'' : List (Addr × Obj)} (a : Keeps w led R R') (b : Keeps w led' R' R'') (hl : ∀ q ∈ led, ∃ q' ∈ led', q'.1 = q.1) : Keeps w led R R'' := by
  refine ⟨fun p h hc => b.flat p (a.flat p h hc) hc, fun dx t1 t2 t3 t4 t5 tv tl tc v l c pv qv n h => ?_, fun dx t1 t2 t3 cv pv yv n h => ?_, fun p h => ?_, fun p h => let ⟨q, hq, e⟩ := a.kept p h; let ⟨r, hr, e'⟩ := b.kept q hq; ⟨r, hr, e'.trans e⟩⟩
  · obtain ⟨_, _, _, h'⟩ := a.leaf _ _ _ _ _ _ _ _ _ _ _ _ _ _ _ h
    exact b.leaf _ _ _ _ _ _ _ _ _ _ _ _ _ _ _ h'
  · obtain ⟨_, _, _, h'⟩ := a.node _ _ _ _ _ _ _ _ h
    exact b.node _ _ _ _ _ _ _ _ h'
  · rcases b.addr p h with ⟨q, hq, e⟩ | h
    · rcases a.addr q hq with ⟨q2, hq2, e2⟩ | h2
      · exact .inl ⟨q2, hq2, e2.trans e⟩
      · exact .inr fun r hr => e ▸ h2 r hr
    · refine .inr fun q hq => ?_
      obtain ⟨q', hq', e⟩ := hl q hq
      exact e ▸ h q' hq'
theorem Keeps.more {w : World} {led R R' N : List (Addr × Obj)} (a : Keeps w led R R') (h : ∀ p ∈ N, ∀ q ∈ led, @LT.lt Nat _ q.1 p.1) : Keeps w led R (N ++ R') := by
  refine ⟨fun p h hc => List.mem_append_right _ (a.flat p h hc), fun dx t1 t2 t3 t4 t5 tv tl tc v l c pv qv n h => ?_, fun dx t1 t2 t3 cv pv yv n h => ?_, fun p hp => ?_, fun p h => let ⟨q, hq, e⟩ := a.kept p h; ⟨q, List.mem_append_right _ hq, e⟩⟩
  · obtain ⟨x, y, z, h'⟩ := a.leaf _ _ _ _ _ _ _ _ _ _ _ _ _ _ _ h
    exact ⟨x, y, z, List.mem_append_right _ h'⟩
  · obtain ⟨x, y, z, h'⟩ := a.node _ _ _ _ _ _ _ _ h
    exact ⟨x, y, z, List.mem_append_right _ h'⟩
  · rcases List.mem_append.mp hp with hp | hp
    · exact .inr (h p hp)
    · exact a.addr p hp
/-- trees stand -/
theorem TreeIn.keeps {w : World} {led R R' : List (Addr × Obj)} {d : Nat} {v : Value} {ls : List LeafR} (h : TreeIn w R d v ls) (k : Keeps w led R R') : TreeIn w R' d v ls := by
  induction h with
  | leaf h1 h2 h3 =>
    obtain ⟨x, y, z, h'⟩ := k.leaf _ _ _ _ _ _ _ _ _ _ _ _ _ _ _ h2
    exact .leaf (k.flat _ h1 (by intro e; cases e)) h' h3
  | node h1 h2 h3 h4 h5 h6 _ ih =>
    obtain ⟨x, y, z, h'⟩ := k.node _ _ _ _ _ _ _ _ h2
    exact .node (k.flat _ h1 (by intro e; cases e)) h' (k.flat _ h3 (by intro e; exact absurd (Value.type.inj e) (by decide))) h4 h5 h6 ih

/-- set one entry anew -/
abbrev setE (a : Addr) (o : Obj) (R : List (Addr × Obj)) : List (Addr × Obj) := (a, o) :: R.filter fun p => decide (@Ne Nat p.1 a)
theorem mem_setE {a : Addr} {o : Obj} {R : List (Addr × Obj)} {p : Addr × Obj} (h : p ∈ R) (hn : p.1 ≠ a) : p ∈ setE a o R :=
  .tail _ (List.mem_filter.mpr ⟨h, decide_eq_true hn⟩)
theorem of_setE {a : Addr} {o : Obj} {R : List (Addr × Obj)} : ∀ p ∈ R.filter (fun p => decide (@Ne Nat p.1 a)), p ∈ R ∧ p.1 ≠ a := fun p h =>
  let ⟨h1, h2⟩ := List.mem_filter.mp h; ⟨h1, of_decide_eq_true h2⟩
theorem News.uniq {h₀ h : Heap} {L a : Addr} {R : List (Addr × Obj)} {o o' : Obj} (N : News h₀ L h R) (h1 : (a, o) ∈ R) (h2 : (a, o') ∈ R) : o = o' := by
  have e1 := (N _ h1).1
  have e2 := (N _ h2).1
  exact Option.some.inj (e1.symm.trans e2)

theorem Keeps.setLeaf {w : World} {led R : List (Addr × Obj)} {h₀ h : Heap} {L : Addr} {dx : Addr} {t1 t2 t3 t4 t5 t5' tv tl tc : Tok} {v : Str} {l c : Int} {pv qv qv' : Value} {n n' : Nat} (N : News h₀ L h R)
    (hm : (dx, dictOf (leafEs w t1 t2 t3 t4 t5 v tv l tl c tc pv qv) n) ∈ R) : Keeps w led R (setE dx (dictOf (leafEs w t1 t2 t3 t4 t5' v tv l tl c tc pv qv') n') R) := by
  refine ⟨fun p hp hc => ?_, fun dy u1 u2 u3 u4 u5 uv ul uc v2 l2 c2 pv2 qv2 n2 hy => ?_, fun dy u1 u2 u3 cv2 pv2 yv2 n2 hy => ?_, fun p hp => ?_, fun p hp => ?_⟩
  · refine mem_setE hp fun e => ?_
    obtain ⟨p1, p2⟩ := p
    dsimp only at e; subst e
    exact hc (by rw [News.uniq N hp hm])
  · by_cases e : dy = dx
    · subst e
      have q := News.uniq N hy hm
      injection q with _ _ q
      injection q with q _
      have q := congrArg Array.toList q
      simp only [List.cons.injEq, DictEntry.mk.injEq, Value.str.injEq, Value.int.injEq, true_and, and_true] at q
      obtain ⟨⟨r1, r2, r3⟩, ⟨r4, r5, r6⟩, ⟨r7, r8, r9⟩, ⟨r10, r11⟩, r12, r13⟩ := q
      subst r1 r2 r3 r4 r5 r6 r7 r8 r9 r10 r11
      exact ⟨_, _, _, .head _⟩
    · exact ⟨_, _, _, mem_setE hy e⟩
  · by_cases e : dy = dx
    · subst e
      have q := News.uniq N hy hm
      injection q with _ _ q
      injection q with q _
      have := congrArg Array.size q
      cases this
    · exact ⟨_, _, _, mem_setE hy e⟩
  · rcases List.mem_cons.mp hp with rfl | hp
    · exact .inl ⟨_, hm, rfl⟩
    · exact .inl ⟨p, (of_setE (o := dictOf [] 0) p hp).1, rfl⟩
  · by_cases e : p.1 = dx
    · exact ⟨_, .head _, e.symm⟩
    · exact ⟨p, mem_setE hp e, rfl⟩
theorem Keeps.setNode {w : World} {led R : List (Addr × Obj)} {h₀ h : Heap} {L : Addr} {dx : Addr} {t1 t2 t2' t3 : Tok} {cv pv pv' yv : Value} {n n' : Nat} (N : News h₀ L h R)
    (hm : (dx, dictOf (nodeEs w t1 t2 t3 cv pv yv) n) ∈ R) : Keeps w led R (setE dx (dictOf (nodeEs w t1 t2' t3 cv pv' yv) n') R) := by
  refine ⟨fun p hp hc => ?_, fun dy u1 u2 u3 u4 u5 uv ul uc v2 l2 c2 pv2 qv2 n2 hy => ?_, fun dy u1 u2 u3 cv2 pv2 yv2 n2 hy => ?_, fun p hp => ?_, fun p hp => ?_⟩
  · refine mem_setE hp fun e => ?_
    obtain ⟨p1, p2⟩ := p
    dsimp only at e; subst e
    exact hc (by rw [News.uniq N hp hm])
  · by_cases e : dy = dx
    · subst e
      have q := News.uniq N hy hm
      injection q with _ _ q
      injection q with q _
      have := congrArg Array.size q
      cases this
    · exact ⟨_, _, _, mem_setE hy e⟩
  · by_cases e : dy = dx
    · subst e
      have q := News.uniq N hy hm
      injection q with _ _ q
      injection q with q _
      have q := congrArg Array.toList q
      simp only [List.cons.injEq, DictEntry.mk.injEq, Value.str.injEq, Value.int.injEq, true_and, and_true] at q
      obtain ⟨⟨r1, r2⟩, ⟨r3, r4⟩, r5, r6⟩ := q
      subst r1 r2 r5 r6
      exact ⟨_, _, _, .head _⟩
    · exact ⟨_, _, _, mem_setE hy e⟩
  · rcases List.mem_cons.mp hp with rfl | hp
    · exact .inl ⟨_, hm, rfl⟩
    · exact .inl ⟨p, (of_setE (o := dictOf [] 0) p hp).1, rfl⟩
  · by_cases e : p.1 = dx
    · exact ⟨_, .head _, e.symm⟩
    · exact ⟨p, mem_setE hp e, rfl⟩

section
variable {prog : Program} {w : World} {A : Around} {E : Value → Shared → Prop} {s : Shared} {L : Addr} {h₀ : Heap} {m : Str → Option Value}
/-- a child is told its parent -/
theorem set_parent {H R : List (Addr × Obj)} {v pv : Value} {d : Nat} {ls : List LeafR} {Q : Unit → Shared → Prop} (F : Fr h₀ L s.heap m) (X : (Mine.hd.heap_39 w.params).In h₀) (N : News h₀ L s.heap (H ++ R)) (t : TreeIn w R d v ls)
    (hH : ∀ p ∈ H, ∀ q ∈ R, p.1 ≠ q.1) (h : ∀ h' R', Fr h₀ L h' m → News h₀ L h' (H ++ R') → (∀ led, Keeps w led R R') → Q () { s with heap := h', toks := s.toks + 2 }) : wpAny (model prog w) A (setAttr v (Str.ofString "parent") pv) Q E s := by
  have N1 : News h₀ L s.heap R := News.less N fun p hp => List.mem_append_right _ hp
  cases t with
  | @leaf d x dx t1 t2 t3 t4 t5 tv tl tc v l c qv0 qv n h1 h2 h3 =>
    refine set_dict (news := (H ++ setE dx (dictOf (leafEs w t1 t2 t3 t4 t5 v tv l tl c tc qv0 qv) n) R)) (news' := (H ++ setE dx (dictOf (leafEs w t1 t2 t3 t4 t5 v tv l tl c tc qv0 pv) n) R)) (es' := leafEs w t1 t2 t3 t4 t5 v tv l tl c tc qv0 pv) (n' := n) (K := Mine.hd.heap_39 w.params) F X ?_ (InstAt.of_news N1 h1 h2) rfl ?_ ?_ ?_ ?_ ?_ ?_ ?_ ?_ ?_
    · refine News.less N fun p hp => ?_
      rcases List.mem_append.mp hp with hp | hp
      · exact List.mem_append_left _ hp
      · rcases List.mem_cons.mp hp with rfl | hp
        · exact List.mem_append_right _ h2
        · exact List.mem_append_right _ (of_setE (o := dictOf [] 0) p hp).1
    · k_is
    · k_is
    · k_is
    · k_is
    · exact rfl
    · exact rfl
    · have : ∀ (H : List (Addr × Obj)), (∀ p ∈ H, p.1 ≠ dx) → Upd dx (dictOf (leafEs w t1 t2 t3 t4 t5 v tv l tl c tc qv0 qv) n) (dictOf (leafEs w t1 t2 t3 t4 t5 v tv l tl c tc qv0 pv) n) (H ++ setE dx (dictOf (leafEs w t1 t2 t3 t4 t5 v tv l tl c tc qv0 qv) n) R) (H ++ setE dx (dictOf (leafEs w t1 t2 t3 t4 t5 v tv l tl c tc qv0 pv) n) R) := by
        intro H hH
        induction H with
        | nil => exact .head fun p hp => (of_setE (o := dictOf [] 0) p hp).2
        | cons q H ih => exact .tail (hH _ (.head _)) (ih fun p hp => hH p (.tail _ hp))
      exact this H fun p hp => hH p hp _ h2
    · exact Nat.le_of_ble_eq_true rfl
    · exact fun h' F' N' => h h' _ F' N' fun led => Keeps.setLeaf N1 h2
  | @node d x dx cl t1 t2 t3 qv0 yv n n' vs lss h1 h2 h3 h4 h5 h6 hk =>
    refine set_dict (news := (H ++ setE dx (dictOf (nodeEs w t1 t2 t3 (.ref cl) qv0 yv) n) R)) (news' := (H ++ setE dx (dictOf (nodeEs w t1 t2 t3 (.ref cl) pv yv) n) R)) (es' := nodeEs w t1 t2 t3 (.ref cl) pv yv) (n' := n) (K := Mine.hd.heap_39 w.params) F X ?_ (InstAt.of_news N1 h1 h2) rfl ?_ ?_ ?_ ?_ ?_ ?_ ?_ ?_ ?_
    · refine News.less N fun p hp => ?_
      rcases List.mem_append.mp hp with hp | hp
      · exact List.mem_append_left _ hp
      · rcases List.mem_cons.mp hp with rfl | hp
        · exact List.mem_append_right _ h2
        · exact List.mem_append_right _ (of_setE (o := dictOf [] 0) p hp).1
    · k_is
    · k_is
    · k_is
    · k_is
    · exact rfl
    · exact rfl
    · have : ∀ (H : List (Addr × Obj)), (∀ p ∈ H, p.1 ≠ dx) → Upd dx (dictOf (nodeEs w t1 t2 t3 (.ref cl) qv0 yv) n) (dictOf (nodeEs w t1 t2 t3 (.ref cl) pv yv) n) (H ++ setE dx (dictOf (nodeEs w t1 t2 t3 (.ref cl) qv0 yv) n) R) (H ++ setE dx (dictOf (nodeEs w t1 t2 t3 (.ref cl) pv yv) n) R) := by
        intro H hH
        induction H with
        | nil => exact .head fun p hp => (of_setE (o := dictOf [] 0) p hp).2
        | cons q H ih => exact .tail (hH _ (.head _)) (ih fun p hp => hH p (.tail _ hp))
      exact this H fun p hp => hH p hp _ h2
    · exact Nat.le_of_ble_eq_true rfl
    · exact fun h' F' N' => h h' _ F' N' fun led => Keeps.setNode N1 h2
end

section
variable {prog : Program} {w : World} {A : Around} {E : Value → Shared → Prop} {s : Shared} {env : Env} {h₀ : Heap} {x : Str} {body : List Stmt} {Q : Flow → Shared → Prop} {I : Addr} {lp : Addr × Obj}
theorem UnrPost.mono {it : Obj} {r r' : (Str → Option Value) → List (Addr × Obj) → Prop} {f : Flow} {s₂ : Shared} {L : Addr} (h : UnrPost h₀ L s I it r Q f s₂) (k : ∀ m n, r m n → r' m n) : UnrPost h₀ L s I it r' Q f s₂ := by
  unfold UnrPost at h ⊢
  cases f with
  | ret v => exact h
  | brk => exact h
  | next => obtain ⟨a, b, c, e, h1, h2, h3, h4, h5⟩ := h; exact ⟨a, b, c, e, h1, h2, h3, h4, k _ _ h5⟩
  | cont => obtain ⟨a, b, c, e, h1, h2, h3, h4, h5⟩ := h; exact ⟨a, b, c, e, h1, h2, h3, h4, k _ _ h5⟩
/-- a loop over a list of any length by an invariant -/
theorem ListRest.inv {J : List Value → (Str → Option Value) → List (Addr × Obj) → Prop}
    (step : ∀ v r m news, J (v :: r) m news → ∀ (it : Obj) h tk, it.cls = .type "list_iterator" → Fr h₀ env.locals h (fun y => if y = x then some v else m y) → News h₀ env.locals h ((I, it) :: news) →
      wpAny (model prog w) A (execs body env) (UnrPost h₀ env.locals { s with heap := h, toks := tk } I it (fun m' n' => lp ∈ n' ∧ J r m' n') Q) E { s with heap := h, toks := tk })
    (done : ∀ m news, J [] m news → ∀ h tk, Fr h₀ env.locals h m → News h₀ env.locals h news → Q .next { s with heap := h, toks := tk }) :
    ∀ (vs : List Value) (m : Str → Option Value) (news : List (Addr × Obj)), J vs m news → ListRest prog w A E h₀ env x body Q s I lp vs m news := by
  intro vs
  induction vs with
  | nil => exact fun m news hj => ListRest.zero (done m news hj)
  | cons v r ih =>
    intro m news hj
    refine ListRest.succ fun it h tk hc F N => wpAny_mono (step v r m news hj it h tk hc F N) (fun f s₂ p => UnrPost.mono p fun m' n' hh => ⟨hh.1, ih m' n' hh.2⟩) fun _ _ e => e
theorem RangeRest.inv {a : Int} {n : Nat} {J : Nat → Nat → (Str → Option Value) → List (Addr × Obj) → Prop}
    (step : ∀ k i m news, J (k + 1) i m news → ∀ t h tk, Fr h₀ env.locals h (fun y => if y = x then some (.int (a + (i : Int)) t) else m y) →
      News h₀ env.locals h ((I, itR (a + ((i + 1 : Nat) : Int)) ((n : Int) - ((i + 1 : Nat) : Int))) :: news) →
      wpAny (model prog w) A (execs body env) (UnrPost h₀ env.locals { s with heap := h, toks := tk } I (itR (a + ((i + 1 : Nat) : Int)) ((n : Int) - ((i + 1 : Nat) : Int))) (J k (i + 1)) Q) E { s with heap := h, toks := tk })
    (done : ∀ i m news, J 0 i m news → ∀ h tk, Fr h₀ env.locals h m → News h₀ env.locals h news → Q .next { s with heap := h, toks := tk }) :
    ∀ (k i : Nat) (m : Str → Option Value) (news : List (Addr × Obj)), J k i m news → RangeRest prog w A E h₀ env x body Q s I a n k i m news := by
  intro k
  induction k with
  | zero => exact fun i m news hj => RangeRest.zero (done i m news hj)
  | succ k ih =>
    intro i m news hj
    refine RangeRest.succ fun t h tk F N => wpAny_mono (step k i m news hj t h tk F N) (fun f s₂ p => UnrPost.mono p fun m' n' hh => ih (i + 1) m' n' hh) fun _ _ e => e
end

section
variable {prog : Program} {w : World} {A : Around} {E : Value → Shared → Prop} {s : Shared} {env : Env} {h₀ : Heap} {x : Str} {body : List Stmt} {Q : Flow → Shared → Prop} {I : Addr} {lp : Addr × Obj}
/-- a loop whose body binds no name -/
theorem ListRest.invM {M : Str → Option Value} {K : List Value → List (Addr × Obj) → Prop}
    (step : ∀ v r news, K (v :: r) news → ∀ (it : Obj) h tk, it.cls = .type "list_iterator" → Fr h₀ env.locals h (fun y => if y = x then some v else M y) → News h₀ env.locals h ((I, it) :: news) →
      wpAny (model prog w) A (execs body env) (UnrPost h₀ env.locals { s with heap := h, toks := tk } I it (fun m' n' => lp ∈ n' ∧ m' = (fun y => if y = x then some v else M y) ∧ K r n') Q) E { s with heap := h, toks := tk })
    (done : ∀ cv news, K [] news → ∀ h tk, Fr h₀ env.locals h (fun y => if y = x then cv else M y) → News h₀ env.locals h news → Q .next { s with heap := h, toks := tk }) {vs : List Value} {news : List (Addr × Obj)} (hK : K vs news) :
    ListRest prog w A E h₀ env x body Q s I lp vs M news := by
  refine ListRest.inv (J := fun vs m' n' => (∃ cv, m' = fun y => if y = x then cv else M y) ∧ K vs n') ?_ ?_ vs M news ⟨⟨M x, ?_⟩, hK⟩
  · rintro v r m news ⟨⟨cv, rfl⟩, hk⟩ it h tk hc F N
    have e : (fun y => if y = x then some v else if y = x then cv else M y) = fun y => if y = x then some v else M y := by
      funext y; by_cases h : y = x <;> simp [h]
    rw [e] at F
    exact wpAny_mono (step v r news hk it h tk hc F N) (fun f s₂ p => UnrPost.mono p fun m' n' hh => ⟨hh.1, ⟨_, hh.2.1⟩, hh.2.2⟩) fun _ _ e => e
  · rintro m news ⟨⟨cv, rfl⟩, hk⟩ h tk F N
    exact done cv news hk h tk F N
  · funext y; by_cases h : y = x <;> simp [h]
end

/-- a contract of a call that no def answers itself (a class called) -/
def TellW (w : World) (f : Addr) (vs : List Value) (news : List (Addr × Obj)) (d u : Nat) (Post : Value → List (Addr × Obj) → Prop) : Prop :=
  ∀ (dp un : Nat) (gd : Option (List Code)) (cn : Str) (cs : Scope) (L a : Addr) (ccd : Value) (cl : List (Str × Addr)) (outer : List Env) (A₀ : Around) (base h₀ : Heap) (m : Str → Option Value) (loose : List Str) (mean : ExcName → Option Value) (mg mb : Str → Option Value) (s : Shared) (Q E : Value → Shared → Prop),
    At w A₀ base h₀ outer L m loose mean mg mb news s.heap → cs.kind = .function → dp + d < 1000 → un + u < 9900 →
    (∀ r news' h' tk', Fr h₀ L h' m → News h₀ L h' news' → Post r news' → Q r { s with heap := h', toks := tk' }) →
    wpAny (model PySem.Challenge.rw_kz0002_01.row.toRowW.prog w) (topA dp un gd (envX cn cs L a ccd cl) outer) (PySem.call (.ref f) vs) Q E s
section
variable {w : World} {f : Addr} {vs : List Value} {news big : List (Addr × Obj)} {d u : Nat} {Post : Value → List (Addr × Obj) → Prop} {dp un : Nat} {gd : Option (List Code)} {cn : Str} {cs : Scope} {L a : Addr} {ccd : Value} {cl : List (Str × Addr)} {outer : List Env} {A₀ : Around} {base h₀ : Heap} {m : Str → Option Value} {loose : List Str} {mean : ExcName → Option Value} {mg mb : Str → Option Value} {s : Shared} {Q E : Value → Shared → Prop}
theorem TellW.useS (t : TellW w f vs news d u Post) (B : Below A₀ base outer h₀) (F : Fr h₀ L s.heap m) (X : (Mine.hd.heap_39 w.params).In h₀) (N : News h₀ L s.heap big) (hs : ∀ p ∈ news, p ∈ big) (T : Top topProg loose mean mg mb h₀) (C : CodeHd base 241 237)
    (hk : cs.kind = .function) (hd : dp + d < 1000) (hu : un + u < 9900)
    (ret : ∀ r news' h' tk', Fr h₀ L h' m → News h₀ L h' news' → Post r news' → Q r { s with heap := h', toks := tk' }) :
    wpAny (model PySem.Challenge.rw_kz0002_01.row.toRowW.prog w) (topA dp un gd (envX cn cs L a ccd cl) outer) (PySem.call (.ref f) vs) Q E s :=
  t _ _ _ _ _ _ _ _ _ _ _ _ _ _ _ _ _ _ _ _ _ ⟨B, F, X, News.less N hs, T, C⟩ hk hd hu ret
end

/-- within BaseNode.__init__: the children yet to be told -/
def KidsK (w : World) (H R : List (Addr × Obj)) (a b c e : Addr × Obj) (d0 : Addr) (vs' : List Value) (n' : List (Addr × Obj)) : Prop := ∃ R', n' = a :: b :: c :: e :: (H ++ R') ∧
  Keeps w (H ++ R) R R' ∧ (∀ v ∈ vs', ∃ d ls, TreeIn w R' d v ls) ∧ (∀ p ∈ H, ∀ q ∈ R', p.1 ≠ q.1) ∧ ∀ p ∈ R', @LT.lt Nat _ p.1 d0
/-- a leaf made -/
def LeafPost (w : World) (v : Str) (l c : Int) (pv : Str) (news : List (Addr × Obj)) (r : Value) (news' : List (Addr × Obj)) : Prop := ∃ x d t1 t2 t3 t4 t5 tv tl tc tpv n, r = .ref x ∧
  news' = (x, instObj 180 d) :: (d, dictOf (leafEs w t1 t2 t3 t4 t5 v tv l tl c tc (.str pv tpv) .none) n) :: news ∧ (∀ p ∈ news, @LT.lt Nat _ p.1 d) ∧ @LT.lt Nat _ d x
/-- a node made over C -/
def NodePost (w : World) (C : Addr) (H R : List (Addr × Obj)) (r : Value) (news' : List (Addr × Obj)) : Prop := ∃ x d R' t1 t2 t3 yv n, r = .ref x ∧ news' = (x, instObj 280 d) :: (d, dictOf (nodeEs w t1 t2 t3 (.ref C) .none yv) n) :: (H ++ R') ∧
  Keeps w (H ++ R) R R' ∧ (∀ p ∈ H ++ R, @LT.lt Nat _ p.1 d) ∧ @LT.lt Nat _ d x
end Mine
end

section
open PySem PySem.W PyProof.Rows
set_option Elab.async false
set_option maxRecDepth 100000
namespace Mine
example : (PySem.Challenge.rw_kz0002_01 = PySem.Challenge.rw_kz0002_01) ∧ (Mine.hd.heap_39 = Mine.hd.heap_39) := by k_fill; exact ⟨rfl, rfl⟩

local macro_rules | `(tactic| k_room) => `(tactic| ((try simp only [depth_mark, depth_under_make, depth_under_kw, depth_in1, depth_deeper, depth_caller]); (try dsimp only [topA]); (try simp only [recursionLimit]); omega))
local macro_rules | `(tactic| k_units) => `(tactic| ((try simp only [units_in1, units_deeper, Around.mark_units, units_caller]); (try dsimp only [topA]); (try simp only [cLine]); omega))
local macro_rules | `(tactic| k_mem) => `(tactic| assumption)
local macro_rules | `(tactic| ktr_enter) => `(tactic| (refine' code_defC ?k1 ?k2 ?k3 ?k4 ?k5 ?kA ?kF ?kK ?k6 ?k7 ?k8 ?k9 ?kB ?kD ?_ ?c2 ?c3 ?c4; (case kA => exact rfl); (case kF => exact rfl); (case kK => assumption); (case k1 => k_asm); (case k2 => k_asm); (case k3 => k_asm); (case k4 => k_asm); (case k5 => k_asm); (case k6 => k_is); (case k7 => k_is); (case k8 => k_room); (case k9 => first | exact BindsTo.of_eq rfl | exact binds_K (by k_in) rfl (by k_is) rfl rfl rfl | fail "k_enter: no rule for these arguments"); (case kB => exact rfl); (case kD => decide +kernel); (case c2 => exact rfl); (case c3 => exact rfl); (case c4 => exact rfl); k_whole; intro g' L' h' tk' cells' FG' F' N' Y' B' X' T' l1; (try k_lt l1); k_cells Y'; (try simp only [List.cons_append, List.nil_append] at N'); (try dsimp only); (try k_fold)))
local macro_rules | `(tactic| ktr_enter) => `(tactic| (refine' code_def ?k1 ?k2 ?k3 ?k4 ?k5 ?kA ?kF ?kK ?k6 ?k7 ?k8 ?k9 ?kB ?_ ?c2 ?c3 ?c4 ?c5; (case kA => exact rfl); (case kF => exact rfl); (case kK => first | exact rfl | assumption); (case k1 => k_asm); (case k2 => k_asm); (case k3 => k_asm); (case k4 => k_asm); (case k5 => k_asm); (case k6 => k_is); (case k7 => k_is); (case k8 => k_room); (case k9 => first | exact BindsTo.of_eq rfl | exact binds_K (by k_in) rfl (by k_is) rfl rfl rfl); (case c5 => decide); (case kB => exact locs rfl); (case c2 => exact rfl); (case c3 => exact rfl); (case c4 => exact rfl); k_whole; intro g' L' h' FG' F' N' B' X' T'; (try dsimp only); (try k_fold)))
local macro_rules | `(tactic| k_enter) => `(tactic| ktr_enter)

local macro_rules | `(tactic| k_all) => `(tactic| assumption)
local macro_rules | `(tactic| ks_enter) => `(tactic| (refine' ks_code_super ?k1 ?k2 ?k3 ?k4 ?k5 ?kA ?kF ?kK ?k6 ?k7 ?k8 ?k9 ?kB ?_ ?c1 ?c2 ?c3 ?c4; (case kA => exact rfl); (case kF => exact rfl); (case kK => first | exact rfl | assumption); (case k1 => k_asm); (case k2 => k_asm); (case k3 => k_asm); (case k4 => k_asm); (case k5 => k_asm); (case k6 => k_is); (case k7 => k_is); (case k8 => k_room); (case k9 => exact BindsTo.of_eq rfl); (case kB => exact locs rfl); (case c1 => decide); (case c2 => exact rfl); (case c3 => exact rfl); (case c4 => exact rfl); intro g' L' h' FG' F' N' B' X' T' l1; (try k_lt l1); (try dsimp only); (try k_lift B')))
local macro_rules | `(tactic| walk_at "pyIter ref") => `(tactic| refine stop_here ?_)
local macro_rules | `(tactic| walk_at "call ref") => `(tactic| ((with_reducible show wpAny _ _ (call (Value.ref 280) _) _ _ _); k_dflt (refine' call_cls ?k1 ?k2 ?k3 ?k4 ?k5 ?k6 ?_; (case k1 => k_asm); (case k2 => k_asm); (case k3 => k_asm); (case k4 => k_is); (case k5 => k_is); (case k6 => k_is); intro x' d' h' F' N' l1 l2; (try k_lt l1); (try k_lt2 l2); ks_enter)))
local macro_rules | `(tactic| walk_at "exec For Name Name cons nil") => `(tactic| ((rename Fr _ _ _ _ => lF'); (with_unfolding_all refine' For_invVF lF' ?k1 ?k2 ?_; (case k1 => exact rfl); (case k2 => exact rfl))))
local macro_rules | `(tactic| walk_at "setAttr") => `(tactic| refine stop_here ?_)
local macro_rules | `(tactic| walk_at "UnrEnd") => `(tactic| refine stop_here ?_)
set_option maxHeartbeats 8000000 in
theorem node_make {w : World} {C : Addr} {vs : List Value} {nc : Nat} {ty : Tok} {H R : List (Addr × Obj)} (hC : (C, listOf vs.toArray nc) ∈ H) (hv : ∀ v ∈ vs, ∃ d ls, TreeIn w R d v ls) (hH : ∀ p ∈ H, ∀ q ∈ R, p.1 ≠ q.1) :
    TellW w 280 [.str (Str.ofString "expr") ty, .ref C] (H ++ R) 20 100 (NodePost w C H R) := by
  unfold TellW
  intro dp un gd cn cs L a ccd cl outer A₀ base h₀ m loose mean mg mb s Q E At0 hk hd hu ret
  obtain ⟨B, F, X, N, T, Cd⟩ := At0
  have hC' : (C, listOf vs.toArray nc) ∈ H ++ R := List.mem_append_left _ hC
  generalize hR0 : H ++ R = R0 at N hC' ret
  k_steps
  rename_i x0 d0 hA FA NA lA lA2 gB LB hB FGB FB NB BB XB TB lB so hCC FC NC lC q hD FD ND lD gE LE hE FGE BE XE TE hF hG FF NF
  subst hR0
  refine Stop.go (iter_listUnr (lo := listOf vs.toArray nc) (vs := vs) (by rfl) FF NF (by k_mem) rfl rfl ?_)
  intro I lI
  have d0x : @LT.lt Nat _ d0 x0 := lA2
  have xso : @LT.lt Nat _ x0 so := lC.1
  have soq : @LT.lt Nat _ so q := lD.1
  have qI : @LT.lt Nat _ q I := lI _ (.head _)
  have Rd : ∀ p ∈ H ++ R, @LT.lt Nat _ p.1 d0 := lA
  refine ListRest.invM (K := KidsK w H R _ _ _ _ d0) ?step ?done ⟨R, rfl, Keeps.refl, hv, hH, fun p hp => Rd p (List.mem_append_right _ hp)⟩
  case step =>
    rintro v r news ⟨R', rfl, k1, k2, k3, k4⟩ it hh tk hit F' N'
    obtain ⟨dv, lsv, tv⟩ := k2 v (.head _)
    have N2 := N'
    generalize hR1 : H ++ R' = R1 at N'
    k_steps
    refine Stop.go (set_parent (H := (I, it) :: _ :: _ :: _ :: _ :: H) (R := R') (by k_asm) (by k_asm) (by subst hR1; k_asm) tv ?_ ?_)
    · intro p hp p2 hp2
      have h4 : @LT.lt Nat _ p2.1 d0 := k4 p2 hp2
      simp only [List.mem_cons] at hp
      rcases hp with rfl | rfl | rfl | rfl | rfl | hp
      · intro (e : @Eq Nat I p2.1); omega
      · intro (e : @Eq Nat q p2.1); omega
      · intro (e : @Eq Nat so p2.1); omega
      · intro (e : @Eq Nat x0 p2.1); omega
      · intro (e : @Eq Nat d0 p2.1); omega
      · exact k3 p hp p2 hp2
    intro h2 R2 F2 N2' K2
    k_steps
    have Kt : Keeps w (H ++ R) R R2 := k1.trans (K2 (H ++ R)) fun q hq => ⟨q, hq, rfl⟩
    have ad : ∀ p ∈ R2, ∃ q ∈ R', q.1 = p.1 := fun p hp => by
      rcases (K2 ((p.1, listOf #[] 0) :: R')).addr p hp with h | h
      · exact h
      · exact absurd (h _ (.head _)) (Nat.lt_irrefl _)
    refine Stop.go (UnrEnd.intro F2 N2' (_ :: _ :: _ :: _ :: (H ++ R2)) (fun p hp => hp) ?_ ⟨?_, rfl, R2, rfl, Kt, ?_, ?_, ?_⟩)
    · intro p hp (e : @Eq Nat p.1 I)
      simp only [List.mem_cons, List.mem_append] at hp
      rcases hp with rfl | rfl | rfl | rfl | hp | hp
      · have e : @Eq Nat q I := e; omega
      · have e : @Eq Nat so I := e; omega
      · have e : @Eq Nat x0 I := e; omega
      · have e : @Eq Nat d0 I := e; omega
      · have := Rd p (List.mem_append_left _ hp); omega
      · obtain ⟨p', hp', e'⟩ := ad p hp
        have h4 : @LT.lt Nat _ p'.1 d0 := k4 p' hp'
        have e' : @Eq Nat p'.1 p.1 := e'
        omega
    · exact .tail _ (.tail _ (.tail _ (.tail _ (List.mem_append_left _ (by assumption)))))
    · intro v' hv'
      obtain ⟨d', ls', t'⟩ := k2 v' (.tail _ hv')
      exact ⟨d', ls', t'.keeps (K2 [])⟩
    · intro p hp p2 hp2
      obtain ⟨p', hp', e'⟩ := ad p2 hp2
      rw [← e']
      exact k3 p hp p' hp'
    · intro p2 hp2
      obtain ⟨p', hp', e'⟩ := ad p2 hp2
      rw [← e']
      exact k4 p' hp'
  case done =>
    rintro cv news ⟨R', rfl, k1, k2, k3, k4⟩ hh tk F' N'
    have hn : ∀ p ∈ H ++ R', p.1 ≠ d0 := by
      intro p hp e
      rcases List.mem_append.mp hp with hp | hp
      · have h1 := Rd p (List.mem_append_left _ hp); rw [e] at h1; exact Nat.lt_irrefl _ h1
      · have h1 := k4 p hp; rw [e] at h1; exact Nat.lt_irrefl _ h1
    generalize hR1 : H ++ R' = R1 at N' hn
    k_steps
    rename_i Tc1 kX1 hZ FZ NZ kF kN Tc2 kX2
    subst hR1
    exact ret _ _ _ _ kF (News.less kN fun p hp => by
      simp only [List.mem_cons] at hp
      rcases hp with rfl | rfl | h
      · exact .tail _ (.tail _ (.head _))
      · exact .tail _ (.tail _ (.tail _ (.head _)))
      · exact .tail _ (.tail _ (.tail _ (.tail _ h)))) ⟨x0, d0, R', _, _, _, _, _, rfl, rfl, k1, Rd, lA2⟩
end Mine
end

section
open PySem PySem.W PyProof.Rows
set_option Elab.async false
set_option maxRecDepth 100000
namespace Mine
example : (PySem.Challenge.rw_kz0002_01 = PySem.Challenge.rw_kz0002_01) ∧ (Mine.hd.heap_39 = Mine.hd.heap_39) := by k_fill; exact ⟨rfl, rfl⟩

local macro_rules | `(tactic| k_room) => `(tactic| ((try simp only [depth_mark, depth_under_make, depth_under_kw, depth_in1, depth_deeper, depth_caller]); (try dsimp only [topA]); (try simp only [recursionLimit]); omega))
local macro_rules | `(tactic| k_units) => `(tactic| ((try simp only [units_in1, units_deeper, Around.mark_units, units_caller]); (try dsimp only [topA]); (try simp only [cLine]); omega))
local macro_rules | `(tactic| k_mem) => `(tactic| assumption)
local macro_rules | `(tactic| ktr_enter) => `(tactic| (refine' code_defC ?k1 ?k2 ?k3 ?k4 ?k5 ?kA ?kF ?kK ?k6 ?k7 ?k8 ?k9 ?kB ?kD ?_ ?c2 ?c3 ?c4; (case kA => exact rfl); (case kF => exact rfl); (case kK => assumption); (case k1 => k_asm); (case k2 => k_asm); (case k3 => k_asm); (case k4 => k_asm); (case k5 => k_asm); (case k6 => k_is); (case k7 => k_is); (case k8 => k_room); (case k9 => first | exact BindsTo.of_eq rfl | exact binds_K (by k_in) rfl (by k_is) rfl rfl rfl | fail "k_enter: no rule for these arguments"); (case kB => exact rfl); (case kD => decide +kernel); (case c2 => exact rfl); (case c3 => exact rfl); (case c4 => exact rfl); k_whole; intro g' L' h' tk' cells' FG' F' N' Y' B' X' T' l1; (try k_lt l1); k_cells Y'; (try simp only [List.cons_append, List.nil_append] at N'); (try dsimp only); (try k_fold)))
local macro_rules | `(tactic| ktr_enter) => `(tactic| (refine' code_def ?k1 ?k2 ?k3 ?k4 ?k5 ?kA ?kF ?kK ?k6 ?k7 ?k8 ?k9 ?kB ?_ ?c2 ?c3 ?c4 ?c5; (case kA => exact rfl); (case kF => exact rfl); (case kK => first | exact rfl | assumption); (case k1 => k_asm); (case k2 => k_asm); (case k3 => k_asm); (case k4 => k_asm); (case k5 => k_asm); (case k6 => k_is); (case k7 => k_is); (case k8 => k_room); (case k9 => first | exact BindsTo.of_eq rfl | exact binds_K (by k_in) rfl (by k_is) rfl rfl rfl); (case c5 => decide); (case kB => exact locs rfl); (case c2 => exact rfl); (case c3 => exact rfl); (case c4 => exact rfl); k_whole; intro g' L' h' FG' F' N' B' X' T'; (try dsimp only); (try k_fold)))
local macro_rules | `(tactic| k_enter) => `(tactic| ktr_enter)

local macro_rules | `(tactic| walk_at "call ref") => `(tactic| ((with_reducible show wpAny _ _ (call (Value.ref 180) _) _ _ _); k_dflt (refine' call_cls ?k1 ?k2 ?k3 ?k4 ?k5 ?k6 ?_; (case k1 => k_asm); (case k2 => k_asm); (case k3 => k_asm); (case k4 => k_is); (case k5 => k_is); (case k6 => k_is); intro x' d' h' F' N' l1 l2; (try k_lt l1); (try k_lt2 l2); k_enter)))
set_option maxHeartbeats 8000000 in
theorem leaf_make {w : World} {x : Addr} {v pv : Str} {tv tpv tl tc : Tok} {l c : Int} {news : List (Addr × Obj)} (hx : (x, tup2 l tl c tc) ∈ news) :
    TellW w 180 [.str v tv, .ref x, .str pv tpv] news 20 100 (LeafPost w v l c pv news) := by
  unfold TellW
  intro dp un gd cn cs L a ccd cl outer A₀ base h₀ m loose mean mg mb s Q E At0 hk hd hu ret
  obtain ⟨B, F, X, N, T, Cd⟩ := At0
  k_steps
  (rename News _ _ _ _ => kN)
  (rename Fr _ _ _ _ => kF)
  exact ret _ _ _ _ kF kN ⟨_, _, _, _, _, _, _, _, _, _, _, _, rfl, rfl, by assumption, by assumption⟩
end Mine
end

section
open PySem PySem.W PyProof.Rows
set_option Elab.async false
set_option maxRecDepth 100000
namespace Mine

structure Ids where
  P : Addr
  Lv : Addr
  En : Addr
  Nd : Addr
structure Sta where
  pool : List Value
  lv : List Value
  en : List Value
  nd : List Value
  np : Nat
  nl : Nat
  ne : Nat
  nn : Nat
/-- the ledger of a growing tree: the four lists, those that callers hold, the rest -/
def led (i : Ids) (st : Sta) (muts rest : List (Addr × Obj)) : List (Addr × Obj) :=
  (i.P, listOf st.pool.toArray st.np) :: (i.Lv, listOf st.lv.toArray st.nl) :: (i.En, listOf st.en.toArray st.ne) :: (i.Nd, listOf st.nd.toArray st.nn) :: (muts ++ rest)
structure OffA (i : Ids) (a : Addr) : Prop where
  p : @Ne Nat a i.P
  l : @Ne Nat a i.Lv
  e : @Ne Nat a i.En
  n : @Ne Nat a i.Nd
structure Off (i : Ids) (muts rest : List (Addr × Obj)) : Prop where
  pl : @Ne Nat i.P i.Lv
  pe : @Ne Nat i.P i.En
  pn : @Ne Nat i.P i.Nd
  le : @Ne Nat i.Lv i.En
  ln : @Ne Nat i.Lv i.Nd
  en : @Ne Nat i.En i.Nd
  m : ∀ p ∈ muts, OffA i p.1
  r : ∀ p ∈ rest, OffA i p.1
  x : ∀ p ∈ muts, ∀ q ∈ rest, @Ne Nat p.1 q.1
section
variable {w : World} {i : Ids} {st : Sta} {muts rest : List (Addr × Obj)}
theorem led_P : (i.P, listOf st.pool.toArray st.np) ∈ led i st muts rest := .head _
theorem led_Lv : (i.Lv, listOf st.lv.toArray st.nl) ∈ led i st muts rest := .tail _ (.head _)
theorem led_En : (i.En, listOf st.en.toArray st.ne) ∈ led i st muts rest := .tail _ (.tail _ (.head _))
theorem led_Nd : (i.Nd, listOf st.nd.toArray st.nn) ∈ led i st muts rest := .tail _ (.tail _ (.tail _ (.head _)))
theorem led_m {p : Addr × Obj} (h : p ∈ muts) : p ∈ led i st muts rest := .tail _ (.tail _ (.tail _ (.tail _ (List.mem_append_left _ h))))
theorem led_r {p : Addr × Obj} (h : p ∈ rest) : p ∈ led i st muts rest := .tail _ (.tail _ (.tail _ (.tail _ (List.mem_append_right _ h))))
theorem led_cases {p : Addr × Obj} (h : p ∈ led i st muts rest) : p = (i.P, listOf st.pool.toArray st.np) ∨ p = (i.Lv, listOf st.lv.toArray st.nl) ∨ p = (i.En, listOf st.en.toArray st.ne) ∨ p = (i.Nd, listOf st.nd.toArray st.nn) ∨ p ∈ muts ∨ p ∈ rest := by
  unfold led at h
  simpa only [List.mem_cons, List.mem_append] using h
/-- more in the rest -/
theorem led_more {new : List (Addr × Obj)} : ∀ p ∈ led i st muts (new ++ rest), p ∈ new ++ led i st muts rest := fun p hp => by
  rcases led_cases hp with rfl | rfl | rfl | rfl | h | h
  · exact List.mem_append_right _ led_P
  · exact List.mem_append_right _ led_Lv
  · exact List.mem_append_right _ led_En
  · exact List.mem_append_right _ led_Nd
  · exact List.mem_append_right _ (led_m h)
  · rcases List.mem_append.mp h with h | h
    · exact List.mem_append_left _ h
    · exact List.mem_append_right _ (led_r h)
theorem Off.more {new : List (Addr × Obj)} (o : Off i muts rest) (h : ∀ p ∈ new, ∀ q ∈ led i st muts rest, @LT.lt Nat _ q.1 p.1) : Off i muts (new ++ rest) := by
  refine { o with r := fun p hp => ?_, x := fun p hp q hq => ?_ }
  · rcases List.mem_append.mp hp with hp | hp
    · exact ⟨Nat.ne_of_gt (h p hp _ led_P), Nat.ne_of_gt (h p hp _ led_Lv), Nat.ne_of_gt (h p hp _ led_En), Nat.ne_of_gt (h p hp _ led_Nd)⟩
    · exact o.r p hp
  · rcases List.mem_append.mp hq with hq | hq
    · exact Nat.ne_of_lt (h q hq p (led_m hp))
    · exact o.x p hp q hq
theorem Off.keeps {rest' : List (Addr × Obj)} (o : Off i muts rest) (k : Keeps w (led i st muts rest) rest rest') : Off i muts rest' := by
  refine { o with r := fun p hp => ?_, x := fun p hp q hq => ?_ }
  · rcases k.addr p hp with ⟨q, hq, e⟩ | h
    · rw [← e]; exact o.r q hq
    · exact ⟨Nat.ne_of_gt (h _ led_P), Nat.ne_of_gt (h _ led_Lv), Nat.ne_of_gt (h _ led_En), Nat.ne_of_gt (h _ led_Nd)⟩
  · rcases k.addr q hq with ⟨q', hq', e⟩ | h
    · rw [← e]; exact o.x p hp q' hq'
    · exact Nat.ne_of_lt (h _ (led_m hp))
end

section
variable {prog : Program} {w : World} {A : Around} {E : Value → Shared → Prop} {s : Shared} {L : Addr} {h₀ : Heap} {m : Str → Option Value} {i : Ids} {st : Sta} {muts rest : List (Addr × Obj)} {x y : Value} {Q : Value → Shared → Prop}
theorem push_l {l : List Value} {x : Value} : l.toArray.push x = (l ++ [x]).toArray := by simp
theorem led_appL (F : Fr h₀ L s.heap m) (N : News h₀ L s.heap (led i st muts rest)) (o : Off i muts rest) (hz : st.lv.length ≤ 1000)
    (h : ∀ h', Fr h₀ L h' m → News h₀ L h' (led i { st with lv := st.lv ++ [x], nl := st.nl + 1 } muts rest) → Q .none { s with heap := h' }) : wpAny (model prog w) A (call (.builtin "list.append") [.ref i.Lv, x]) Q E s := by
  refine append_K F N (its := st.lv.toArray) (.tail o.pl (.head ?_)) (fun h' F' N' => h h' F' ?_) (by rw [List.size_toArray]; exact Nat.le_trans hz (by decide))
  · intro p hp
    simp only [List.mem_cons, List.mem_append] at hp
    rcases hp with rfl | rfl | hp | hp
    · exact o.le.symm
    · exact o.ln.symm
    · exact (o.m p hp).l
    · exact (o.r p hp).l
  · rw [push_l] at N'; exact N'
theorem led_appE (F : Fr h₀ L s.heap m) (N : News h₀ L s.heap (led i st muts rest)) (o : Off i muts rest) (hz : st.en.length ≤ 1001)
    (h : ∀ h', Fr h₀ L h' m → News h₀ L h' (led i { st with en := st.en ++ [x], ne := st.ne + 1 } muts rest) → Q .none { s with heap := h' }) : wpAny (model prog w) A (call (.builtin "list.append") [.ref i.En, x]) Q E s := by
  refine append_K F N (its := st.en.toArray) (.tail o.pe (.tail o.le (.head ?_))) (fun h' F' N' => h h' F' ?_) (by rw [List.size_toArray]; exact Nat.le_trans hz (by decide))
  · intro p hp
    simp only [List.mem_cons, List.mem_append] at hp
    rcases hp with rfl | hp | hp
    · exact o.en.symm
    · exact (o.m p hp).e
    · exact (o.r p hp).e
  · rw [push_l] at N'; exact N'
theorem led_appN (F : Fr h₀ L s.heap m) (N : News h₀ L s.heap (led i st muts rest)) (o : Off i muts rest) (hz : st.nd.length ≤ 1000)
    (h : ∀ h', Fr h₀ L h' m → News h₀ L h' (led i { st with nd := st.nd ++ [x], nn := st.nn + 1 } muts rest) → Q .none { s with heap := h' }) : wpAny (model prog w) A (call (.builtin "list.append") [.ref i.Nd, x]) Q E s := by
  refine append_K F N (its := st.nd.toArray) (.tail o.pn (.tail o.ln (.tail o.en (.head ?_)))) (fun h' F' N' => h h' F' ?_) (by rw [List.size_toArray]; exact Nat.le_trans hz (by decide))
  · intro p hp
    rcases List.mem_append.mp hp with hp | hp
    · exact (o.m p hp).n
    · exact (o.r p hp).n
  · rw [push_l] at N'; exact N'
/-- the children's list, first of the callers' -/
theorem led_appC {C : Addr} {cs : List Value} {nc : Nat} (F : Fr h₀ L s.heap m) (N : News h₀ L s.heap (led i st ((C, listOf cs.toArray nc) :: muts) rest)) (o : Off i ((C, listOf cs.toArray nc) :: muts) rest) (om : ∀ p ∈ muts, @Ne Nat p.1 C) (hz : cs.length ≤ 1000)
    (h : ∀ h', Fr h₀ L h' m → News h₀ L h' (led i st ((C, listOf (cs ++ [x]).toArray (nc + 1)) :: muts) rest) → Q .none { s with heap := h' }) : wpAny (model prog w) A (call (.builtin "list.append") [.ref C, x]) Q E s := by
  have oc := o.m _ (.head _)
  refine append_K F N (its := cs.toArray) (.tail oc.p.symm (.tail oc.l.symm (.tail oc.e.symm (.tail oc.n.symm (.head ?_))))) (fun h' F' N' => h h' F' ?_) (by rw [List.size_toArray]; exact Nat.le_trans hz (by decide))
  · intro p hp
    have hp : p ∈ muts ++ rest := hp
    rcases List.mem_append.mp hp with hp | hp
    · exact om p hp
    · exact (o.x _ (.head _) p hp).symm
  · rw [push_l] at N'; exact N'
theorem kl_last_app {ps : List Value} {y : Value} : kl_last (ps ++ [y]) = some (ps, y) := by
  induction ps with
  | nil => rfl
  | cons a r ih =>
    show (match kl_last (r ++ [y]) with | some (p, y) => some (a :: p, y) | none => some ([], a)) = _
    rw [ih]
theorem led_pop {ps : List Value} (F : Fr h₀ L s.heap m) (N : News h₀ L s.heap (led i st muts rest)) (o : Off i muts rest) (e : st.pool = ps ++ [y]) (hz : st.pool.length ≤ 1000)
    (h : ∀ h', Fr h₀ L h' m → News h₀ L h' (led i { st with pool := ps, np := st.np + 1 } muts rest) → Q y { s with heap := h' }) : wpAny (model prog w) A (call (.builtin "list.pop") [.ref i.P]) Q E s := by
  refine kl_pop F N (its := st.pool.toArray) (p := ps) (y := y) (by rw [e]; exact kl_last_app) (.head ?_) (Nat.le_trans hz (by decide)) (fun h' F' N' => h h' F' N')
  intro p hp
  simp only [List.mem_cons, List.mem_append] at hp
  rcases hp with rfl | rfl | rfl | hp | hp
  · exact o.pl.symm
  · exact o.pe.symm
  · exact o.pn.symm
  · exact (o.m p hp).p
  · exact (o.r p hp).p
end

def endAt (ls : List LeafR) : Nat → Int × Int
  | 0 => (1, 0)
  | k + 1 => match ls[k]? with
    | some a => a.en
    | none => (0, 0)
theorem endAt_succ {ls : List LeafR} {k : Nat} : endAt ls (k + 1) = match ls[k]? with | some a => a.en | none => (0, 0) := rfl
theorem endAt_app {ls r : List LeafR} {k : Nat} (h : k ≤ ls.length) : endAt (ls ++ r) k = endAt ls k := by
  cases k with
  | zero => rfl
  | succ k => rw [endAt_succ, endAt_succ, List.getElem?_append_left (by omega)]
theorem endAt_new {ls : List LeafR} {a : LeafR} : endAt (ls ++ [a]) (ls.length + 1) = a.en := by
  unfold endAt; simp
/-- a tuple of a node, and of which leaves it has -/
abbrev tup3 (x : Addr) (lo : Int) (t1 : Tok) (hi : Int) (t2 : Tok) : Obj := { cls := .type "tuple", data := .seq #[.ref x, .int lo t1, .int hi t2] }
def NdOk (w : World) (rest : List (Addr × Obj)) (ls : List LeafR) (v : Value) : Prop := ∃ a x dx t1 t2 d pre mid post, v = .ref a ∧ (a, tup3 x (pre.length : Nat) t1 ((pre.length + mid.length : Nat)) t2) ∈ rest ∧ (x, instObj 280 dx) ∈ rest ∧
  ls = pre ++ mid ++ post ∧ TreeIn w rest d (.ref x) mid ∧ d ≤ 4
structure St (w : World) (rest : List (Addr × Obj)) (st : Sta) (ls : List LeafR) : Prop where
  pool : ∀ v ∈ st.pool, ∃ i t, v = .int i t
  poolN : st.pool.length ≤ 100
  lv : st.lv = ls.map fun a => .ref a.ref
  enl : st.en.length = ls.length + 1
  en : ∀ k v, st.en[k]? = some v → ∃ a ta tb, v = .ref a ∧ (a, tup2 (endAt ls k).1 ta (endAt ls k).2 tb) ∈ rest
  tr : ∀ a ∈ ls, TreeIn w rest 0 (.ref a.ref) [a]
  ord : Ord ls
  one : leP (1, 0) (endAt ls ls.length) = true
  nd : ∀ v ∈ st.nd, NdOk w rest ls v
theorem not_dict_tuple {a : Array Value} : (⟨.type "tuple", none, .seq a 0, #[]⟩ : Obj).cls ≠ .type "dict" := by intro e; exact absurd (Value.type.inj e) (by decide)
theorem NdOk.keeps {w : World} {l rest rest' : List (Addr × Obj)} {ls : List LeafR} {v : Value} (h : NdOk w rest ls v) (k : Keeps w l rest rest') : NdOk w rest' ls v := by
  obtain ⟨a, x, dx, t1, t2, d, pre, mid, post, rfl, h1, h2, h3, h4, h5⟩ := h
  exact ⟨a, x, dx, t1, t2, d, pre, mid, post, rfl, k.flat _ h1 not_dict_tuple, k.flat _ h2 (by intro e; cases e), h3, h4.keeps k, h5⟩
theorem NdOk.more {w : World} {rest : List (Addr × Obj)} {ls r : List LeafR} {v : Value} (h : NdOk w rest ls v) : NdOk w rest (ls ++ r) v := by
  obtain ⟨a, x, dx, t1, t2, d, pre, mid, post, rfl, h1, h2, h3, h4, h5⟩ := h
  exact ⟨a, x, dx, t1, t2, d, pre, mid, post ++ r, rfl, h1, h2, by rw [h3]; simp only [List.append_assoc], h4, h5⟩
theorem St.keeps {w : World} {l rest rest' : List (Addr × Obj)} {st : Sta} {ls : List LeafR} (h : St w rest st ls) (k : Keeps w l rest rest') : St w rest' st ls :=
  { h with
    en := fun j v hj => let ⟨a, ta, tb, e, hm⟩ := h.en j v hj; ⟨a, ta, tb, e, k.flat _ hm not_dict_tuple⟩
    tr := fun a ha => (h.tr a ha).keeps k
    nd := fun v hv => (h.nd v hv).keeps k }
theorem St.addLeaf {w : World} {rest : List (Addr × Obj)} {st : Sta} {ls : List LeafR} {a : LeafR} {e : Addr} {ta tb : Tok} {p1 p2 : Nat} (h : St w rest st ls) (ht : TreeIn w rest 0 (.ref a.ref) [a]) (he : (e, tup2 a.en.1 ta a.en.2 tb) ∈ rest) (h1 : leP (endAt ls ls.length) a.st = true) (h2 : leP a.st a.en = true) :
    St w rest { st with lv := st.lv ++ [.ref a.ref], nl := p1, en := st.en ++ [.ref e], ne := p2 } (ls ++ [a]) where
  pool := h.pool
  poolN := h.poolN
  lv := by simp [h.lv]
  enl := by simp [h.enl]
  en := by
    intro k v hk
    dsimp only at hk
    by_cases hlt : k < st.en.length
    · rw [List.getElem?_append_left hlt] at hk
      obtain ⟨a', ta', tb', e1, hm⟩ := h.en k v hk
      rw [endAt_app (by have := h.enl; omega)]
      exact ⟨a', ta', tb', e1, hm⟩
    · rw [List.getElem?_append_right (by omega)] at hk
      have hk0 : k = ls.length + 1 := by
        have h3 := (List.getElem?_eq_some_iff.mp hk).1
        have := h.enl
        simp only [List.length_singleton] at h3
        omega
      have e0 : k - st.en.length = 0 := by have := h.enl; omega
      rw [e0] at hk
      obtain rfl := Option.some.inj hk
      rw [hk0, endAt_new]
      exact ⟨e, ta, tb, rfl, he⟩
  tr := fun b hb => by
    rcases List.mem_append.mp hb with hb | hb
    · exact h.tr b hb
    · rw [List.mem_singleton.mp hb]; exact ht
  ord := by
    refine ⟨fun b hb => ?_, List.pairwise_append.mpr ⟨h.ord.next, List.pairwise_singleton _ _, fun b hb c hc => ?_⟩⟩
    · rcases List.mem_append.mp hb with hb | hb
      · exact h.ord.own b hb
      · rw [List.mem_singleton.mp hb]; exact h2
    · rw [List.mem_singleton.mp hc]
      refine leP_trans (h.ord.le_last b hb) ?_
      have hne : ls ≠ [] := fun e => by rw [e] at hb; cases hb
      obtain ⟨z, hz⟩ := exists_last hne
      rw [lastEn_of hz]
      have : endAt ls ls.length = z.en := by
        rw [List.getLast?_eq_getElem?] at hz
        cases hl : ls.length with
        | zero => exact absurd (List.length_eq_zero_iff.mp hl) hne
        | succ k =>
          rw [hl] at hz
          rw [endAt_succ]
          have hz' : ls[k]? = some z := hz
          rw [hz']
      rw [← this]; exact h1
  one := by rw [List.length_append, List.length_singleton, endAt_new]; exact leP_trans (leP_trans h.one h1) h2
  nd := fun v hv => (h.nd v hv).more
theorem adv_le {l c : Int} {t : Str} (ht : t ∈ texts) : leP (l, c) (advL l t, advC c t) = true := by
  have h := (rep_short t ht).2.2.2.1
  rw [leP_iff]
  unfold advL advC
  dsimp only
  by_cases h1 : (linesT t).length = 1
  · rw [if_pos h1]; right; omega
  · rw [if_neg h1]; left; omega

/-- what a growth hands back -/
def GrowPost (w : World) (i : Ids) (st : Sta) (muts rest : List (Addr × Obj)) (deep : Nat) (ls : List LeafR) (r : Value) (news' : List (Addr × Obj)) : Prop :=
  ∃ st' rest' lsn x dx, news' = led i st' muts rest' ∧ r = .ref x ∧ Keeps w (led i st muts rest) rest rest' ∧ St w rest' st' (ls ++ lsn) ∧ TreeIn w rest' deep r lsn ∧
    ((x, instObj 180 dx) ∈ rest' ∧ lsn.length = 1 ∨ (x, instObj 280 dx) ∈ rest' ∧ st'.nd ≠ []) ∧ lsn.length ≤ 4 ^ deep ∧ st'.nd.length ≤ st.nd.length + 4 ^ deep
theorem cut_at {M : Model} {A : Around} {α : Type} {E : Value → Shared → Prop} {s : Shared} {t : Sem α} {Q : α → Shared → Prop} {g : Heap} {L : Addr} {m : Str → Option Value} (_F : Fr g L s.heap m) (P : (Str → Option Value) → α → Shared → Prop)
    (a : wpAny M A t (P m) E s) (b : ∀ v s', P m v s' → Q v s') : wpAny M A t Q E s := wpAny_mono a b fun _ _ e => e
def NumPost (w : World) (i : Ids) (st : Sta) (muts rest : List (Addr × Obj)) (ls : List LeafR) (g : Heap) (L : Addr) (m : Str → Option Value) (s : Shared) (v : Value) (s' : Shared) : Prop :=
  ∃ z tz st' h' tk', v = .int z tz ∧ s' = { s with heap := h', toks := tk' } ∧ Fr g L h' m ∧ News g L h' (led i st' muts rest) ∧ St w rest st' ls ∧ st'.nd = st.nd
def TestPost (R : List (Addr × Obj)) (deep : Nat) (g : Heap) (L : Addr) (m : Str → Option Value) (s : Shared) (b : Bool) (s' : Shared) : Prop :=
  ∃ h' tk', s' = { s with heap := h', toks := tk' } ∧ Fr g L h' m ∧ News g L h' R ∧ (b = false → deep ≠ 0)
theorem lt_led {i : Ids} {st st' : Sta} {muts rest : List (Addr × Obj)} {a : Addr} (h : ∀ q ∈ led i st muts rest, @LT.lt Nat _ q.1 a) : ∀ q ∈ led i st' muts rest, @LT.lt Nat _ q.1 a := fun q hq => by
  rcases led_cases hq with rfl | rfl | rfl | rfl | hq | hq
  · exact h (i.P, listOf st.pool.toArray st.np) led_P
  · exact h (i.Lv, listOf st.lv.toArray st.nl) led_Lv
  · exact h (i.En, listOf st.en.toArray st.ne) led_En
  · exact h (i.Nd, listOf st.nd.toArray st.nn) led_Nd
  · exact h _ (led_m hq)
  · exact h _ (led_r hq)
theorem led_two {h₀ h : Heap} {L : Addr} {i : Ids} {st : Sta} {muts rest : List (Addr × Obj)} {a b : Addr × Obj} (N : News h₀ L h (a :: b :: led i st muts rest)) : ∃ nw, nw = [a, b] ∧ News h₀ L h (led i st muts (nw ++ rest)) :=
  ⟨_, rfl, News.less N led_more⟩
theorem led_one {h₀ h : Heap} {L : Addr} {i : Ids} {st : Sta} {muts rest : List (Addr × Obj)} {a : Addr × Obj} (N : News h₀ L h (a :: led i st muts rest)) : ∃ nw, nw = [a] ∧ News h₀ L h (led i st muts (nw ++ rest)) :=
  ⟨_, rfl, News.less N led_more⟩
theorem led_grow {i : Ids} {st : Sta} {muts rest rest' : List (Addr × Obj)} (h : ∀ p ∈ rest, p ∈ rest') : ∀ q ∈ led i st muts rest, q ∈ led i st muts rest' := fun q hq => by
  rcases led_cases hq with rfl | rfl | rfl | rfl | hq | hq
  · exact led_P
  · exact led_Lv
  · exact led_En
  · exact led_Nd
  · exact led_m hq
  · exact led_r (h _ hq)
theorem Off.swap {i : Ids} {C : Addr} {o o' : Obj} {muts rest : List (Addr × Obj)} (h : Off i ((C, o) :: muts) rest) : Off i ((C, o') :: muts) rest :=
  { h with
    m := fun p hp => by
      rcases List.mem_cons.mp hp with rfl | hp
      · exact h.m (C, o) (.head _)
      · exact h.m p (.tail _ hp)
    x := fun p hp => by
      rcases List.mem_cons.mp hp with rfl | hp
      · exact h.x (C, o) (.head _)
      · exact h.x p (.tail _ hp) }
theorem Off.drop {i : Ids} {p : Addr × Obj} {muts rest : List (Addr × Obj)} (h : Off i (p :: muts) rest) : Off i muts rest :=
  { h with
    m := fun p hp => h.m p (.tail _ hp)
    x := fun p hp => h.x p (.tail _ hp) }
theorem Off.addC {i : Ids} {st : Sta} {C : Addr} {o : Obj} {muts rest : List (Addr × Obj)} (h : Off i muts rest) (hC : ∀ q ∈ led i st muts rest, @LT.lt Nat _ q.1 C) : Off i ((C, o) :: muts) rest :=
  { h with
    m := fun p hp => by
      rcases List.mem_cons.mp hp with rfl | hp
      · exact ⟨Nat.ne_of_gt (hC _ led_P), Nat.ne_of_gt (hC _ led_Lv), Nat.ne_of_gt (hC _ led_En), Nat.ne_of_gt (hC _ led_Nd)⟩
      · exact h.m p hp
    x := fun p hp q hq => by
      rcases List.mem_cons.mp hp with rfl | hp
      · exact Nat.ne_of_gt (hC q (led_r hq))
      · exact h.x p hp q hq }
/-- the children that a node has so far -/
structure Kids (w : World) (i : Ids) (st : Sta) (muts rest : List (Addr × Obj)) (ls : List LeafR) (C : Addr) (d : Nat) (k : Nat) (st' : Sta) (rest' : List (Addr × Obj)) (cs : List Value) (lss : List (List LeafR)) : Prop where
  keep : Keeps w (led i st muts rest) rest rest'
  sta : St w rest' st' (ls ++ lss.flatten)
  off : ∀ o, Off i ((C, o) :: muts) rest'
  new : ∀ p ∈ muts, @Ne Nat p.1 C
  lc : cs.length = k
  ll : lss.length = k
  tr : ∀ (j : Nat) (v : Value) (l : List LeafR), cs[j]? = some v → lss[j]? = some l → TreeIn w rest' d v l
  nl : lss.flatten.length ≤ k * 4 ^ d
  nn : st'.nd.length ≤ st.nd.length + k * 4 ^ d
/-- every entry of the ledger at the start has its like later -/
theorem led_addr {w : World} {i : Ids} {st st' : Sta} {muts more rest rest' : List (Addr × Obj)} {l : List (Addr × Obj)} (k : Keeps w l rest rest') : ∀ q ∈ led i st muts rest, ∃ q' ∈ led i st' (more ++ muts) rest', q'.1 = q.1 := fun q hq => by
  rcases led_cases hq with rfl | rfl | rfl | rfl | hq | hq
  · exact ⟨_, led_P, rfl⟩
  · exact ⟨_, led_Lv, rfl⟩
  · exact ⟨_, led_En, rfl⟩
  · exact ⟨_, led_Nd, rfl⟩
  · exact ⟨q, led_m (List.mem_append_right _ hq), rfl⟩
  · obtain ⟨q', hq', e⟩ := k.kept q hq
    exact ⟨q', led_r hq', e⟩
theorem Kids.step {w : World} {i : Ids} {st st' st'' : Sta} {muts rest rest' rest'' : List (Addr × Obj)} {ls lsn : List LeafR} {C : Addr} {d k : Nat} {cs : List Value} {lss : List (List LeafR)} {r : Value} {o : Obj} (h : Kids w i st muts rest ls C d k st' rest' cs lss)
    (k2 : Keeps w (led i st' ((C, o) :: muts) rest') rest' rest'') (s2 : St w rest'' st'' ((ls ++ lss.flatten) ++ lsn)) (t2 : TreeIn w rest'' d r lsn) (l2 : lsn.length ≤ 4 ^ d) (n2 : st''.nd.length ≤ st'.nd.length + 4 ^ d) :
    Kids w i st muts rest ls C d (k + 1) st'' rest'' (cs ++ [r]) (lss ++ [lsn]) where
  keep := h.keep.trans k2 (led_addr (more := [(C, o)]) h.keep)
  sta := by rw [List.flatten_append, List.flatten_singleton, ← List.append_assoc]; exact s2
  off := fun o' => ((h.off o).keeps k2).swap
  new := h.new
  lc := by rw [List.length_append, h.lc]; rfl
  ll := by rw [List.length_append, h.ll]; rfl
  tr := fun j v l hv hl => by
    by_cases hj : j < k
    · rw [List.getElem?_append_left (by rw [h.lc]; exact hj)] at hv
      rw [List.getElem?_append_left (by rw [h.ll]; exact hj)] at hl
      exact (h.tr j v l hv hl).keeps k2
    · have hj2 : j = k := by
        have := (List.getElem?_eq_some_iff.mp hv).1
        rw [List.length_append, h.lc] at this
        simp only [List.length_singleton] at this
        omega
      subst hj2
      have h1 := h.lc
      have h2 := h.ll
      rw [List.getElem?_append_right (by omega), h1, Nat.sub_self] at hv
      rw [List.getElem?_append_right (by omega), h2, Nat.sub_self] at hl
      obtain rfl := Option.some.inj hv
      obtain rfl := Option.some.inj hl
      exact t2
  nl := by
    rw [List.flatten_append, List.flatten_singleton, List.length_append, Nat.add_mul, Nat.one_mul]
    exact Nat.add_le_add h.nl l2
  nn := by
    rw [Nat.add_mul, Nat.one_mul]
    have := h.nn
    omega
theorem Kids.zero {w : World} {i : Ids} {st st1 : Sta} {muts rest : List (Addr × Obj)} {ls : List LeafR} {C : Addr} {d : Nat} (s1 : St w rest st1 ls) (e : st1.nd = st.nd) (o : ∀ o, Off i ((C, o) :: muts) rest) (hC : ∀ p ∈ muts, @Ne Nat p.1 C) :
    Kids w i st muts rest ls C d 0 st1 rest [] [] where
  keep := .refl
  sta := by simpa using s1
  off := o
  new := hC
  lc := rfl
  ll := rfl
  tr := fun j v l hv => by cases hv
  nl := by simp
  nn := by rw [e]; omega
theorem Keeps.led {w : World} {l l' R R' : List (Addr × Obj)} (k : Keeps w l R R') (h : ∀ q ∈ l', ∃ q' ∈ l, q'.1 = q.1) : Keeps w l' R R' :=
  { k with addr := fun p hp => (k.addr p hp).imp id fun z q hq => let ⟨q', hq', e⟩ := h q hq; e ▸ z q' hq' }
theorem Off.perm {i : Ids} {a b : Addr × Obj} {muts rest : List (Addr × Obj)} (h : Off i (a :: b :: muts) rest) : Off i (b :: a :: muts) rest :=
  { h with
    m := fun p hp => h.m p (by simp only [List.mem_cons] at hp ⊢; rcases hp with h | h | h <;> simp only [h, true_or, or_true])
    x := fun p hp => h.x p (by simp only [List.mem_cons] at hp ⊢; rcases hp with h | h | h <;> simp only [h, true_or, or_true]) }
section
variable {i : Ids} {st : Sta} {a b : Addr × Obj} {a' : Obj} {muts rest l : List (Addr × Obj)}
/-- one of the callers' entries set ahead -/
theorem led_out2 : ∀ p ∈ led i st (a :: b :: muts) rest, p ∈ b :: led i st (a :: muts) rest := fun p hp => by
  rcases led_cases hp with rfl | rfl | rfl | rfl | hp | hp
  · exact .tail _ led_P
  · exact .tail _ led_Lv
  · exact .tail _ led_En
  · exact .tail _ led_Nd
  · rcases List.mem_cons.mp hp with rfl | hp
    · exact .tail _ (led_m (.head _))
    · rcases List.mem_cons.mp hp with rfl | hp
      · exact .head _
      · exact .tail _ (led_m (.tail _ hp))
  · exact .tail _ (led_r hp)
theorem led_in2 : ∀ p ∈ b :: led i st (a :: muts) rest, p ∈ led i st (a :: b :: muts) rest := fun p hp => by
  rcases List.mem_cons.mp hp with rfl | hp
  · exact led_m (.tail _ (.head _))
  · rcases led_cases hp with rfl | rfl | rfl | rfl | hp | hp
    · exact led_P
    · exact led_Lv
    · exact led_En
    · exact led_Nd
    · rcases List.mem_cons.mp hp with rfl | hp
      · exact led_m (.head _)
      · exact led_m (.tail _ (.tail _ hp))
    · exact led_r hp
theorem led_out1 : ∀ p ∈ led i st (a :: muts) rest, p ∈ a :: led i st muts rest := fun p hp => by
  rcases led_cases hp with rfl | rfl | rfl | rfl | hp | hp
  · exact .tail _ led_P
  · exact .tail _ led_Lv
  · exact .tail _ led_En
  · exact .tail _ led_Nd
  · rcases List.mem_cons.mp hp with rfl | hp
    · exact .head _
    · exact .tail _ (led_m hp)
  · exact .tail _ (led_r hp)
theorem led_tail : ∀ p ∈ led i st muts rest, p ∈ led i st (a :: muts) rest := fun p hp => by
  rcases led_cases hp with rfl | rfl | rfl | rfl | hp | hp
  · exact led_P
  · exact led_Lv
  · exact led_En
  · exact led_Nd
  · exact led_m (.tail _ hp)
  · exact led_r hp
end
/-- the state of the loop that makes a node's children: I the iterator -/
def GrowK (w : World) (i : Ids) (st : Sta) (muts rest : List (Addr × Obj)) (ls : List LeafR) (C I : Addr) (d : Nat) (k : Nat) (news : List (Addr × Obj)) : Prop :=
  ∃ st' rest' cs lss nc, news = led i st' ((C, listOf cs.toArray nc) :: muts) rest' ∧ Kids w i st ((I, listOf #[] 0) :: muts) rest ls C d k st' rest' cs lss

section
variable {prog : Program} {w : World} {A : Around} {E : Value → Shared → Prop} {s : Shared} {env : Env} {h₀ : Heap} {x : Str} {body : List Stmt} {Q : Flow → Shared → Prop} {I : Addr} {lp : Addr × Obj}
theorem RangeRest.invM {M : Str → Option Value} {a : Int} {n : Nat} {K : Nat → List (Addr × Obj) → Prop}
    (step : ∀ i news, i < n → K i news → ∀ t h tk, Fr h₀ env.locals h (fun y => if y = x then some (.int (a + (i : Int)) t) else M y) →
      News h₀ env.locals h ((I, itR (a + ((i + 1 : Nat) : Int)) ((n : Int) - ((i + 1 : Nat) : Int))) :: news) →
      wpAny (model prog w) A (execs body env) (UnrPost h₀ env.locals { s with heap := h, toks := tk } I (itR (a + ((i + 1 : Nat) : Int)) ((n : Int) - ((i + 1 : Nat) : Int))) (fun m' n' => (∃ cv, m' = fun y => if y = x then cv else M y) ∧ K (i + 1) n') Q) E { s with heap := h, toks := tk })
    (done : ∀ cv news, K n news → ∀ h tk, Fr h₀ env.locals h (fun y => if y = x then cv else M y) → News h₀ env.locals h news → Q .next { s with heap := h, toks := tk }) {news : List (Addr × Obj)} (hK : K 0 news) :
    RangeRest prog w A E h₀ env x body Q s I a n n 0 M news := by
  refine RangeRest.inv (J := fun k i m' n' => (∃ cv, m' = fun y => if y = x then cv else M y) ∧ k + i = n ∧ K i n') ?_ ?_ n 0 M news ⟨⟨M x, ?_⟩, rfl, hK⟩
  · rintro k i m news ⟨⟨cv, rfl⟩, hk, hK⟩ t h tk F N
    have e : (fun y => if y = x then some (.int (a + (i : Int)) t) else if y = x then cv else M y) = fun y => if y = x then some (.int (a + (i : Int)) t) else M y := by
      funext y; by_cases h : y = x <;> simp [h]
    rw [e] at F
    exact wpAny_mono (step i news (by omega) hK t h tk F N) (fun f s₂ p => UnrPost.mono p fun m' n' hh => ⟨hh.1, by omega, hh.2⟩) fun _ _ e => e
  · rintro i m news ⟨⟨cv, rfl⟩, hk, hK⟩ h tk F N
    have : i = n := by omega
    subst this
    exact done cv news hK h tk F N
  · funext y; by_cases h : y = x <;> simp [h]
end
theorem led_sw {i : Ids} {st : Sta} {a : Addr × Obj} {I : Addr} {o o' : Obj} {muts rest : List (Addr × Obj)} : ∀ q ∈ led i st (a :: (I, o) :: muts) rest, ∃ q' ∈ led i st (a :: (I, o') :: muts) rest, q'.1 = q.1 := fun q hq => by
  rcases led_cases hq with rfl | rfl | rfl | rfl | hq | hq
  · exact ⟨_, led_P, rfl⟩
  · exact ⟨_, led_Lv, rfl⟩
  · exact ⟨_, led_En, rfl⟩
  · exact ⟨_, led_Nd, rfl⟩
  · rcases List.mem_cons.mp hq with rfl | hq
    · exact ⟨_, led_m (.head _), rfl⟩
    · rcases List.mem_cons.mp hq with rfl | hq
      · exact ⟨_, led_m (.tail _ (.head _)), rfl⟩
      · exact ⟨_, led_m (.tail _ (.tail _ hq)), rfl⟩
  · exact ⟨q, led_r hq, rfl⟩
abbrev ledH (i : Ids) (st : Sta) (muts : List (Addr × Obj)) : List (Addr × Obj) :=
  (i.P, listOf st.pool.toArray st.np) :: (i.Lv, listOf st.lv.toArray st.nl) :: (i.En, listOf st.en.toArray st.ne) :: (i.Nd, listOf st.nd.toArray st.nn) :: muts
theorem Off.sep {i : Ids} {st : Sta} {muts rest : List (Addr × Obj)} (o : Off i muts rest) : ∀ p ∈ ledH i st muts, ∀ q ∈ rest, p.1 ≠ q.1 := fun p hp q hq => by
  simp only [ledH, List.mem_cons] at hp
  have h := o.r q hq
  rcases hp with rfl | rfl | rfl | rfl | hp
  · exact h.p.symm
  · exact h.l.symm
  · exact h.e.symm
  · exact h.n.symm
  · exact o.x p hp q hq
theorem led_node {h₀ h : Heap} {L : Addr} {i : Ids} {st : Sta} {muts rest : List (Addr × Obj)} {a b c : Addr × Obj} (N : News h₀ L h (a :: b :: (ledH i st (c :: muts) ++ rest))) : ∃ nw, nw = [a, b, c] ∧ News h₀ L h (led i st muts (nw ++ rest)) :=
  ⟨_, rfl, News.less N fun p hp => by
    have h1 : ∀ q ∈ led i st (c :: muts) rest, q ∈ a :: b :: (ledH i st (c :: muts) ++ rest) := fun q hq => .tail _ (.tail _ hq)
    rcases led_cases hp with rfl | rfl | rfl | rfl | hp | hp
    · exact h1 _ led_P
    · exact h1 _ led_Lv
    · exact h1 _ led_En
    · exact h1 _ led_Nd
    · exact h1 _ (led_m (.tail _ hp))
    · simp only [List.cons_append, List.nil_append, List.mem_cons] at hp
      rcases hp with rfl | rfl | rfl | hp
      · exact .head _
      · exact .tail _ (.head _)
      · exact h1 _ (led_m (.head _))
      · exact h1 _ (led_r hp)⟩
theorem Off.node {i : Ids} {st : Sta} {C : Addr} {oc : Obj} {a b : Addr × Obj} {muts rest : List (Addr × Obj)} (o : Off i ((C, oc) :: muts) rest) (om : ∀ p ∈ muts, @Ne Nat p.1 C) (ha : ∀ q ∈ ledH i st muts, @LT.lt Nat _ q.1 a.1) (hb : ∀ q ∈ ledH i st muts, @LT.lt Nat _ q.1 b.1) : Off i muts ([a, b, (C, oc)] ++ rest) where
  pl := o.pl
  pe := o.pe
  pn := o.pn
  le := o.le
  ln := o.ln
  en := o.en
  m := fun p hp => o.m p (.tail _ hp)
  r := fun p hp => by
    simp only [List.cons_append, List.nil_append, List.mem_cons] at hp
    rcases hp with rfl | rfl | rfl | hp
    · exact ⟨Nat.ne_of_gt (ha _ (.head _)), Nat.ne_of_gt (ha _ (.tail _ (.head _))), Nat.ne_of_gt (ha _ (.tail _ (.tail _ (.head _)))), Nat.ne_of_gt (ha _ (.tail _ (.tail _ (.tail _ (.head _)))))⟩
    · exact ⟨Nat.ne_of_gt (hb _ (.head _)), Nat.ne_of_gt (hb _ (.tail _ (.head _))), Nat.ne_of_gt (hb _ (.tail _ (.tail _ (.head _)))), Nat.ne_of_gt (hb _ (.tail _ (.tail _ (.tail _ (.head _)))))⟩
    · exact o.m (C, oc) (.head _)
    · exact o.r p hp
  x := fun p hp q hq => by
    simp only [List.cons_append, List.nil_append, List.mem_cons] at hq
    rcases hq with rfl | rfl | rfl | hq
    · exact Nat.ne_of_lt (ha p (.tail _ (.tail _ (.tail _ (.tail _ hp)))))
    · exact Nat.ne_of_lt (hb p (.tail _ (.tail _ (.tail _ (.tail _ hp)))))
    · exact om p hp
    · exact o.x p (.tail _ hp) q hq
theorem St.addNode {w : World} {rest : List (Addr × Obj)} {st : Sta} {ls : List LeafR} {v : Value} {p1 : Nat} (h : St w rest st ls) (hv : NdOk w rest ls v) : St w rest { st with nd := st.nd ++ [v], nn := p1 } ls :=
  { h with
    nd := fun u hu => by
      rcases List.mem_append.mp hu with hu | hu
      · exact h.nd u hu
      · rw [List.mem_singleton.mp hu]; exact hv }
theorem Kids.each {w : World} {i : Ids} {st st' : Sta} {muts rest rest' : List (Addr × Obj)} {ls : List LeafR} {C : Addr} {d k : Nat} {cs : List Value} {lss : List (List LeafR)} (h : Kids w i st muts rest ls C d k st' rest' cs lss) : ∀ v ∈ cs, ∃ d ls, TreeIn w rest' d v ls := fun v hv => by
  obtain ⟨j, hj⟩ := List.getElem?_of_mem hv
  have hlt := (List.getElem?_eq_some_iff.mp hj).1
  have h1 := h.lc
  have h2 := h.ll
  have hl : j < lss.length := by omega
  exact ⟨d, lss[j], h.tr j v _ hj (List.getElem?_eq_getElem hl)⟩
end Mine
end

section
open PySem PySem.W PyProof.Rows
set_option Elab.async false
set_option maxRecDepth 100000
namespace Mine
example : (PySem.Challenge.rw_kz0002_01 = PySem.Challenge.rw_kz0002_01) ∧ (Mine.hd.heap_39 = Mine.hd.heap_39) := by k_fill; exact ⟨rfl, rfl⟩

local macro_rules | `(tactic| k_room) => `(tactic| ((try simp only [depth_mark, depth_under_make, depth_under_kw, depth_in1, depth_deeper, depth_caller]); (try dsimp only [topA]); (try simp only [recursionLimit]); omega))
local macro_rules | `(tactic| k_units) => `(tactic| ((try simp only [units_in1, units_deeper, Around.mark_units, units_caller]); (try dsimp only [topA]); (try simp only [cLine]); omega))
local macro_rules | `(tactic| k_mem) => `(tactic| assumption)
local macro_rules | `(tactic| ktr_enter) => `(tactic| (refine' code_defC ?k1 ?k2 ?k3 ?k4 ?k5 ?kA ?kF ?kK ?k6 ?k7 ?k8 ?k9 ?kB ?kD ?_ ?c2 ?c3 ?c4; (case kA => exact rfl); (case kF => exact rfl); (case kK => assumption); (case k1 => k_asm); (case k2 => k_asm); (case k3 => k_asm); (case k4 => k_asm); (case k5 => k_asm); (case k6 => k_is); (case k7 => k_is); (case k8 => k_room); (case k9 => first | exact BindsTo.of_eq rfl | exact binds_K (by k_in) rfl (by k_is) rfl rfl rfl | fail "k_enter: no rule for these arguments"); (case kB => exact rfl); (case kD => decide +kernel); (case c2 => exact rfl); (case c3 => exact rfl); (case c4 => exact rfl); k_whole; intro g' L' h' tk' cells' FG' F' N' Y' B' X' T' l1; (try k_lt l1); k_cells Y'; (try simp only [List.cons_append, List.nil_append] at N'); (try dsimp only); (try k_fold)))
local macro_rules | `(tactic| ktr_enter) => `(tactic| (refine' code_def ?k1 ?k2 ?k3 ?k4 ?k5 ?kA ?kF ?kK ?k6 ?k7 ?k8 ?k9 ?kB ?_ ?c2 ?c3 ?c4 ?c5; (case kA => exact rfl); (case kF => exact rfl); (case kK => first | exact rfl | assumption); (case k1 => k_asm); (case k2 => k_asm); (case k3 => k_asm); (case k4 => k_asm); (case k5 => k_asm); (case k6 => k_is); (case k7 => k_is); (case k8 => k_room); (case k9 => first | exact BindsTo.of_eq rfl | exact binds_K (by k_in) rfl (by k_is) rfl rfl rfl); (case c5 => decide); (case kB => exact locs rfl); (case c2 => exact rfl); (case c3 => exact rfl); (case c4 => exact rfl); k_whole; intro g' L' h' FG' F' N' B' X' T'; (try dsimp only); (try k_fold)))
local macro_rules | `(tactic| k_enter) => `(tactic| ktr_enter)

local macro_rules | `(tactic| k_all) => `(tactic| assumption)
local macro_rules | `(tactic| walk_at "call ref") => `(tactic| refine stop_here ?_)
local macro_rules | `(tactic| walk_at "eval IfExp") => `(tactic| ((with_reducible show wpAny _ _ _ (fun v s₁ => wpAny _ _ (storeName _ _ v) _ _ s₁) _ _); refine stop_here ?_))
local macro_rules | `(tactic| walk_at "truthy ref") => `(tactic| refine stop_here ?_)
local macro_rules | `(tactic| walk_at "call builtin:list.pop") => `(tactic| refine stop_here ?_)
local macro_rules | `(tactic| walk_at "call builtin:list.append") => `(tactic| refine stop_here ?_)
local macro_rules | `(tactic| walk_at "call ref") => `(tactic| ((with_reducible show wpAny _ _ (call (Value.ref 289) _) _ _ _); k_dflt (refine wpAny_call ?_; ktr_enter)))
local macro_rules | `(tactic| walk_at "call ref") => `(tactic| ((with_reducible show wpAny _ _ (call (Value.ref 296) _) _ _ _); k_dflt (refine wpAny_call ?_; ktr_enter)))
local macro_rules | `(tactic| walk_at "subscriptTail Call BinOp ref int") => `(tactic| refine stop_here ?_)
local macro_rules | `(tactic| walk_at "call builtin:len cons nil") => `(tactic| refine stop_here ?_)
local macro_rules | `(tactic| walk_at "isTrue BoolOp") => `(tactic| ((with_reducible show wpAny _ _ (isTrue _ _ _) (fun b s₂ => if b = true then _ else _) _ _); refine stop_here ?_))
local macro_rules | `(tactic| walk_at "subscriptTail Name UnaryOp ref int") => `(tactic| refine stop_here ?_)
local macro_rules | `(tactic| walk_at "getAttr ref") => `(tactic| refine stop_here ?_)
local macro_rules | `(tactic| walk_at "pyIter ref") => `(tactic| refine stop_here ?_)
local macro_rules | `(tactic| walk_at "RangeRest") => `(tactic| refine stop_here ?_)
local macro_rules | `(tactic| walk_at "UnrEnd") => `(tactic| refine stop_here ?_)
local macro_rules | `(tactic| walk_at "call type:range") => `(tactic| refine stop_here ?_)
def Grow (w : World) (deep : Nat) : Prop := ∀ (i : Ids) (st : Sta) (muts rest : List (Addr × Obj)) (ls : List LeafR) (t : Tok), St w rest st ls → Off i muts rest → ls.length + 4 ^ deep ≤ 1000 → st.nd.length + 4 ^ deep ≤ 1000 →
  Tell w 310 [.ref i.P, .int (deep : Nat) t, .ref i.Lv, .ref i.En, .ref i.Nd] (led i st muts rest) (20 * deep + 40) (100 * deep + 300) (GrowPost w i st muts rest deep ls)
set_option maxHeartbeats 8000000 in
theorem grow_one {w : World} {deep : Nat} (hd3 : deep ≤ 3) (rec : ∀ d', deep = d' + 1 → Grow w d') : Grow w deep := by
  unfold Grow
  intro i st muts rest ls t S O hb1 hb2
  have h4p : 1 ≤ 4 ^ deep := Nat.pow_pos (by decide)
  unfold Tell
  intro dp un gd cn cs L a ccd cl outer A₀ base h₀ m loose mean mg mb s R At0 hk hd hu ret
  obtain ⟨B, F, X, N, T, Cd⟩ := At0
  generalize hR0 : led i st muts rest = R0 at N
  k_dflt ktr_enter
  k_steps
  rename_i g1 L1 h1 FG1 F1 N1 B1 X1 T1
  refine Stop.go (cut_at F1 (fun mm => NumPost w i st muts rest ls g1 L1 mm s) ?num ?go)
  case num =>
    subst hR0
    have hP := led_P (i := i) (st := st) (muts := muts) (rest := rest)
    have O' := O
    rcases List.eq_nil_or_concat st.pool with hp | ⟨ps, y, hp⟩
    · k_steps
      refine Stop.go (wpAny_truthy_list (News.isList N1 hP) (by rw [List.size_toArray, hp]; decide) ?_)
      rw [hp]
      k_steps
      exact ⟨_, _, st, h1, _, rfl, rfl, F1, N1, S, rfl⟩
    · have hp : st.pool = ps ++ [y] := by rw [hp, List.concat_eq_append]
      obtain ⟨z, tz, hy⟩ := S.pool y (by rw [hp]; exact List.mem_append_right _ (.head _))
      subst hy
      k_steps
      refine Stop.go (wpAny_truthy_list (News.isList N1 hP) (by rw [List.size_toArray]; have := S.poolN; omega) ?_)
      have e0 : (!st.pool.toArray.isEmpty) = true := by rw [hp]; simp
      rw [e0]
      k_steps
      refine Stop.go (led_pop F1 N1 O hp (Nat.le_trans S.poolN (by decide)) fun h2 F2 N2 => ?_)
      exact ⟨_, _, { st with pool := ps, np := st.np + 1 }, h2, _, rfl, rfl, F2, N2, { S with pool := fun v hv => S.pool v (by rw [hp]; exact List.mem_append_left _ hv), poolN := by have := S.poolN; rw [hp, List.length_append] at this; exact Nat.le_trans (Nat.le_add_right _ _) this }, rfl⟩
  case go =>
    rintro _ _ ⟨z, tz, st1, h2, tk2, rfl, rfl, F2, N2, S2, e2⟩
    have hP := led_P (i := i) (st := st1) (muts := muts) (rest := rest)
    have hLv := led_Lv (i := i) (st := st1) (muts := muts) (rest := rest)
    have hEn := led_En (i := i) (st := st1) (muts := muts) (rest := rest)
    have hNd := led_Nd (i := i) (st := st1) (muts := muts) (rest := rest)
    generalize hR2 : led i st1 muts rest = R2 at N2 hP hLv hEn hNd
    k_steps
    rename_i h3 F3 N3
    refine Stop.go (cut_at F3 (fun mm => TestPost R2 deep g1 L1 mm s) ?test ?go)
    case test =>
      k_steps
      · (rename News _ _ _ _ => kN)
        (rename Fr _ _ _ _ => kF)
        exact ⟨_, _, rfl, kF, kN, by first | (intro e; cases e; done) | (intro _ e; subst e; contradiction)⟩
      · (rename News _ _ _ _ => kN)
        (rename Fr _ _ _ _ => kF)
        exact ⟨_, _, rfl, kF, kN, by first | (intro e; cases e; done) | (intro _ e; subst e; contradiction)⟩
      · (rename News _ _ _ _ => kN)
        (rename Fr _ _ _ _ => kF)
        exact ⟨_, _, rfl, kF, kN, by first | (intro e; cases e; done) | (intro _ e; subst e; contradiction)⟩
    case go =>
    clear F3 N3
    rintro b _ ⟨h4, tk4, rfl, F4, N4, hb4⟩
    cases b with
    | true =>
      clear hb4
      k_steps
      (rename News _ _ _ _ => N5)
      (rename Fr _ _ _ _ => F5)
      replace N5 := News.less N5 (fun p (hp : p ∈ R2) => .tail _ (.tail _ (.tail _ hp)))
      generalize hv : List.getD _ ((z.fdiv 2).fmod 10).toNat _ = v at F5
      generalize hpv : List.getD _ ((z.fdiv 20).fmod 6).toNat _ = pv at F5
      have hv : v ∈ texts := by
        rw [← hv]
        (rename @LT.lt Nat _ ((z.fdiv 2).fmod 10).toNat _ => hk9)
        revert hk9
        generalize ((z.fdiv 2).fmod 10).toNat = k9
        revert k9
        decide +kernel
      have hpv : pv ∈ texts := by
        rw [← hpv]
        (rename @LT.lt Nat _ ((z.fdiv 20).fmod 6).toNat _ => hk9)
        revert hk9
        generalize ((z.fdiv 20).fmod 6).toNat = k9
        revert k9
        decide +kernel
      obtain ⟨e, te1, te2, hee, hem⟩ : ∃ e ta tb, st1.en[st1.en.length - 1]? = some (.ref e) ∧ (e, tup2 (endAt ls ls.length).1 ta (endAt ls ls.length).2 tb) ∈ rest := by
        have hn := S2.enl
        have hlt : st1.en.length - 1 < st1.en.length := by omega
        obtain ⟨a, ta, tb, e1, e2⟩ := S2.en _ _ (List.getElem?_eq_getElem hlt)
        have e3 : st1.en.length - 1 = ls.length := by omega
        rw [e3] at e2
        exact ⟨a, ta, tb, by rw [List.getElem?_eq_getElem hlt, e1], e2⟩
      refine Stop.go (lastL (News.isList N5 hEn) hee ?_)
      k_steps
      have hem' : (e, tup2 (endAt ls ls.length).1 te1 (endAt ls ls.length).2 te2) ∈ R2 := hR2 ▸ led_r hem
      refine Stop.go (Tell.callS (past_ hem' hpv) (by k_asm) (by k_asm) (by k_asm) N5 (fun p hp => hp) (by k_asm) (by k_asm) (by rfl) (by k_room) (by k_units) ?_)
      rintro _ _ h6 tk6 F6 N6 ⟨D6, ta6, tb6, rfl, rfl, l6⟩
      k_steps
      refine Stop.go (TellW.useS (leaf_make (.head _)) (by k_asm) (by k_asm) (by k_asm) N6 (fun p hp => hp) (by k_asm) (by k_asm) (by rfl) (by k_room) (by k_units) ?_)
      rintro _ _ h7 tk7 F7 N7 ⟨x7, d7, u1, u2, u3, u4, u5, uv, ul, uc, up, n7, rfl, rfl, lA7, lB7⟩
      have hA7 : ∀ p ∈ R2, @LT.lt Nat _ p.1 D6 := fun p hp => tb_ltOf l6 p hp
      subst hR2
      generalize hnew : [(x7, instObj 180 d7), (d7, dictOf (leafEs w u1 u2 u3 u4 u5 v uv (advL (endAt ls ls.length).1 pv) ul (advC (endAt ls ls.length).2 pv) uc (.str pv up) .none) n7), (D6, tup2 (advL (endAt ls ls.length).1 pv) ta6 (advC (endAt ls ls.length).2 pv) tb6)] = new
      have hnewlt : ∀ p ∈ new, ∀ q ∈ led i st1 muts rest, @LT.lt Nat _ q.1 p.1 := by
        intro p hp q hq
        have h1 := hA7 q hq
        have h2 : @LT.lt Nat _ D6 d7 := lA7 _ (.head _)
        subst hnew
        simp only [List.mem_cons, List.not_mem_nil, or_false] at hp
        rcases hp with rfl | rfl | rfl
        · exact Nat.lt_trans (Nat.lt_trans h1 h2) lB7
        · exact Nat.lt_trans h1 h2
        · exact h1
      have tree : ∀ d, TreeIn w new d (.ref x7) [⟨x7, (advL (endAt ls ls.length).1 pv, advC (endAt ls ls.length).2 pv), (advL (advL (endAt ls ls.length).1 pv) v, advC (advC (endAt ls ls.length).2 pv) v)⟩] := by
        intro d
        subst hnew
        exact .leaf (.head _) (.tail _ (.head _)) hv
      have hx7 : (x7, instObj 180 d7) ∈ new := by subst hnew; exact .head _
      replace N7 : News g1 L1 h7 (led i st1 muts (new ++ rest)) := News.less N7 (by subst hnew; exact led_more)
      clear hnew
      have hP7 := led_P (i := i) (st := st1) (muts := muts) (rest := (new ++ rest))
      have hLv7 := led_Lv (i := i) (st := st1) (muts := muts) (rest := (new ++ rest))
      have hEn7 := led_En (i := i) (st := st1) (muts := muts) (rest := (new ++ rest))
      have hNd7 := led_Nd (i := i) (st := st1) (muts := muts) (rest := (new ++ rest))
      generalize hR7 : led i st1 muts (new ++ rest) = R7 at N7 hP7 hLv7 hEn7 hNd7
      k_steps
      (rename News _ _ _ _ => N8)
      (rename Fr _ _ _ _ => F8)
      have O7 : Off i muts (new ++ rest) := O.more (st := st1) hnewlt
      subst hR7
      have hl1 : st1.lv.length = ls.length := by rw [S2.lv, List.length_map]
      refine Stop.go (led_appL F8 N8 O7 (by omega) fun h9 F9 N9 => ?_)
      generalize hs9 : ({ st1 with lv := st1.lv ++ [.ref x7], nl := st1.nl + 1 } : Sta) = st9 at N9
      clear hP7 hLv7 hEn7 hNd7 N8 F8
      have hP9 := led_P (i := i) (st := st9) (muts := muts) (rest := (new ++ rest))
      have hLv9 := led_Lv (i := i) (st := st9) (muts := muts) (rest := (new ++ rest))
      have hEn9 := led_En (i := i) (st := st9) (muts := muts) (rest := (new ++ rest))
      have hNd9 := led_Nd (i := i) (st := st9) (muts := muts) (rest := (new ++ rest))
      generalize hR9 : led i st9 muts (new ++ rest) = R9 at N9 hP9 hLv9 hEn9 hNd9
      k_steps
      have tree9 := (tree 0).mono (news' := R9) (fun p hp => hR9 ▸ led_r (List.mem_append_left _ hp))
      refine Stop.go (TellA.useS (attr_start 0 _ _ _ tree9 _ [] rfl) (by k_asm) (by k_asm) (by k_asm) N9 (fun p hp => hp) (by k_asm) (by k_asm) (by rfl) (by k_room) (by k_units) ?_)
      rintro _ _ h10 tk10 F10 N10 ⟨D10, ta10, tb10, rfl, rfl, l10⟩
      k_steps
      refine Stop.go (Tell.callS (past_ (.head _) hv) (by k_asm) (by k_asm) (by k_asm) N10 (fun p hp => hp) (by k_asm) (by k_asm) (by rfl) (by k_room) (by k_units) ?_)
      rintro _ _ h11 tk11 F11 N11 ⟨D11, ta11, tb11, rfl, rfl, l11⟩
      k_steps
      have hs9n : st9.nd = st1.nd := by subst hs9; rfl
      have hs9e : st9.en = st1.en := by subst hs9; rfl
      subst hR9
      have hlt10 : ∀ q ∈ led i st9 muts (new ++ rest), @LT.lt Nat _ q.1 D10 := fun q hq => tb_ltOf l10 q hq
      have hlt11 : @LT.lt Nat _ D10 D11 := tb_ltOf l11 _ (.head _)
      obtain ⟨nw, hnw, N12⟩ := led_two N11
      have hnwlt : ∀ p ∈ nw, ∀ q ∈ led i st9 muts (new ++ rest), @LT.lt Nat _ q.1 p.1 := by
        intro p hp q hq
        subst hnw
        simp only [List.mem_cons, List.not_mem_nil, or_false] at hp
        rcases hp with rfl | rfl
        · exact Nat.lt_trans (hlt10 q hq) hlt11
        · exact hlt10 q hq
      have hD11 := hnw ▸ List.mem_cons_self (a := (D11, _)) (l := [_])
      have O12 : Off i muts (nw ++ (new ++ rest)) := O7.more hnwlt
      refine Stop.go (led_appE F11 N12 O12 (by have := S2.enl; rw [hs9e]; omega) fun h13 F13 N13 => ?_)
      clear N11 N12 F11
      generalize hRf : led i { st9 with en := st9.en ++ [.ref D11], ne := st9.ne + 1 } muts (nw ++ (new ++ rest)) = Rf at N13
      k_steps
      (rename News _ _ _ _ => kN)
      (rename Fr _ _ _ _ => kF)
      have K1 : Keeps w (led i st muts rest) rest (nw ++ (new ++ rest)) := (Keeps.refl.more fun p hp => lt_led (hnewlt p hp)).more fun p hp => lt_led (st := st9) fun q hq => hnwlt p hp q (led_grow (fun p hp => List.mem_append_right _ hp) q hq)
      subst hRf hs9
      have SA := (S2.keeps K1).addLeaf (a := ⟨x7, (advL (endAt ls ls.length).1 pv, advC (endAt ls ls.length).2 pv), (advL (advL (endAt ls ls.length).1 pv) v, advC (advC (endAt ls ls.length).2 pv) v)⟩) (p1 := st1.nl + 1) (p2 := st1.ne + 1) (e := D11) (ta := ta11) (tb := tb11) ((tree 0).mono fun p hp => List.mem_append_right _ (List.mem_append_left _ hp)) (List.mem_append_left _ hD11) (adv_le hpv) (adv_le hv)
      refine ret _ _ _ _ kF kN ⟨_, _, [_], x7, d7, rfl, rfl, K1, SA, (tree deep).mono fun p hp => List.mem_append_right _ (List.mem_append_left _ hp), .inl ⟨List.mem_append_right _ (List.mem_append_left _ hx7), rfl⟩, h4p, ?_⟩
      show st1.nd.length ≤ _
      rw [e2]; omega
    | false =>
      have hb4 := hb4 rfl
      obtain ⟨d', rfl⟩ := Nat.exists_eq_succ_of_ne_zero hb4
      k_steps
      have hl1 : st1.lv.length = ls.length := by rw [S2.lv, List.length_map]
      have h4q : 4 ^ d'.succ = 4 ^ d' * 4 := Nat.pow_succ ..
      have h4r : 1 ≤ 4 ^ d' := Nat.pow_pos (by decide)
      (rename News _ _ _ _ => N5)
      refine Stop.go (len_list (News.isList N5 hLv) (by simp only [List.size_toArray]; omega) ?_)
      simp only [List.size_toArray]
      rw [hl1]
      k_steps
      (rename News _ _ _ _ => N6)
      (rename Fr _ _ _ _ => F6)
      rename_i hZ C hh1 lC D0 hh2 lD hh3 hh4 hh5
      obtain ⟨n, hn, hn1, hn3⟩ : ∃ n : Nat, 1 + (z.fdiv 2).fmod 3 = (n : Int) ∧ 1 ≤ n ∧ n ≤ 3 := by
        have e1 : (z.fdiv 2).fmod 3 = (z.fdiv 2) % 3 := Int.fmod_eq_emod_of_nonneg _ (by decide)
        refine ⟨(1 + (z.fdiv 2).fmod 3).toNat, ?_, ?_, ?_⟩ <;> rw [e1] <;> omega
      rw [hn]
      refine Stop.go (range1_rows F6 N6 fun hr tkr u1 u2 u3 IR Fr0 Nr0 kr => ?_)
      clear F6 N6 kr
      k_steps
      subst hR2
      replace Nr0 : News g1 L1 hr (led i st1 ((C, listOf #[] 0) :: muts) rest) := News.less Nr0 fun p hp => .tail _ (led_out1 p hp)
      have hsm : Builtin.Range.small 0 (n : Int) 1 = true := by
        have : n = 1 ∨ n = 2 ∨ n = 3 := by omega
        rcases this with rfl | rfl | rfl <;> decide
      have hsz : Builtin.Range.rangeSize 0 (n : Int) 1 = (n : Int) := by
        have : n = 1 ∨ n = 2 ∨ n = 3 := by omega
        rcases this with rfl | rfl | rfl <;> decide
      refine Stop.go (iter_rangeUnr (n := n) (by rfl) IR hsm hsz Fr0 Nr0 ?_)
      intro I lI
      have hCl : ∀ q ∈ led i st1 muts rest, @LT.lt Nat _ q.1 C := lC
      have hIl : ∀ q ∈ led i st1 ((C, listOf #[] 0) :: muts) rest, @LT.lt Nat _ q.1 I := lI
      have hCI : @LT.lt Nat _ C I := hIl _ (led_m (.head _))
      have KZ : Kids w i st ((I, listOf #[] 0) :: muts) rest ls C d' 0 st1 rest [] [] :=
        Kids.zero S2 e2 (fun o => ((O.addC (st := st1) (o := listOf #[] 0) hCl).addC (st := st1) hIl).perm.swap) fun p hp => by
          rcases List.mem_cons.mp hp with rfl | hp
          · exact Nat.ne_of_gt hCI
          · exact Nat.ne_of_lt (hCl p (led_m hp))
      refine RangeRest.invM (K := GrowK w i st muts rest ls C I d') ?step ?done ⟨st1, rest, [], [], 0, rfl, KZ⟩
      case step =>
        rintro j news hj ⟨st', rest', vs, lss, nc, rfl, KD⟩ t' h6 tk6 F6 N6
        replace N6 : News g1 L1 h6 (led i st' ((C, listOf vs.toArray nc) :: (I, itR (0 + ((j + 1 : Nat) : Int)) ((n : Int) - ((j + 1 : Nat) : Int))) :: muts) rest') := News.less N6 led_out2
        have O6 : Off i ((C, listOf vs.toArray nc) :: (I, itR (0 + ((j + 1 : Nat) : Int)) ((n : Int) - ((j + 1 : Nat) : Int))) :: muts) rest' := (KD.off (listOf vs.toArray nc)).perm.swap.perm
        have hP6 := led_P (i := i) (st := st') (muts := (C, listOf vs.toArray nc) :: (I, itR (0 + ((j + 1 : Nat) : Int)) ((n : Int) - ((j + 1 : Nat) : Int))) :: muts) (rest := rest')
        have hLv6 := led_Lv (i := i) (st := st') (muts := (C, listOf vs.toArray nc) :: (I, itR (0 + ((j + 1 : Nat) : Int)) ((n : Int) - ((j + 1 : Nat) : Int))) :: muts) (rest := rest')
        have hEn6 := led_En (i := i) (st := st') (muts := (C, listOf vs.toArray nc) :: (I, itR (0 + ((j + 1 : Nat) : Int)) ((n : Int) - ((j + 1 : Nat) : Int))) :: muts) (rest := rest')
        have hNd6 := led_Nd (i := i) (st := st') (muts := (C, listOf vs.toArray nc) :: (I, itR (0 + ((j + 1 : Nat) : Int)) ((n : Int) - ((j + 1 : Nat) : Int))) :: muts) (rest := rest')
        have hC6 := led_m (i := i) (st := st') (muts := (C, listOf vs.toArray nc) :: (I, itR (0 + ((j + 1 : Nat) : Int)) ((n : Int) - ((j + 1 : Nat) : Int))) :: muts) (rest := rest') (.head _)
        generalize hR6 : led i st' ((C, listOf vs.toArray nc) :: (I, itR (0 + ((j + 1 : Nat) : Int)) ((n : Int) - ((j + 1 : Nat) : Int))) :: muts) rest' = R6 at N6 hP6 hLv6 hEn6 hNd6 hC6
        k_steps
        (rename News _ _ _ _ => N7)
        subst hR6
        have hdeep : ((d'.succ : Nat) : Int) - 1 = (d' : Int) := by omega
        rw [hdeep]
        have hj2 : j * 4 ^ d' ≤ 2 * 4 ^ d' := Nat.mul_le_mul_right _ (by omega)
        have hb3 := KD.nl
        have hb4 := KD.nn
        refine Stop.go (Tell.callS (rec d' rfl i st' _ rest' (ls ++ lss.flatten) _ KD.sta O6 (by rw [List.length_append]; omega) (by omega)) (by k_asm) (by k_asm) (by k_asm) N7 (fun p hp => hp) (by k_asm) (by k_asm) (by rfl) (by k_room) (by k_units) ?_)
        rintro r _ h8 tk8 F8 N8 ⟨st2, rest2, lsn, x, dx, rfl, rfl, k2, s2, t2, c2, l2, n2⟩
        have O8 := O6.keeps k2
        clear N7
        have hP8 := led_P (i := i) (st := st2) (muts := (C, listOf vs.toArray nc) :: (I, itR (0 + ((j + 1 : Nat) : Int)) ((n : Int) - ((j + 1 : Nat) : Int))) :: muts) (rest := rest2)
        have hLv8 := led_Lv (i := i) (st := st2) (muts := (C, listOf vs.toArray nc) :: (I, itR (0 + ((j + 1 : Nat) : Int)) ((n : Int) - ((j + 1 : Nat) : Int))) :: muts) (rest := rest2)
        have hEn8 := led_En (i := i) (st := st2) (muts := (C, listOf vs.toArray nc) :: (I, itR (0 + ((j + 1 : Nat) : Int)) ((n : Int) - ((j + 1 : Nat) : Int))) :: muts) (rest := rest2)
        have hNd8 := led_Nd (i := i) (st := st2) (muts := (C, listOf vs.toArray nc) :: (I, itR (0 + ((j + 1 : Nat) : Int)) ((n : Int) - ((j + 1 : Nat) : Int))) :: muts) (rest := rest2)
        have hC8 := led_m (i := i) (st := st2) (muts := (C, listOf vs.toArray nc) :: (I, itR (0 + ((j + 1 : Nat) : Int)) ((n : Int) - ((j + 1 : Nat) : Int))) :: muts) (rest := rest2) (.head _)
        generalize hR8 : led i st2 ((C, listOf vs.toArray nc) :: (I, itR (0 + ((j + 1 : Nat) : Int)) ((n : Int) - ((j + 1 : Nat) : Int))) :: muts) rest2 = R8 at N8 hP8 hLv8 hEn8 hNd8 hC8
        k_steps
        (rename News _ _ _ _ => N9)
        (rename Fr _ _ _ _ => F9)
        subst hR8
        have hvs : vs.length ≤ 1000 := by have := KD.lc; omega
        have hnC : ∀ p ∈ (I, itR (0 + ((j + 1 : Nat) : Int)) ((n : Int) - ((j + 1 : Nat) : Int))) :: muts, @Ne Nat p.1 C := fun p hp => by
          rcases List.mem_cons.mp hp with rfl | hp
          · exact Nat.ne_of_gt hCI
          · exact KD.new p (.tail _ hp)
        refine Stop.go (led_appC F9 N9 O8 hnC hvs fun h10 F10 N10 => ?_)
        clear N9 F9
        generalize hR10 : led i st2 _ rest2 = R10 at N10
        k_steps
        (rename News _ _ _ _ => N11)
        (rename Fr _ _ _ _ => F11)
        subst hR10
        have KS := KD.step (o := listOf vs.toArray nc) (k2.led led_sw) s2 t2 l2 n2
        refine Stop.go (UnrEnd.intro F11 N11 (led i st2 ((C, listOf (List.toArray (vs ++ [Value.ref x])) (nc + 1)) :: muts) rest2) (fun p hp => led_in2 p hp) ?_ ⟨⟨_, rfl⟩, st2, rest2, _, _, _, rfl, KS⟩)
        intro p hp
        have hI8 := O8.m (I, itR (0 + ((j + 1 : Nat) : Int)) ((n : Int) - ((j + 1 : Nat) : Int))) (.tail _ (.head _))
        rcases led_cases hp with rfl | rfl | rfl | rfl | hp | hp
        · exact hI8.p.symm
        · exact hI8.l.symm
        · exact hI8.e.symm
        · exact hI8.n.symm
        · rcases List.mem_cons.mp hp with rfl | hp
          · exact Nat.ne_of_lt hCI
          · exact Nat.ne_of_lt (hIl p (led_m (.tail _ hp)))
        · exact (O8.x (I, itR (0 + ((j + 1 : Nat) : Int)) ((n : Int) - ((j + 1 : Nat) : Int))) (.tail _ (.head _)) p hp).symm
      case done =>
        rintro cv news ⟨st', rest', vs, lss, nc, rfl, KD⟩ h6 tk6 F6 N6
        have O6 : Off i ((C, listOf vs.toArray nc) :: muts) rest' := (KD.off (listOf vs.toArray nc)).perm.drop
        have hP6 := led_P (i := i) (st := st') (muts := (C, listOf vs.toArray nc) :: muts) (rest := rest')
        have hLv6 := led_Lv (i := i) (st := st') (muts := (C, listOf vs.toArray nc) :: muts) (rest := rest')
        have hEn6 := led_En (i := i) (st := st') (muts := (C, listOf vs.toArray nc) :: muts) (rest := rest')
        have hNd6 := led_Nd (i := i) (st := st') (muts := (C, listOf vs.toArray nc) :: muts) (rest := rest')
        have hC6 := led_m (i := i) (st := st') (muts := (C, listOf vs.toArray nc) :: muts) (rest := rest') (.head _)
        generalize hR6 : led i st' ((C, listOf vs.toArray nc) :: muts) rest' = R6 at N6 hP6 hLv6 hEn6 hNd6 hC6
        k_steps
        (rename News _ _ _ _ => N7)
        subst hR6
        have kA : Keeps w (led i st muts rest) rest rest' := KD.keep.led fun q hq => ⟨q, led_tail q hq, rfl⟩
        refine Stop.go (TellW.useS (node_make (H := ledH i st' ((C, listOf vs.toArray nc) :: muts)) (R := rest') (.tail _ (.tail _ (.tail _ (.tail _ (.head _))))) KD.each O6.sep) (by k_asm) (by k_asm) (by k_asm) N7 (fun p hp => hp) (by k_asm) (by k_asm) (by rfl) (by k_room) (by k_units) ?_)
        rintro _ _ h8 tk8 F8 N8 ⟨x, dx, R', t1, t2, t3, yv, n8, rfl, rfl, kk, hlt, hdx⟩
        clear N7
        have hltD : ∀ q ∈ led i st muts rest, @LT.lt Nat _ q.1 dx := fun q hq => by
          obtain ⟨q', hq', e⟩ := led_addr (st' := st') (more := [(C, listOf vs.toArray nc)]) kA q hq
          rw [← e]; exact hlt q' hq'
        have hltC : ∀ q ∈ led i st muts rest, @LT.lt Nat _ q.1 C := lt_led hCl
        have hH : ∀ q ∈ ledH i st' muts, @LT.lt Nat _ q.1 dx := fun q hq => hlt q (List.mem_append_left _ (by
          simp only [ledH, List.mem_cons] at hq ⊢
          rcases hq with h | h | h | h | h <;> simp only [h, true_or, or_true]))
        have O8a : Off i ((C, listOf vs.toArray nc) :: muts) R' := Off.keeps (st := st') O6 kk
        have O8b := Off.node (a := (x, instObj 280 dx)) (b := (dx, dictOf (nodeEs w t1 t2 t3 (.ref C) .none yv) n8)) O8a (fun p hp => KD.new p (.tail _ hp)) (fun q hq => Nat.lt_trans (hH q hq) hdx) hH
        obtain ⟨nw, hnw, N9⟩ := led_node N8
        clear N8
        have O9 : Off i muts (nw ++ R') := hnw ▸ O8b
        have kR : Keeps w [] rest' (nw ++ R') := (kk.led (l' := []) (fun q hq => by cases hq)).more (led := []) fun p hp q hq => by cases hq
        have kF : Keeps w (led i st muts rest) rest (nw ++ R') := (kA.trans kk (led_addr (st' := st') (more := [(C, listOf vs.toArray nc)]) kA)).more fun p hp q hq => by
          subst hnw
          simp only [List.mem_cons, List.not_mem_nil, or_false] at hp
          rcases hp with rfl | rfl | rfl
          · exact Nat.lt_trans (hltD q hq) hdx
          · exact hltD q hq
          · exact hltC q hq
        have hx9 : (x, instObj 280 dx) ∈ nw ++ R' := hnw ▸ List.mem_append_left _ (.head _)
        have hlc := KD.lc
        have hll := KD.ll
        have tree : TreeIn w (nw ++ R') (d' + 1) (.ref x) lss.flatten :=
          .node hx9 (hnw ▸ List.mem_append_left _ (.tail _ (.head _))) (hnw ▸ List.mem_append_left _ (.tail _ (.tail _ (.head _)))) (by omega) (by omega) (by omega) fun j v l hv hl => (KD.tr j v l hv hl).keeps kR
        have S9 := KD.sta.keeps kR
        clear hnw O8b
        have hP9 := led_P (i := i) (st := st') (muts := muts) (rest := (nw ++ R'))
        have hLv9 := led_Lv (i := i) (st := st') (muts := muts) (rest := (nw ++ R'))
        have hEn9 := led_En (i := i) (st := st') (muts := muts) (rest := (nw ++ R'))
        have hNd9 := led_Nd (i := i) (st := st') (muts := muts) (rest := (nw ++ R'))
        generalize hR9 : led i st' (muts) (nw ++ R') = R9 at N9 hP9 hLv9 hEn9 hNd9
        k_steps
        (rename News _ _ _ _ => N10)
        have hb3 := KD.nl
        have hb4 := KD.nn
        have hn2 : n * 4 ^ d' ≤ 3 * 4 ^ d' := Nat.mul_le_mul_right _ hn3
        have hl9 : st'.lv.length = ls.length + lss.flatten.length := by rw [S9.lv, List.length_map, List.length_append]
        refine Stop.go (len_list (News.isList N10 hLv9) (by simp only [List.size_toArray]; omega) ?_)
        simp only [List.size_toArray]
        rw [hl9]
        k_steps
        (rename News _ _ _ _ => N11)
        (rename Fr _ _ _ _ => F11)
        rename_i D1 hq1 lD1
        subst hR9
        obtain ⟨nv, hnv, N12⟩ := led_one N11
        clear N11
        have O12 : Off i muts (nv ++ (nw ++ R')) := O9.more (st := st') fun p hp q hq => by
          subst hnv
          rw [List.mem_singleton.mp hp]
          exact lD1 q hq
        have kF2 : Keeps w (led i st muts rest) rest (nv ++ (nw ++ R')) := kF.more fun p hp q hq => by
          subst hnv
          rw [List.mem_singleton.mp hp]
          obtain ⟨q', hq', e⟩ := led_addr (st' := st') (more := []) kF q hq
          rw [← e]; exact lD1 q' hq'
        have kR2 : Keeps w [] (nw ++ R') (nv ++ (nw ++ R')) := Keeps.refl.more (led := []) fun p hp q hq => by cases hq
        have tree2 := tree.keeps kR2
        have hx12 : (x, instObj 280 dx) ∈ nv ++ (nw ++ R') := List.mem_append_right _ hx9
        have ND : NdOk w (nv ++ (nw ++ R')) (ls ++ lss.flatten) (.ref D1) := ⟨D1, x, dx, _, _, d' + 1, ls, lss.flatten, [], rfl, hnv ▸ List.mem_append_left _ (.head _), hx12, by rw [List.append_nil], tree2, by omega⟩
        have SF := (S9.keeps kR2).addNode (p1 := st'.nn + 1) ND
        refine Stop.go (led_appN F11 N12 O12 (by omega) fun h13 F13 N13 => ?_)
        clear N12 F11
        generalize hRf : led i { st' with nd := st'.nd ++ [.ref D1], nn := st'.nn + 1 } muts (nv ++ (nw ++ R')) = Rf at N13
        k_steps
        (rename News _ _ _ _ => kN)
        (rename Fr _ _ _ _ => kFr)
        subst hRf
        refine ret _ _ _ _ kFr kN ⟨_, _, _, x, dx, rfl, rfl, kF2, SF, tree2, .inr ⟨hx12, ?_⟩, ?_, ?_⟩
        · show st'.nd ++ [Value.ref D1] ≠ []
          simp
        · omega
        · show (st'.nd ++ [Value.ref D1]).length ≤ _
          rw [List.length_append, List.length_singleton]; omega
theorem grow {w : World} : ∀ deep, deep ≤ 3 → Grow w deep
  | 0, h => grow_one h fun _ e => by omega
  | d + 1, h => grow_one h fun d' e => by
    have : d = d' := by omega
    subst this
    exact grow d (by omega)
end Mine
end

section
open PySem PySem.W PyProof.Rows
set_option Elab.async false
set_option maxRecDepth 100000
namespace Mine

theorem nolen_lri : typeLookup (.type "list_reverseiterator") "__len__" = pure none := by rw [typeLookup_type, builtinLookup_eq_fast]; kernel_rfl
theorem hint_lri : typeLookup (.type "list_reverseiterator") "__length_hint__" = pure (some (.builtin "list_reverseiterator.__length_hint__")) := by rw [typeLookup_type, builtinLookup_eq_fast]; kernel_rfl
section
variable {prog : Program} {w : World} {A : Around} {E : Value → Shared → Prop} {s : Shared} {I l S : Addr} {items : Array Value}
theorem hint_rev {Q : Bool → Shared → Prop} (hT : s.TypeIs (.ref I) "list_reverseiterator") (h : Q false s) : wpAny (model prog w) A (Builtin.List.listLengthHint (.ref I)) Q E s := by
  unfold Builtin.List.listLengthHint
  refine wpAny_bind (wpAny_specialOf hT nolen_lri ?_)
  show wpAny _ _ (specialOf (Value.ref I) (Str.ofString "__length_hint__") >>= _) _ _ _
  refine wpAny_bind (wpAny_specialOf hT hint_lri ?_)
  generalize hid : ("list_reverseiterator.__length_hint__" : String) = id0
  wp_delta
  rw [show splitId id0 = some ("list_reverseiterator", "__length_hint__") from by subst hid; decide +kernel]
  subst hid
  refine wpAny_bind (wpAny_isInstance (b := true) hT (by rw [isSubtype_type]; kernel_rfl) ?_)
  exact wpAny_pure h
theorem rev_extend {R : Result → Shared → Prop} (hh : A.handled = none) (hit : s.heap.IsRevIter I l ((items.size : Int) - 1)) (hl : s.heap.IsList l items) (hne : l ≠ I) (hSI : S ≠ I) (hSl : S ≠ l) (res : Value) (c₀ : Nat) (hS : s.heap.get? S = some { cls := .type "list", data := .seq #[] c₀ })
    (hR : ∀ h' tk acc' c', (∀ b o, b ≠ S → b ≠ I → s.heap.get? b = some o → h'.get? b = some o) → h'.get? S = some { cls := .type "list", dict := none, data := .seq acc' c', slots := #[] } → ItemsOf (fun i v => items[items.size - 1 - i]? = some v) acc' items.size → R (.ok (.ret res)) { s with heap := h', toks := tk }) (hn : items.size ≤ sizeLine) :
    wpAny (model prog w) A.in1 (Builtin.List.listExtendWith (.ref S) (.ref I) res)
      (fun fin s' => match fin with | .done f => R (.ok f) s' | .again c' => c'.quiet = true ∧ codeAny (model prog w) A c' R s') (fun e s' => R (.error e) s') s := by
  have hSf : S ∉ [I, l] := by simp only [List.mem_cons, List.not_mem_nil, or_false, not_or]; exact ⟨hSI, hSl⟩
  have W := Walks.listRev (prog := prog) (w := w) (A := A.in1) hh I l hne items
  have hst : (0 : Nat) ≤ items.size ∧ s.heap.IsRevIter I l ((items.size : Int) - 1 - ((0 : Nat) : Int)) ∧ s.heap.IsList l items := ⟨Nat.zero_le _, by simpa using hit, hl⟩
  unfold Builtin.List.listExtendWith
  refine wpAny_bind (wpAny_typeOf (T := "list_reverseiterator") hit.typeIs ?_)
  have h1 : Builtin.List.listSameRef (.ref S) (.ref I) = false := by simp [Builtin.List.listSameRef, hSI]
  have h2 : (Value.type "list_reverseiterator" == Value.type "list") = false := by decide
  have h3 : (Value.type "list_reverseiterator" == Value.type "tuple") = false := by decide
  simp only [h1, h2, h3, Bool.or_false, Bool.false_eq_true, if_false]
  refine wpAny_bind (wpAny_pyIter_revIter hit ?_)
  refine wpAny_bind (wpAny_holding (hint_rev hit.typeIs ?_))
  rw [if_neg (by decide)]
  refine wpAny_pure ⟨plainId_quiet PySem.F.plain_extend_loop _, ?_⟩
  refine codeAny_extend_loopS W.toS hn S hSf res items.size 0 _ #[] c₀ rfl (Nat.zero_le _) hst hS (ItemsOf.nil _) fun s' acc' c' hm hS' hacc => ?_
  rw [Moved.eq_with hm]
  refine hR s'.heap s'.toks acc' c' (fun b o hb hb2 e => hm.heap b o (fun hmem => ?_) e) hS' hacc
  rcases List.mem_cons.mp hmem with e' | hmem
  · exact hb e'
  · exact hb2 (List.mem_singleton.mp hmem)
theorem rev_call {Q : Value → Shared → Prop} (hh : A.handled = none) (hit : s.heap.IsRevIter I l ((items.size : Int) - 1)) (hl : s.heap.IsList l items) (hne : l ≠ I) (hn : items.size ≤ sizeLine)
    (hQ : ∀ h' tk acc' c', (∀ b o, b ≠ I → s.heap.get? b = some o → h'.get? b = some o) → h'.get? s.heap.objs.size = some { cls := .type "list", dict := none, data := .seq acc' c', slots := #[] } → ItemsOf (fun i v => items[items.size - 1 - i]? = some v) acc' items.size → Q (.ref s.heap.objs.size) { s with heap := h', toks := tk }) :
    wpAny (model prog w) A (call (.type "list") [.ref I]) Q E s := by
  refine callType_codes (Q₁ := fun obj s₁ => obj = .ref s.heap.objs.size ∧ s₁ = { s with heap := s.heap.push { cls := .type "list", data := .seq #[] } }) PySem.F.called_list (PySem.F.typeCall_list_1 _) PySem.F.entry_list_init
    (code_list_new _ ⟨rfl, rfl⟩) fun obj s₁ h₁ => ?_
  obtain ⟨rfl, rfl⟩ := h₁
  have hS : (s.heap.push { cls := .type "list", data := .seq #[] }).get? s.heap.objs.size = some { cls := .type "list", data := .seq #[] } := Heap.get?_push_size _ rfl
  have hIlt : I < s.heap.objs.size := let ⟨o, ho, _⟩ := hit; Heap.lt_size ho
  have hllt : l < s.heap.objs.size := let ⟨o, ho, _⟩ := hl; Heap.lt_size ho
  refine ⟨⟨_, hS, rfl⟩, PySem.F.args_list_init_2 _ _, ?_⟩
  show wpAny _ _ (do let old ← Builtin.List.listItems (.ref s.heap.objs.size); Builtin.List.listUpdate (.ref s.heap.objs.size) (fun _ => #[]); letGo old.toList.reverse; Builtin.List.listExtendWith (.ref s.heap.objs.size) (.ref I) .none) _ _ _
  refine wpAny_bind ?_
  unfold Builtin.List.listItems
  refine wpAny_bind (wpAny_seqItems hS rfl (wpAny_pure ?_))
  show wpAny _ _ (updateSeq s.heap.objs.size (fun _ => #[]) >>= fun _ => letGo (#[] : Array Value).toList.reverse >>= fun _ => Builtin.List.listExtendWith (.ref s.heap.objs.size) (.ref I) .none) _ _ _
  refine wpAny_bind (wpAny_updateSeq hS rfl ?_)
  have hS₂ := Heap.get?_update_self (Obj.mapSeq (fun _ => (#[] : Array Value))) hS rfl
  have oth : ∀ b o, b ≠ s.heap.objs.size → s.heap.get? b = some o → ((s.heap.push { cls := .type "list", data := .seq #[] }).update s.heap.objs.size (Obj.mapSeq (fun _ => (#[] : Array Value)))).get? b = some o :=
    fun b o hb e => (Heap.get?_update_other _ _ (Ne.symm hb)).trans (Heap.get?_push_of_some _ e)
  refine wpAny_bind (wpAny_letGo ?_)
  refine rev_extend (A := A.in1) hh (hit.at fun o e => oth I o (Nat.ne_of_lt hIlt) e) (hl.at fun o e => oth l o (Nat.ne_of_lt hllt) e) hne (Nat.ne_of_gt hIlt) (Nat.ne_of_gt hllt) .none _ hS₂ (fun h' tk acc' c' hk hS' hacc => ?_) hn
  exact ⟨rfl, hQ h' tk acc' c' (fun b o hb e => hk b o (Nat.ne_of_lt (Heap.lt_size e)) hb (oth b o (Nat.ne_of_lt (Heap.lt_size e)) e)) hS' hacc⟩
/-- list(reversed(l)) -/
theorem rev_N {Q : Value → Shared → Prop} {h₀ : Heap} {L : Addr} {m : Str → Option Value} {news : List (Addr × Obj)} {vs : List Value} (hh : A.handled = none) (F : Fr h₀ L s.heap m) (N : News h₀ L s.heap ((I, revObj l ((vs.length : Int) - 1)) :: news)) (hl : s.heap.IsList l vs.toArray) (hne : l ≠ I) (off : ∀ p ∈ news, p.1 ≠ I) (hn : vs.length ≤ sizeLine)
    (h : ∀ (D : Addr) c h' tk, Fr h₀ L h' m → News h₀ L h' ((D, listOf vs.reverse.toArray c) :: news) → (∀ q ∈ news, q.1 < D) → Q (.ref D) { s with heap := h', toks := tk }) :
    wpAny (model prog w) A (call (.type "list") [.ref I]) Q E s := by
  have hI := N _ (.head _)
  refine rev_call (items := vs.toArray) hh ⟨_, hI.1, rfl, by simp [revObj]⟩ hl hne (by simpa using hn) fun h' tk acc' c' hk hD hacc => ?_
  have hacc' : acc' = vs.reverse.toArray := by
    apply Array.ext_getElem?
    intro j
    have h1 := hacc.1
    simp only [List.size_toArray] at h1
    by_cases hj : j < acc'.size
    · have h2 := hacc.2 j _ (Array.getElem?_eq_getElem hj)
      rw [Array.getElem?_eq_getElem hj, ← h2]
      simp only [List.size_toArray, List.getElem?_toArray]
      rw [List.getElem?_reverse (by omega)]
    · rw [Array.getElem?_eq_none (by omega)]
      simp only [List.getElem?_toArray]
      rw [List.getElem?_eq_none (by rw [List.length_reverse]; omega)]
  subst hacc'
  have hlt : ∀ q ∈ news, q.1 < s.heap.objs.size := fun q hq => Heap.lt_size (N q (.tail _ hq)).1
  refine h _ c' h' tk ?_ ?_ hlt
  · obtain ⟨oL, es, ep, hL, r⟩ := F.ns
    exact ⟨⟨oL, es, ep, hk _ _ (fun e => hI.2.1 e.symm) hL, r⟩, fun b x q => hk b x (fun e => by rw [e, hI.2.2] at q; cases q) (F.keep b x q), F.above⟩
  · intro p hp
    rcases List.mem_cons.mp hp with rfl | hp
    · refine ⟨hD, Nat.ne_of_gt F.ns.lt, ?_⟩
      cases q : h₀.get? s.heap.objs.size with
      | none => rfl
      | some o => exact absurd (Heap.lt_size (F.keep _ _ q)) (Nat.lt_irrefl _)
    · have z := N p (.tail _ hp)
      exact ⟨hk _ _ (off p hp) z.1, z.2⟩
end
end Mine
end

section
open PySem PySem.W PyProof.Rows
set_option Elab.async false
set_option maxRecDepth 100000
namespace Mine

theorem ints_mem {ws : List Value} {ns : List Int} (h : IntsAre ws ns) : ∀ v ∈ ws, ∃ i t, v = .int i t := fun v hv => by
  obtain ⟨j, hj⟩ := List.getElem?_of_mem hv
  obtain ⟨n, t, e, _⟩ := h.at j v hj
  exact ⟨n, t, e⟩
theorem St.init {w : World} {rest : List (Addr × Obj)} {ws : List Value} {ns : List Int} {T0 : Addr} {t1 t2 : Tok} {np nl ne nn : Nat} (h : IntsAre ws ns) (hl : ws.length ≤ 7) (hT : (T0, tup2 1 t1 0 t2) ∈ rest) :
    St w rest { pool := ws.reverse, lv := [], en := [.ref T0], nd := [], np := np, nl := nl, ne := ne, nn := nn } [] where
  pool := fun v hv => ints_mem h v (List.mem_reverse.mp hv)
  poolN := by show ws.reverse.length ≤ 100; rw [List.length_reverse]; omega
  lv := rfl
  enl := rfl
  en := fun k v hk => by
    cases k with
    | zero => obtain rfl := Option.some.inj hk; exact ⟨T0, t1, t2, rfl, hT⟩
    | succ k => cases hk
  tr := fun a ha => by cases ha
  ord := ⟨fun a ha => (by cases ha), List.Pairwise.nil⟩
  one := by decide
  nd := fun v hv => by cases hv
theorem law_led {h₀ h : Heap} {L PA P0 TT NdA EnA T0 LvA : Addr} {pool : List Value} {c n1 n2 n3 : Nat} {o1 o2 o3 : Obj} {c1 c2 c3 : Addr × Obj} {v : Value}
    (N : News h₀ L h ((PA, listOf pool.toArray c) :: (P0, o1) :: (TT, o2) :: (NdA, listOf #[] n1) :: (EnA, listOf #[v] n2) :: (T0, o3) :: (LvA, listOf #[] n3) :: c1 :: c2 :: c3 :: [])) :
    News h₀ L h (led ⟨PA, LvA, EnA, NdA⟩ ⟨pool, [], [v], [], c, n3, n2, n1⟩ [c1, c2, c3] [(T0, o3)]) := News.less N fun p hp => by
  rcases led_cases hp with rfl | rfl | rfl | rfl | hp | hp
  · exact .head _
  · exact .tail _ (.tail _ (.tail _ (.tail _ (.tail _ (.tail _ (.head _))))))
  · exact .tail _ (.tail _ (.tail _ (.tail _ (.head _))))
  · exact .tail _ (.tail _ (.tail _ (.head _)))
  · exact .tail _ (.tail _ (.tail _ (.tail _ (.tail _ (.tail _ (.tail _ hp))))))
  · rw [List.mem_singleton.mp hp]; exact .tail _ (.tail _ (.tail _ (.tail _ (.tail _ (.head _)))))
theorem law_off {PA NdA EnA T0 LvA : Addr} {o3 : Obj} {c1 c2 c3 : Addr × Obj} (h1 : @LT.lt Nat _ c1.1 LvA) (h2 : @LT.lt Nat _ c2.1 LvA) (h3 : @LT.lt Nat _ c3.1 LvA) (h4 : @LT.lt Nat _ LvA T0) (h5 : @LT.lt Nat _ T0 EnA) (h6 : @LT.lt Nat _ EnA NdA) (h7 : @LT.lt Nat _ NdA PA) :
    Off ⟨PA, LvA, EnA, NdA⟩ [c1, c2, c3] [(T0, o3)] := by
  have h8 : @LT.lt Nat _ LvA EnA := Nat.lt_trans h4 h5
  have h9 : @LT.lt Nat _ LvA NdA := Nat.lt_trans h8 h6
  have h10 : @LT.lt Nat _ T0 NdA := Nat.lt_trans h5 h6
  have g1 : @LT.lt Nat _ LvA PA := Nat.lt_trans h9 h7
  have g2 : @LT.lt Nat _ EnA PA := Nat.lt_trans h6 h7
  have g3 : @LT.lt Nat _ T0 PA := Nat.lt_trans h10 h7
  have lo : ∀ c : Addr × Obj, @LT.lt Nat _ c.1 LvA → OffA ⟨PA, LvA, EnA, NdA⟩ c.1 := fun c hc =>
    ⟨Nat.ne_of_lt (Nat.lt_trans hc g1), Nat.ne_of_lt hc, Nat.ne_of_lt (Nat.lt_trans hc h8), Nat.ne_of_lt (Nat.lt_trans hc h9)⟩
  refine ⟨Nat.ne_of_gt g1, Nat.ne_of_gt g2, Nat.ne_of_gt h7, Nat.ne_of_lt h8, Nat.ne_of_lt h9, Nat.ne_of_lt h6, ?_, ?_, ?_⟩
  · intro p hp
    simp only [List.mem_cons, List.not_mem_nil, or_false] at hp
    rcases hp with rfl | rfl | rfl
    · exact lo _ h1
    · exact lo _ h2
    · exact lo _ h3
  · intro p hp
    rw [List.mem_singleton.mp hp]
    exact ⟨Nat.ne_of_lt g3, Nat.ne_of_gt h4, Nat.ne_of_lt h5, Nat.ne_of_lt h10⟩
  · intro p hp q hq
    rw [List.mem_singleton.mp hq]
    simp only [List.mem_cons, List.not_mem_nil, or_false] at hp
    rcases hp with rfl | rfl | rfl
    · exact Nat.ne_of_lt (Nat.lt_trans h1 h4)
    · exact Nat.ne_of_lt (Nat.lt_trans h2 h4)
    · exact Nat.ne_of_lt (Nat.lt_trans h3 h4)
theorem law_start {h₀ h : Heap} {L PA P0 TT NdA EnA T0 LvA : Addr} {ws : List Value} {ns : List Int} {c n1 n2 n3 : Nat} {t1 t2 : Tok} {o1 o2 : Obj} {c1 c2 c3 : Addr × Obj}
    (N : News h₀ L h ((PA, listOf ws.reverse.toArray c) :: (P0, o1) :: (TT, o2) :: (NdA, listOf #[] n1) :: (EnA, listOf #[.ref T0] n2) :: (T0, tup2 1 t1 0 t2) :: (LvA, listOf #[] n3) :: c1 :: c2 :: c3 :: []))
    (h1 : @LT.lt Nat _ c1.1 LvA) (h2 : @LT.lt Nat _ c2.1 LvA) (h3 : @LT.lt Nat _ c3.1 LvA) (h4 : @LT.lt Nat _ LvA T0) (h5 : @LT.lt Nat _ T0 EnA) (h6 : @LT.lt Nat _ EnA NdA) (h7 : @LT.lt Nat _ NdA PA) (hI : IntsAre ws ns) (hl : ws.length ≤ 7) :
    News h₀ L h (led ⟨PA, LvA, EnA, NdA⟩ ⟨ws.reverse, [], [.ref T0], [], c, n3, n2, n1⟩ [c1, c2, c3] [(T0, tup2 1 t1 0 t2)]) ∧ Off ⟨PA, LvA, EnA, NdA⟩ [c1, c2, c3] [(T0, tup2 1 t1 0 t2)] ∧
    ∀ w, St w [(T0, tup2 1 t1 0 t2)] ⟨ws.reverse, [], [.ref T0], [], c, n3, n2, n1⟩ [] :=
  ⟨law_led N, law_off h1 h2 h3 h4 h5 h6 h7, fun _ => St.init hI hl (.head _)⟩
/-- where a walk shall stand still -/
inductive Mark : Nat → Prop
  | mk (n : Nat) : Mark n
/-- behind the first if: the root is a node -/
def RootPost (w : World) (i : Ids) (muts : List (Addr × Obj)) (g : Heap) (L : Addr) (m : Str → Option Value) (s : Shared) (f : Flow) (s' : Shared) : Prop :=
  f = .next ∧ ∃ x dx st' rest' ls h' tk', s' = { s with heap := h', toks := tk' } ∧ Fr g L h' (fun y => if y = Str.ofString "root" then some (.ref x) else m y) ∧ News g L h' (led i st' muts rest') ∧ Off i muts rest' ∧ St w rest' st' ls ∧
    TreeIn w rest' 4 (.ref x) ls ∧ (x, instObj 280 dx) ∈ rest' ∧ st'.nd ≠ [] ∧ ls.length ≤ 64 ∧ st'.nd.length ≤ 65
theorem bind_same {m : Str → Option Value} {n : Str} {v : Value} (h : m n = some v) : m = fun y => if y = n then some v else m y := by
  funext y
  by_cases e : y = n
  · subst e; simp [h]
  · simp [e]
theorem stop_mark (n : Nat) {p : Prop} (_h : Mark n) (k : Stop p) : p := k
theorem Fr.bind_same {h₀ h : Heap} {L : Addr} {m : Str → Option Value} {n : Str} {v : Value} (F : Fr h₀ L h m) (e : m n = some v) : Fr h₀ L h (fun y => if y = n then some v else m y) := by
  have := Mine.bind_same e
  rw [← this]; exact F
theorem node_after {w : World} {h₀ h : Heap} {L C : Addr} {i : Ids} {st : Sta} {vs : List Value} {nc : Nat} {muts rest news' : List (Addr × Obj)} {r : Value} (O : Off i ((C, listOf vs.toArray nc) :: muts) rest) (om : ∀ p ∈ muts, @Ne Nat p.1 C)
    (NP : NodePost w C (ledH i st ((C, listOf vs.toArray nc) :: muts)) rest r news') (N : News h₀ L h news') :
    ∃ x dx rest2, r = .ref x ∧ News h₀ L h (led i st muts rest2) ∧ Off i muts rest2 ∧ Keeps w [] rest rest2 ∧ (x, instObj 280 dx) ∈ rest2 ∧ (∃ t1 t2 t3 yv n, (dx, dictOf (nodeEs w t1 t2 t3 (.ref C) .none yv) n) ∈ rest2) ∧ (C, listOf vs.toArray nc) ∈ rest2 := by
  obtain ⟨x, dx, R', t1, t2, t3, yv, n8, rfl, rfl, kk, hlt, hdx⟩ := NP
  have hH : ∀ q ∈ ledH i st muts, @LT.lt Nat _ q.1 dx := fun q hq => hlt q (List.mem_append_left _ (by
    simp only [ledH, List.mem_cons] at hq ⊢
    rcases hq with h | h | h | h | h <;> simp only [h, true_or, or_true]))
  have O8a : Off i ((C, listOf vs.toArray nc) :: muts) R' := Off.keeps (st := st) O kk
  have O8b := Off.node (a := (x, instObj 280 dx)) (b := (dx, dictOf (nodeEs w t1 t2 t3 (.ref C) .none yv) n8)) O8a om (fun q hq => Nat.lt_trans (hH q hq) hdx) hH
  obtain ⟨nw, hnw, N9⟩ := led_node N
  refine ⟨x, dx, nw ++ R', rfl, N9, hnw ▸ O8b, (kk.led (l' := []) (fun q hq => by cases hq)).more (led := []) (fun p hp q hq => by cases hq), ?_, ⟨t1, t2, t3, yv, n8, ?_⟩, ?_⟩
  · exact hnw ▸ List.mem_append_left _ (.head _)
  · exact hnw ▸ List.mem_append_left _ (.tail _ (.head _))
  · exact hnw ▸ List.mem_append_left _ (.tail _ (.tail _ (.head _)))
theorem Fr.rebind {h₀ h : Heap} {L : Addr} {m : Str → Option Value} {n : Str} {a b : Option Value} (F : Fr h₀ L h (fun y => if y = n then a else m y)) : Fr h₀ L h (fun y => if y = n then a else if y = n then b else m y) := by
  have e : (fun y => if y = n then a else if y = n then b else m y) = fun y => if y = n then a else m y := by
    funext y; by_cases h : y = n <;> simp [h]
  rw [e]; exact F
theorem tree_one {w : World} {R : List (Addr × Obj)} {x dx C v : _} {a : LeafR} {t1 t2 t3 : Tok} {pv yv : Value} {n n' : Nat} (hx : (x, instObj 280 dx) ∈ R) (hd : (dx, dictOf (nodeEs w t1 t2 t3 (.ref C) pv yv) n) ∈ R) (hc : (C, listOf [v].toArray n') ∈ R) (t : TreeIn w R 3 v [a]) : TreeIn w R 4 (.ref x) [a] :=
  .node (lss := [[a]]) hx hd hc rfl (by show 0 < 1; decide) (by show 1 ≤ 3; decide) fun i u ls hu hl => by
    cases i with
    | zero => obtain rfl := Option.some.inj hu; obtain rfl := Option.some.inj hl; exact t
    | succ i => cases hu
theorem NdOk.mk0 {w : World} {R : List (Addr × Obj)} {D x dx : Addr} {a : LeafR} {t1 t2 : Tok} (hD : (D, tup3 x 0 t1 1 t2) ∈ R) (hx : (x, instObj 280 dx) ∈ R) (t : TreeIn w R 4 (.ref x) [a]) : NdOk w R [a] (.ref D) :=
  ⟨D, x, dx, t1, t2, 4, [], [a], [], rfl, hD, hx, rfl, t, by decide⟩
end Mine
end

section
open PySem PySem.W PyProof.Rows PySem.Calls
set_option Elab.async false
set_option maxRecDepth 100000
namespace Mine

/-! loops whose items are pairs, by an invariant -/
theorem AllObj.mono : ∀ {ws : List (Addr × String)} {k k' : List (Addr × Obj) → Prop}, AllObj ws k → (∀ its, k its → k' its) → AllObj ws k'
  | [], _, _, h, m => m _ h
  | w :: _, k, k', h, m => fun o hc => AllObj.mono (h o hc) fun its hk => m ((w.1, o) :: its) hk
section
variable {prog : Program} {w : World} {A : Around} {E : Value → Shared → Prop} {s : Shared} {env : Env} {h₀ : Heap} {target : Expr} {body : List Stmt} {Q : Flow → Shared → Prop}
theorem UnrPostW.mono {L : Addr} {its : List (Addr × Obj)} {r r' : (Str → Option Value) → List (Addr × Obj) → Prop} {f : Flow} {s₂ : Shared} (h : UnrPostW h₀ L s its r Q f s₂) (k : ∀ m n, r m n → r' m n) : UnrPostW h₀ L s its r' Q f s₂ := by
  unfold UnrPostW at h ⊢
  cases f with
  | ret v => exact h
  | brk => exact h
  | next => obtain ⟨a, b, c, e, h1, h2, h3, h4, h5⟩ := h; exact ⟨a, b, c, e, h1, h2, h3, h4, k _ _ h5⟩
  | cont => obtain ⟨a, b, c, e, h1, h2, h3, h4, h5⟩ := h; exact ⟨a, b, c, e, h1, h2, h3, h4, k _ _ h5⟩
theorem ItemsRest.inv {ws : List (Addr × String)} {keep : List (Addr × Obj)} {J : List Itm → (Str → Option Value) → List (Addr × Obj) → Prop}
    (step : ∀ a r m news, J (a :: r) m news → ∀ v h tk, a.Is v h → Fr h₀ env.locals h m → AllObj ws (fun its => News h₀ env.locals h (its ++ news) →
      wpAny (model prog w) A (assign target env v) (fun _ s₂ => wpAny (model prog w) A (execs body env) (UnrPostW h₀ env.locals { s with heap := h, toks := tk } its (fun m' n' => SubL keep n' ∧ J r m' n') Q) E s₂) E { s with heap := h, toks := tk }))
    (done : ∀ m news, J [] m news → ∀ h tk, Fr h₀ env.locals h m → News h₀ env.locals h news → Q .next { s with heap := h, toks := tk }) :
    ∀ (xs : List Itm) (m : Str → Option Value) (news : List (Addr × Obj)), J xs m news → ItemsRest prog w A E h₀ env target body Q s ws keep xs m news := by
  intro xs
  induction xs with
  | nil => exact fun m news hj => ItemsRest.zero (done m news hj)
  | cons a r ih =>
    intro m news hj v h tk hv F
    refine AllObj.mono (step a r m news hj v h tk hv F) fun its hk N => ?_
    refine wpAny_mono (hk N) (fun _ s₂ h₂ => wpAny_mono h₂ (fun f s₃ p => UnrPostW.mono p fun m' n' hh => ⟨hh.1, ih m' n' hh.2⟩) fun _ _ e => e) fun _ _ e => e
end

/-! comprehensions by an invariant -/
section
variable {prog : Program} {w : World} {A : Around} {h₀ : Heap} {L : Addr} {m : Str → Option Value} {env : Env} {elt ct : Expr} {x : Str} {scope : Scope} {cl : List (Str × Addr)} {s : Shared} {S : List (Addr × Obj) → Prop} {P : Nat → Value → Prop} {Fin : List Value → List (Addr × Obj) → Prop} {n : Nat}
theorem CompRest.inv {J : Nat → List Value → List (Addr × Obj) → Prop}
    (turn : ∀ i v ys news, i < n → P i v → J i ys news → ∀ I oI C oC D m₂ h tk (E' : Value → Shared → Prop), LCg.NsObj oC m₂ → m₂ x = some v → Fr h₀ L h m → News h₀ L h ((I, oI) :: (C, oC) :: (D, LCg.lst ys) :: news) → LCg.Off3 I C D news → ((@Ne Nat I C) ∧ (@Ne Nat I D) ∧ (@Ne Nat C D)) →
      wpAny (model prog w) A (eval elt (compEnvC scope cl C env)) (LCg.CompEnd h₀ L m { s with heap := h, toks := tk } I oI C oC D (LCg.lst ys) S (fun y news' => J (i + 1) (ys ++ [y]) news')) E' { s with heap := h, toks := tk })
    (fin : ∀ ys news, J n ys news → Fin ys news) : ∀ (k i : Nat) (ys : List Value) (news : List (Addr × Obj)), i + k = n → J i ys news → LCg.CompRest prog w A h₀ L m env elt x scope cl s S P Fin k i ys news := by
  intro k
  induction k with
  | zero =>
    intro i ys news e hj
    obtain rfl : i = n := by omega
    exact LCg.CompRest.zero (fin ys news hj)
  | succ k ih =>
    intro i ys news e hj
    refine LCg.CompRest.succ ?_
    intro v I oI C oC D m₂ h tk E' hv hC hx F N off ne
    refine wpAny_mono (turn i v ys news (by omega) hv hj I oI C oC D m₂ h tk E' hC hx F N off ne) (fun y s₂ hq => ?_) fun _ _ e => e
    obtain ⟨h', tk', nw, e', F', N', off', hS, hj'⟩ := hq
    exact ⟨h', tk', nw, e', F', N', off', hS, ih (i + 1) _ _ (by omega) hj'⟩
theorem CompRestT.inv {J : Nat → List Value → List (Addr × Obj) → Prop}
    (turn : ∀ i v ys news, i < n → P i v → J i ys news → ∀ I oI C oC D m₂ h tk (E' : Value → Shared → Prop), LCg.NsObj oC m₂ → m₂ x = some v → Fr h₀ L h m → News h₀ L h ((I, oI) :: (C, oC) :: (D, LCg.lst ys) :: news) → LCg.Off3 I C D news → ((@Ne Nat I C) ∧ (@Ne Nat I D) ∧ (@Ne Nat C D)) →
      wpAny (model prog w) A (isTrue ct (compEnvC scope cl C env) (eval ct (compEnvC scope cl C env))) (fun b s' => if b = true then wpAny (model prog w) A (eval elt (compEnvC scope cl C env)) (LCg.CompEnd h₀ L m { s with heap := h, toks := tk } I oI C oC D (LCg.lst ys) S (fun y news' => J (i + 1) (ys ++ [y]) news')) E' s'
        else LCg.CompEnd h₀ L m { s with heap := h, toks := tk } I oI C oC D (LCg.lst ys) S (fun _ news' => J (i + 1) ys news') Value.none s') E' { s with heap := h, toks := tk })
    (fin : ∀ ys news, J n ys news → Fin ys news) : ∀ (k i : Nat) (ys : List Value) (news : List (Addr × Obj)), i + k = n → J i ys news → LCt.CompRestT prog w A h₀ L m env ct elt x scope cl s S P Fin k i ys news := by
  intro k
  induction k with
  | zero =>
    intro i ys news e hj
    obtain rfl : i = n := by omega
    exact LCt.CompRestT.zero (fin ys news hj)
  | succ k ih =>
    intro i ys news e hj
    refine LCt.CompRestT.succ ?_
    intro v I oI C oC D m₂ h tk E' hv hC hx F N off ne
    refine wpAny_mono (turn i v ys news (by omega) hv hj I oI C oC D m₂ h tk E' hC hx F N off ne) (fun b s₁ hb => ?_) fun _ _ e => e
    cases b with
    | true =>
      simp only [if_true] at hb ⊢
      refine wpAny_mono hb (fun y s₂ hq => ?_) fun _ _ e => e
      obtain ⟨h', tk', nw, e', F', N', off', hS, hj'⟩ := hq
      exact ⟨h', tk', nw, e', F', N', off', hS, ih (i + 1) _ _ (by omega) hj'⟩
    | false =>
      simp only [Bool.false_eq_true, if_false] at hb ⊢
      obtain ⟨h', tk', nw, e', F', N', off', hS, hj'⟩ := hb
      exact ⟨h', tk', nw, e', F', N', off', hS, ih (i + 1) _ _ (by omega) hj'⟩
end

/-! a search called within a try -/
section
variable {w : World} {f : Addr} {vs : List Value} {news big : List (Addr × Obj)} {d u : Nat} {inn : Bool} {Post : Value → List (Addr × Obj) → Prop} {PostR : List (Addr × Obj) → Prop} {dp un : Nat} {gd : Option (List Code)} {cn : Str} {cs : Scope} {L a : Addr} {ccd : Value} {cl : List (Str × Addr)} {outer : List Env} {A₀ : Around} {base h₀ : Heap} {m : Str → Option Value} {loose : List Str} {mean : ExcName → Option Value} {mg mb : Str → Option Value} {s : Shared} {Q E : Value → Shared → Prop}
theorem TellG.callS (t : TellG w f vs news d u inn Post PostR) (B : Below A₀ base outer h₀) (F : Fr h₀ L s.heap m) (X : (Mine.hd.heap_39 w.params).In h₀) (N : News h₀ L s.heap big) (hs : ∀ p ∈ news, p ∈ big) (T : Top topProg loose mean mg mb h₀) (C : CodeHd base 241 237)
    (hk : cs.kind = .function) (hd : dp + d < 1000) (hu : un + u < 9900)
    (ret : inn = true → ∀ r news' h' tk', Fr h₀ L h' m → News h₀ L h' news' → Post r news' → Q r { s with heap := h', toks := tk' })
    (rai : inn = false → ∀ e g news' h' tk', Fr h₀ L g m → RaisedN base (envX cn cs L a ccd cl :: outer) e (.type "ValueError") news' h' → g.UpToSlots h' → PostR news' → E (.ref e) { s with heap := h', toks := tk' }) :
    wpAny (model PySem.Challenge.rw_kz0002_01.row.toRowW.prog w) (topA dp un gd (envX cn cs L a ccd cl) outer) (PySem.call (.ref f) vs) Q E s :=
  wpAny_call (t _ _ _ _ _ _ _ _ _ _ _ _ _ _ _ _ _ _ _ _ ⟨B, F, X, News.less N hs, T, C⟩ hk hd hu ret rai)
end
section
variable {prog : Program} {w : World} {s' : Shared} {base h₀ h : Heap} {outer : List Env} {L a e : Addr} {m : Str → Option Value} {cn : Str} {cs : Scope} {cd : Value} {cl : List (Str × Addr)} {dp un : Nat} {gd : Option (List Code)}
  {b₀ : Stmt} {suite : List Stmt} {pos np : Pos} {rest : List ExceptHandler} {Q : Flow → Shared → Prop} {E : Value → Shared → Prop} {news : List (Addr × Obj)}
  {p : Program} {loose : List Str} {mean : ExcName → Option Value} {mg mb : Str → Option Value}
theorem caughtX (F : Fr h₀ L h m) (hsm : h.UpToSlots s'.heap) (R : RaisedN h₀ (envX cn cs L a cd cl :: outer) e (.type "ValueError") news s'.heap) (T : TopRead p loose mg mb h₀)
    (k : ∀ h', Fr h₀ L h' m → News h₀ L h' news → wpAny (model prog w) ((topA dp un gd (envX cn cs L a cd cl) outer).mark (some (.ref e))) (execs (b₀ :: suite) (envX cn cs L a cd cl)) Q (fun _ _ => False) { s' with heap := h' })
    (h2 : Str.ofString "ValueError" ∉ loose) (h3 : Str.ofString "ValueError" ∉ (recsOf p).map (·.name)) (h4 : Str.ofString "ValueError" ∉ (litsOf p).map (·.1)) (h4c : Str.ofString "ValueError" ∉ (clssOf p loose).map (·.name))
    (hk : cs.kind = .function) (hx : (envX cn cs L a cd cl).kindOf (Str.ofString "ValueError") = some .globalImplicit) :
    wpAny (model prog w) (topA dp un gd (envX cn cs L a cd cl) outer) (noteFrame (.ref e) (envX cn cs L a cd cl))
      (fun _ s₂ => wpAny (model prog w) (topA dp un gd (envX cn cs L a cd cl) outer) (setFlight (.ref e) none) (fun _ s₃ =>
        wpAny (model prog w) (topA dp un gd (envX cn cs L a cd cl) outer) (handleBy (.ref e) (envX cn cs L a cd cl) (.ExceptHandler (some (.Name (Str.ofString "ValueError") np)) none (b₀ :: suite) pos :: rest)) Q E s₃) E s₂) E s' := by
  obtain ⟨B, a0, hB, hl, hfl⟩ := R
  have hL : B.get? L = none := by
    obtain ⟨_, ⟨L', _, hf, hn', _⟩, _⟩ := hfl.2.2.1
    obtain rfl : L = L' := Option.some.inj hf
    exact hn'
  refine wpAny_looks_onW (env := envX cn cs L a cd cl) (outer := outer) rfl rfl hfl fun h₄ hheld₄ hsm₄ => ?_
  refine wpAny_landsW hheld₄ fun h₅ hheld hsm₅' => ?_
  have hsm₅ := hsm₄.trans hsm₅'
  have hheld' := flyingW_base hB hheld
  have F₅ := F.of_stays hheld'.1 (hsm.trans hsm₅)
  obtain ⟨ob, hob, hobc⟩ := hheld'.there
  refine wpAny_handleBy_builtin (X := "ValueError") (T := "ValueError") (b := true) PySem.F.isExc_ValueError PySem.F.notTuple_ValueError (by rw [isSubtype_type]; kernel_rfl)
    (Name_function_global hk hx (loadGlobal_builtin (env := envX cn cs L a cd cl) (T.g.keeps F₅.keep) (T.free (Str.ofString "ValueError") (by decide +kernel) h2 h3 h4 h4c) (T.b.keeps F₅.keep) ((T.builtins _ (by decide +kernel)).trans PyProof.Rows.Boot.«ValueError») ⟨rfl, ⟨ob, hob, hobc⟩, ?_⟩) (by decide))
  refine lands_againW hheld fun h₆ hfl₆ hsm₆ => ?_
  have F₆ := F.of_stays (flyingW_base hB hfl₆).1 ((hsm.trans hsm₅).trans hsm₆)
  exact wpAny_mono (k h₆ F₆ fun q hq => ⟨hfl₆.1 _ _ (hl q hq).1, (fun z => by have := (hl q hq).1; rw [z, hL] at this; cases this), (hl q hq).2⟩) (fun _ _ x => x) fun _ _ x => x.elim
end
end Mine
end

section
open PySem PySem.W PyProof.Rows
set_option Elab.async false
set_option maxRecDepth 100000
namespace Mine

/-! the plain law of what is asked: the first leaf that ends there or later -/
def First (q : Nat → Bool) (lo i : Nat) (ys : List Value) : Prop :=
  (ys = [] ∧ ∀ j, j < i → q j = false) ∨ ∃ j0 t r, j0 < i ∧ ys = .int ((lo + j0 : Nat) : Int) t :: r ∧ q j0 = true ∧ ∀ j, j < j0 → q j = false
theorem First.nil {q : Nat → Bool} {lo : Nat} : First q lo 0 [] := .inl ⟨rfl, fun _ h => absurd h (Nat.not_lt_zero _)⟩
theorem First.yes {q : Nat → Bool} {lo i : Nat} {ys : List Value} {t : Tok} (h : First q lo i ys) (hq : q i = true) : First q lo (i + 1) (ys ++ [.int ((lo + i : Nat) : Int) t]) := by
  rcases h with ⟨rfl, h⟩ | ⟨j0, t0, r, h1, rfl, h3, h4⟩
  · exact .inr ⟨i, t, [], Nat.lt_succ_self _, rfl, hq, h⟩
  · exact .inr ⟨j0, t0, r ++ [.int ((lo + i : Nat) : Int) t], Nat.lt_succ_of_lt h1, rfl, h3, h4⟩
theorem First.no {q : Nat → Bool} {lo i : Nat} {ys : List Value} (h : First q lo i ys) (hq : q i = false) : First q lo (i + 1) ys := by
  rcases h with ⟨rfl, h⟩ | ⟨j0, t0, r, h1, rfl, h3, h4⟩
  · refine .inl ⟨rfl, fun j hj => ?_⟩
    rcases Nat.lt_or_ge j i with h' | h'
    · exact h j h'
    · obtain rfl : j = i := by omega
      exact hq
  · exact .inr ⟨j0, t0, r, Nat.lt_succ_of_lt h1, rfl, h3, h4⟩
theorem endAt_mid {pre mid post : List LeafR} {j : Nat} {a : LeafR} (h : mid[j]? = some a) : endAt (pre ++ mid ++ post) (pre.length + j + 1) = a.en := by
  have e : (pre ++ mid ++ post)[pre.length + j]? = some a := by
    have hj := (List.getElem?_eq_some_iff.mp h).1
    rw [List.append_assoc, List.getElem?_append_right (by omega), Nat.add_sub_cancel_left, List.getElem?_append_left hj, h]
  rw [endAt_succ, e]
theorem endAt_high {pre mid post : List LeafR} (h : mid ≠ []) : endAt (pre ++ mid ++ post) (pre.length + mid.length) = lastEn mid := by
  obtain ⟨z, hz⟩ := exists_last h
  rw [lastEn_of hz]
  rw [List.getLast?_eq_getElem?] at hz
  have hp : 0 < mid.length := List.length_pos_iff.mpr h
  have := endAt_mid (pre := pre) (post := post) hz
  rw [← this]
  congr 1
  omega
theorem first_pick {pre mid post : List LeafR} {sp : Int × Int} {wide : Bool} {ys : List Value} (hne : mid ≠ []) (hin : leP sp (lastEn mid) = true)
    (h : First (fun j => leP sp (endAt (pre ++ mid ++ post) (pre.length + j + 1))) pre.length mid.length ys) :
    ∃ j0 t r a, ys = .int ((pre.length + j0 : Nat) : Int) t :: r ∧ j0 < mid.length ∧ (pre ++ mid ++ post)[pre.length + j0]? = some a ∧ pick mid sp wide = if (!wide && ltP sp a.st) = true then .none else .ref a.ref := by
  have hp : 0 < mid.length := List.length_pos_iff.mpr hne
  rcases h with ⟨rfl, h⟩ | ⟨j0, t0, r, h1, rfl, h3, h4⟩
  · exfalso
    have h2 := h (mid.length - 1) (by omega)
    have e : pre.length + (mid.length - 1) + 1 = pre.length + mid.length := by omega
    dsimp only at h2
    rw [e, endAt_high hne, hin] at h2
    cases h2
  · obtain ⟨a, ha⟩ : ∃ a, mid[j0]? = some a := ⟨mid[j0], by simp [h1]⟩
    refine ⟨j0, t0, r, a, rfl, h1, ?_, ?_⟩
    · rw [List.append_assoc, List.getElem?_append_right (by omega), Nat.add_sub_cancel_left, List.getElem?_append_left h1, ha]
    · have hf : mid.find? (fun a => leP sp a.en) = some a := by
        obtain ⟨hj, e⟩ := List.getElem?_eq_some_iff.mp ha
        rw [List.find?_eq_some_iff_getElem]
        refine ⟨?_, j0, hj, e, fun j hj' => ?_⟩
        · rw [← endAt_mid (pre := pre) (post := post) ha]; exact h3
        · have h5 := h4 j hj'
          dsimp only at h5
          rw [endAt_mid (List.getElem?_eq_getElem (by omega))] at h5
          simp [h5]
      unfold pick
      rw [hf]
end Mine
end

section
open PySem PySem.W PyProof.Rows PySem.Calls
set_option Elab.async false
set_option maxRecDepth 100000
namespace Mine

/-! the places that are asked -/
def Fresh (new base : List (Addr × Obj)) : Prop := ∀ p ∈ new, ∀ q ∈ base, @LT.lt Nat _ q.1 p.1
def SpotIn (new : List (Addr × Obj)) (v : Value) : Prop := ∃ D l tl c tc, v = .ref D ∧ (D, tup2 l tl c tc) ∈ new
def SpotsJ (base : List (Addr × Obj)) (i : Nat) (ys : List Value) (news : List (Addr × Obj)) : Prop :=
  ∃ new, news = new ++ base ∧ Fresh new base ∧ ys.length = i ∧ ∀ v ∈ ys, SpotIn new v
theorem SpotsJ.start {base : List (Addr × Obj)} : SpotsJ base 0 [] base := ⟨[], rfl, fun _ h => (by cases h), rfl, fun _ h => (by cases h)⟩
theorem SpotIn.more {new new' : List (Addr × Obj)} {v : Value} (h : SpotIn new v) (hs : ∀ p ∈ new, p ∈ new') : SpotIn new' v :=
  let ⟨D, l, tl, c, tc, e, hm⟩ := h; ⟨D, l, tl, c, tc, e, hs _ hm⟩
theorem SpotsJ.step {base news : List (Addr × Obj)} {i : Nat} {ys : List Value} {D : Addr} {l c : Int} {tl tc : Tok} (h : SpotsJ base i ys news) (hl : ∀ q ∈ news, @LT.lt Nat _ q.1 D) :
    SpotsJ base (i + 1) (ys ++ [.ref D]) ((D, tup2 l tl c tc) :: news) := by
  obtain ⟨new, rfl, h2, h3, h4⟩ := h
  refine ⟨(D, tup2 l tl c tc) :: new, rfl, fun p hp q hq => ?_, by rw [List.length_append, h3]; rfl, fun v hv => ?_⟩
  · rcases List.mem_cons.mp hp with rfl | hp
    · exact hl q (List.mem_append_right _ hq)
    · exact h2 p hp q hq
  · rcases List.mem_append.mp hv with hv | hv
    · exact (h4 v hv).more fun p hp => .tail _ hp
    · exact ⟨D, l, tl, c, tc, List.mem_singleton.mp hv, .head _⟩
theorem comp_spot {h₀ h : Heap} {L I C D D' ax : Addr} {m : Str → Option Value} {s₁ : Shared} {oI oC oD : Obj} {base news : List (Addr × Obj)} {i n : Nat} {ys : List Value} {l c : Int} {tl tc : Tok} {tk : Nat} {its : Array Value} {rest : Value → List (Addr × Obj) → Prop}
    (F : Fr h₀ L h m) (N : News h₀ L h ((D', tup2 l tl c tc) :: (I, oI) :: (C, oC) :: (D, oD) :: news)) (lt : AllLt D' ((I, oI) :: (C, oC) :: (D, oD) :: news)) (off : LCg.Off3 I C D news) (J : SpotsJ base i ys news) (hax : (ax, ({ cls := .type "list", data := .seq its n } : Obj)) ∈ base)
    (r : SpotsJ base (i + 1) (ys ++ [.ref D']) ((D', tup2 l tl c tc) :: news) → rest (.ref D') ((D', tup2 l tl c tc) :: news)) :
    LCg.CompEnd h₀ L m s₁ I oI C oC D oD (LCg.SrcAt h₀ ax its) rest (.ref D') { s₁ with heap := h, toks := tk } := by
  have lt' := tb_ltOf lt
  have J' := J.step (l := l) (c := c) (tl := tl) (tc := tc) fun q hq => lt' q (.tail _ (.tail _ (.tail _ hq)))
  refine ⟨h, tk, (D', tup2 l tl c tc) :: news, rfl, F, News.less N ?_, ⟨⟨Nat.ne_of_gt (lt' _ (.head _)), Nat.ne_of_gt (lt' _ (.tail _ (.head _))), Nat.ne_of_gt (lt' _ (.tail _ (.tail _ (.head _))))⟩, off⟩, ?_, r J'⟩
  · intro p hp
    simp only [List.mem_cons] at hp ⊢
    rcases hp with h | h | h | h | h <;> simp only [h, true_or, or_true]
  · obtain ⟨new, rfl, _⟩ := J
    exact .inr ⟨_, .tail _ (List.mem_append_right _ hax), rfl, _, rfl⟩
theorem kms_pick_sub {l : List Value} {lo hi : Option Int} : ∀ v ∈ kms_pick l lo hi, v ∈ l := fun v hv => List.mem_of_mem_drop (List.mem_of_mem_take hv)
theorem kms_pick_len {l : List Value} {lo hi : Option Int} : (kms_pick l lo hi).length ≤ l.length := by
  unfold kms_pick
  rw [List.length_take, List.length_drop]
  omega

section
variable {prog : Program} {w : World} {A : Around} {E : Value → Shared → Prop} {s : Shared} {env : Env} {h₀ : Heap} {target : Expr} {body : List Stmt} {Q : Flow → Shared → Prop}
/-- a loop whose body binds no name but its own -/
theorem ItemsRest.invN {ws : List (Addr × String)} {keep : List (Addr × Obj)} {x : Str} {M : Str → Option Value} {K : List Itm → List (Addr × Obj) → Prop}
    (step : ∀ a r cv news, K (a :: r) news → ∀ v h tk, a.Is v h → Fr h₀ env.locals h (fun y => if y = x then cv else M y) → AllObj ws (fun its => News h₀ env.locals h (its ++ news) →
      wpAny (model prog w) A (assign target env v) (fun _ s₂ => wpAny (model prog w) A (execs body env) (UnrPostW h₀ env.locals { s with heap := h, toks := tk } its (fun m' n' => SubL keep n' ∧ (∃ cv, m' = fun y => if y = x then cv else M y) ∧ K r n') Q) E s₂) E { s with heap := h, toks := tk }))
    (done : ∀ cv news, K [] news → ∀ h tk, Fr h₀ env.locals h (fun y => if y = x then cv else M y) → News h₀ env.locals h news → Q .next { s with heap := h, toks := tk }) {xs : List Itm} {news : List (Addr × Obj)} (hK : K xs news) :
    ItemsRest prog w A E h₀ env target body Q s ws keep xs M news := by
  refine ItemsRest.inv (J := fun xs m' n' => (∃ cv, m' = fun y => if y = x then cv else M y) ∧ K xs n') ?_ ?_ xs M news ⟨⟨M x, ?_⟩, hK⟩
  · rintro a r m news ⟨⟨cv, rfl⟩, hk⟩ v h tk hv F
    exact step a r cv news hk v h tk hv F
  · rintro m news ⟨⟨cv, rfl⟩, hk⟩ h tk F N
    exact done cv news hk h tk F N
  · funext y; by_cases h : y = x <;> simp [h]
theorem wpAny_noE {α : Type} {M : Model} {A : Around} {t : Sem α} {E : Value → Shared → Prop} {s : Shared} {Q : α → Shared → Prop} (h : wpAny M A t Q (fun _ _ => False) s) : wpAny M A t Q E s := wpAny_mono h (fun _ _ x => x) fun _ _ x => x.elim
end
/-- the list of the places, growing -/
structure SpotsK (I DS SP : Addr) (lo : Obj) (R0 rest : List (Addr × Obj)) (b : Nat) (xs : List Itm) (news : List (Addr × Obj)) : Prop where
  isI : ∀ a ∈ xs, ∃ i t, a = .val (.int i t)
  off : ∀ p ∈ news, @Ne Nat p.1 I
  led : ∃ (zs : List Value) (n : Nat) (new : List (Addr × Obj)), news = (DS, lo) :: (SP, listOf zs.toArray n) :: (new ++ R0) ∧ Fresh new R0 ∧ (∀ p ∈ new ++ R0, @Ne Nat p.1 SP) ∧ (∀ v ∈ zs, SpotIn (new ++ rest) v) ∧ zs.length + xs.length ≤ b
theorem Fr.unbind {h₀ h : Heap} {L : Addr} {m : Str → Option Value} {n : Str} {a b : Option Value} (F : Fr h₀ L h (fun y => if y = n then a else if y = n then b else m y)) : Fr h₀ L h (fun y => if y = n then a else m y) := by
  have e : (fun y => if y = n then a else if y = n then b else m y) = fun y => if y = n then a else m y := by
    funext y; by_cases h : y = n <;> simp [h]
  rw [← e]; exact F
theorem spots_upd {D9 I DS SP : Addr} {o9 oI lo : Obj} {R0 new : List (Addr × Obj)} {zs : List Value} {n : Nat} (h1 : @Ne Nat D9 SP) (h2 : @Ne Nat I SP) (h3 : @Ne Nat DS SP) (h4 : ∀ p ∈ new ++ R0, @Ne Nat p.1 SP) (x : Value) :
    Upd SP (listOf zs.toArray n) (listOf (zs.toArray.push x) (n + 1)) ((D9, o9) :: (I, oI) :: (DS, lo) :: (SP, listOf zs.toArray n) :: (new ++ R0)) ((D9, o9) :: (I, oI) :: (DS, lo) :: (SP, listOf (zs ++ [x]).toArray (n + 1)) :: (new ++ R0)) := by
  rw [← push_l]
  exact .tail h1 (.tail h2 (.tail h3 (.head h4)))
theorem SpotsK.next {I DS SP D9 : Addr} {lo oI : Obj} {R0 rest new : List (Addr × Obj)} {b n : Nat} {a : Itm} {xs : List Itm} {zs : List Value} {l c : Int} {tl tc : Tok} (k : SpotsK I DS SP lo R0 rest b (a :: xs) ((DS, lo) :: (SP, listOf zs.toArray n) :: (new ++ R0)))
    (hfr : Fresh new R0) (hne : ∀ p ∈ new ++ R0, @Ne Nat p.1 SP) (hsp : ∀ v ∈ zs, SpotIn (new ++ rest) v) (hb : zs.length + (a :: xs).length ≤ b) (lt : ∀ q ∈ (I, oI) :: (DS, lo) :: (SP, listOf zs.toArray n) :: (new ++ R0), @LT.lt Nat _ q.1 D9) :
    SpotsK I DS SP lo R0 rest b xs ((DS, lo) :: (SP, listOf (zs ++ [Value.ref D9]).toArray (n + 1)) :: ((D9, tup2 l tl c tc) :: new ++ R0)) := by
  refine ⟨fun a ha => k.isI a (.tail _ ha), fun p hp => ?_, zs ++ [Value.ref D9], n + 1, (D9, tup2 l tl c tc) :: new, rfl, fun p hp q hq => ?_, fun p hp => ?_, fun v hv => ?_, ?_⟩
  · rcases List.mem_cons.mp hp with rfl | hp
    · exact k.off _ (.head _)
    · rcases List.mem_cons.mp hp with rfl | hp
      · exact k.off (SP, listOf zs.toArray n) (.tail _ (.head _))
      · rcases List.mem_cons.mp hp with rfl | hp
        · exact Nat.ne_of_gt (lt _ (.head _))
        · exact k.off _ (.tail _ (.tail _ hp))
  · rcases List.mem_cons.mp hp with rfl | hp
    · exact lt _ (.tail _ (.tail _ (.tail _ (List.mem_append_right _ hq))))
    · exact hfr p hp q hq
  · rcases List.mem_cons.mp hp with rfl | hp
    · exact Nat.ne_of_gt (lt (SP, listOf zs.toArray n) (.tail _ (.tail _ (.head _))))
    · exact hne p hp
  · rcases List.mem_append.mp hv with hv | hv
    · exact (hsp v hv).more fun p hp => .tail _ hp
    · exact ⟨D9, l, tl, c, tc, List.mem_singleton.mp hv, .head _⟩
  · rw [List.length_append, List.length_singleton]
    simp only [List.length_cons] at hb
    omega
/-- a walk cut: ahead of the cut nothing raises -/
theorem cutF {M : Model} {A : Around} {α : Type} {E : Value → Shared → Prop} {s : Shared} {t : Sem α} {Q : α → Shared → Prop} {g : Heap} {L : Addr} {m : Str → Option Value} (_F : Fr g L s.heap m) (P : (Str → Option Value) → α → Shared → Prop)
    (a : wpAny M A t (P m) (fun _ _ => False) s) (b : ∀ v s', P m v s' → Q v s') : wpAny M A t Q E s := wpAny_mono a b fun _ _ e => e.elim
/-- the places are laid -/
def SpotsPost (_n : Str) (SP : Addr) (R0 rest : List (Addr × Obj)) (g : Heap) (L : Addr) (m : Str → Option Value) (s : Shared) (f : Flow) (s' : Shared) : Prop :=
  f = .next ∧ ∃ cv zs n new h' tk', s' = { s with heap := h', toks := tk' } ∧ Fr g L h' (fun y => if y = Str.ofString "number" then cv else m y) ∧ News g L h' ((SP, listOf (List.toArray zs) n) :: (new ++ R0)) ∧ Fresh new R0 ∧
    (∀ p ∈ new ++ R0, @Ne Nat p.1 SP) ∧ (∀ v ∈ zs, SpotIn (new ++ rest) v) ∧ zs.length ≤ 300
theorem spots_len {en lv ys ws : List Value} {ls : List LeafR} {n1 n2 : Option Int} {n3 n4 : Option Int} {ns : List Int} {a b : Nat} (h1 : en.length = ls.length + 1) (h2 : lv = ls.map fun a => .ref a.ref) (h3 : ls.length ≤ 64) (h4 : ys.length = (kms_pick lv.toArray.toList n3 n4).toArray.size)
    (h5 : IntsAre ws ((ns.drop a).take b)) (h6 : ns.length ≤ 63) : ((kms_pick en.toArray.toList n1 n2).toArray.toList ++ ys.toArray.toList).length + (List.map Itm.val ws).length ≤ 300 := by
  have g1 := kms_pick_len (l := en.toArray.toList) (lo := n1) (hi := n2)
  have g2 := kms_pick_len (l := lv.toArray.toList) (lo := n3) (hi := n4)
  have g3 := h5.length
  rw [List.length_take, List.length_drop] at g3
  rw [List.length_append, List.length_map, g3]
  rw [List.size_toArray] at h4
  have e1 : en.toArray.toList.length = en.length := rfl
  have e2 : lv.toArray.toList.length = lv.length := rfl
  rw [e1, h1] at g1
  rw [e2] at g2
  have e3 : lv.length = ls.length := by rw [h2, List.length_map]
  have e4 : (kms_pick en.toArray.toList n1 n2).toArray.toList.length = (kms_pick en.toArray.toList n1 n2).length := rfl
  have e5 : ys.toArray.toList.length = ys.length := rfl
  rw [e4, e5]
  omega
theorem ends_last {w : World} {rest : List (Addr × Obj)} {st : Sta} {ls : List LeafR} (S : St w rest st ls) : ∃ e ta tb, st.en[st.en.length - 1]? = some (.ref e) ∧ (e, tup2 (endAt ls ls.length).1 ta (endAt ls ls.length).2 tb) ∈ rest := by
  have hn := S.enl
  have hlt : st.en.length - 1 < st.en.length := by omega
  obtain ⟨a, ta, tb, e1, e2⟩ := S.en _ _ (List.getElem?_eq_getElem hlt)
  have e3 : st.en.length - 1 = ls.length := by omega
  rw [e3] at e2
  exact ⟨a, ta, tb, by rw [List.getElem?_eq_getElem hlt, e1], e2⟩
theorem spots_sz {zs : List Value} {a : Itm} {xs : List Itm} (h : zs.length + (a :: xs).length ≤ 300) : zs.length ≤ 16777216 := by omega
theorem perm4 (d : Addr × Obj) {i a b : Addr × Obj} {new R0 : List (Addr × Obj)} : ∀ p ∈ [i] ++ (a :: b :: (d :: new ++ R0)), p ∈ d :: i :: a :: b :: (new ++ R0) := fun p hp => by
  simp only [List.cons_append, List.nil_append, List.mem_cons, List.mem_append] at hp ⊢
  rcases hp with h | h | h | h | h | h <;> simp only [h, true_or, or_true]
/-- some int, and nothing else moved -/
def IntPost (R : List (Addr × Obj)) (g : Heap) (L : Addr) (m : Str → Option Value) (s : Shared) (v : Value) (s' : Shared) : Prop :=
  ∃ z t h' tk', v = .int z t ∧ s' = { s with heap := h', toks := tk' } ∧ Fr g L h' m ∧ News g L h' R
theorem node_at {l : List Value} {z : Int} (hne : l ≠ []) : ∃ v, 0 ≤ z.fmod ((l.length : Nat) : Int) ∧ z.fmod ((l.length : Nat) : Int) < ((l.length : Nat) : Int) ∧ l[(z.fmod ((l.length : Nat) : Int)).toNat]? = some v ∧ v ∈ l := by
  have hp : 0 < l.length := List.length_pos_iff.mpr hne
  have h0 : (0 : Int) < ((l.length : Nat) : Int) := by omega
  have h1 := Int.fmod_nonneg_of_pos z h0
  have h2 := Int.fmod_lt_of_pos z h0
  have h3 : (z.fmod ((l.length : Nat) : Int)).toNat < l.length := by omega
  exact ⟨_, h1, h2, List.getElem?_eq_getElem h3, List.getElem_mem h3⟩
end Mine
end

section
open PySem PySem.W PyProof.Rows PySem.Calls
set_option Elab.async false
set_option maxRecDepth 100000
namespace Mine

/-! the ledger while the answers are asked for: the place's cell, the table of codes, the code, the rest that stands still -/
def CellIs (o : Obj) (v : Option Value) : Prop := o.data = .cell v
def LoopLed (cS : Addr) (B : List (Addr × Obj)) (v : Option Value) (news : List (Addr × Obj)) : Prop :=
  ∃ oC ps cx, news = (cS, oC) :: (237, tabObj ps) :: (cx ++ B) ∧ CellIs oC v ∧ TabOk ps cx ∧ ∀ q ∈ cx, @Ne Nat q.1 237 ∧ @Ne Nat q.1 cS ∧ ∀ p ∈ B, @Ne Nat p.1 q.1
/-- the still part is off the cell and the table -/
def Still (cS : Addr) (B : List (Addr × Obj)) : Prop := @Ne Nat cS 237 ∧ ∀ p ∈ B, @Ne Nat p.1 237 ∧ @Ne Nat p.1 cS
section
variable {cS I : Addr} {o : Obj} {B news : List (Addr × Obj)} {v : Option Value}
theorem LoopLed.still (h : LoopLed cS B v news) : ∀ p ∈ B, p ∈ news := fun p hp => by
  obtain ⟨oC, ps, cx, rfl, _⟩ := h
  exact .tail _ (.tail _ (List.mem_append_right _ hp))
theorem LoopLed.pushL {its : List (Addr × Obj)} (h : LoopLed cS B v news) (off : ∀ p ∈ news, ∀ q ∈ its, @Ne Nat p.1 q.1) : ∃ news', (∀ p ∈ news', p ∈ its ++ news) ∧ LoopLed cS (its ++ B) v news' := by
  obtain ⟨oC, ps, cx, rfl, hv, ht, hd⟩ := h
  refine ⟨_, fun p hp => ?_, oC, ps, cx, rfl, hv, ht, fun q hq => ⟨(hd q hq).1, (hd q hq).2.1, fun p hp => ?_⟩⟩
  · simp only [List.mem_cons, List.mem_append] at hp ⊢
    rcases hp with h | h | h | h | h <;> simp only [h, true_or, or_true]
  · rcases List.mem_append.mp hp with hp | hp
    · exact (off q (.tail _ (.tail _ (List.mem_append_left _ hq))) p hp).symm
    · exact (hd q hq).2.2 p hp
def OffIts (its : List (Addr × Obj)) (cS : Addr) (B : List (Addr × Obj)) : Prop := ∀ q ∈ its, @Ne Nat cS q.1 ∧ @Ne Nat 237 q.1 ∧ ∀ p ∈ B, @Ne Nat p.1 q.1
theorem LoopLed.popL {its : List (Addr × Obj)} (h : LoopLed cS (its ++ B) v news) (ho : OffIts its cS B) : ∃ news', (∀ p ∈ its ++ news', p ∈ news) ∧ LoopLed cS B v news' ∧ ∀ p ∈ news', ∀ q ∈ its, @Ne Nat p.1 q.1 := by
  obtain ⟨oC, ps, cx, rfl, hv, ht, hd⟩ := h
  refine ⟨_, fun p hp => ?_, ⟨oC, ps, cx, rfl, hv, ht, fun q hq => ⟨(hd q hq).1, (hd q hq).2.1, fun p hp => (hd q hq).2.2 p (List.mem_append_right _ hp)⟩⟩, fun p hp q hq => ?_⟩
  · simp only [List.mem_cons, List.mem_append] at hp ⊢
    rcases hp with h | h | h | h | h <;> simp only [h, true_or, or_true]
  · rcases List.mem_cons.mp hp with rfl | hp
    · exact (ho q hq).1
    · rcases List.mem_cons.mp hp with rfl | hp
      · exact (ho q hq).2.1
      · rcases List.mem_append.mp hp with hp | hp
        · exact ((hd p hp).2.2 q (List.mem_append_left _ hq)).symm
        · exact (ho q hq).2.2 p hp
theorem LoopLed.offs {its : List (Addr × Obj)} (h : LoopLed cS B v news) (off : ∀ p ∈ news, ∀ q ∈ its, @Ne Nat p.1 q.1) : OffIts its cS B := fun q hq => by
  obtain ⟨oC, ps, cx, rfl, hv, ht, hd⟩ := h
  exact ⟨off _ (.head _) q hq, off _ (.tail _ (.head _)) q hq, fun p hp => off p (.tail _ (.tail _ (List.mem_append_right _ hp))) q hq⟩
theorem LoopLed.sub {B' : List (Addr × Obj)} (h : LoopLed cS B v news) (hB : ∀ p ∈ B', p ∈ B) : ∃ news', (∀ p ∈ news', p ∈ news) ∧ LoopLed cS B' v news' := by
  obtain ⟨oC, ps, cx, rfl, hv, ht, hd⟩ := h
  refine ⟨_, fun p hp => ?_, oC, ps, cx, rfl, hv, ht, fun q hq => ⟨(hd q hq).1, (hd q hq).2.1, fun p hp => (hd q hq).2.2 p (hB p hp)⟩⟩
  simp only [List.mem_cons, List.mem_append] at hp ⊢
  rcases hp with h | h | h | h
  · exact .inl h
  · exact .inr (.inl h)
  · exact .inr (.inr (.inl h))
  · exact .inr (.inr (.inr (hB p h)))
theorem LoopLed.pushB {its : List (Addr × Obj)} {all : List (Addr × Obj)} (h : LoopLed cS B v news) (hn : ∀ p ∈ its ++ news, p ∈ all) (off : ∀ p ∈ news, ∀ q ∈ its, @Ne Nat p.1 q.1) : ∃ news', (∀ p ∈ news', p ∈ all) ∧ LoopLed cS (its ++ B) v news' :=
  let ⟨n, a, b⟩ := h.pushL off; ⟨n, fun p hp => hn p (a p hp), b⟩
/-- behind a search -/
theorem LoopLed.got {ps : Array Value} {oC : Obj} {cx news' : List (Addr × Obj)} (hv : CellIs oC v) (ht : TabOk ps cx) (hd : ∀ q ∈ cx, @Ne Nat q.1 237 ∧ @Ne Nat q.1 cS ∧ ∀ p ∈ B, @Ne Nat p.1 q.1)
    (g : GetPost ps ((cS, oC) :: (cx ++ B)) news') : ∃ news₂, (∀ p ∈ news₂, p ∈ news') ∧ LoopLed cS B v news₂ := by
  obtain ⟨c', cx2, rfl, hc, hlt, hset, hnew⟩ := g
  rcases ht with rfl | ⟨c2, rfl, hc2⟩
  · refine ⟨_, fun p hp => ?_, oC, setTab c', cx2 ++ cx, rfl, hv, .inr ⟨c', rfl, (hnew rfl).mono fun p hp => List.mem_append_left _ hp⟩, fun q hq => ?_⟩
    · simp only [List.mem_cons, List.mem_append] at hp ⊢
      rcases hp with h | h | (h | h) | h <;> simp only [h, true_or, or_true]
    · rcases List.mem_append.mp hq with hq | hq
      · have h1 := hlt q hq
        exact ⟨Nat.ne_of_gt h1.1, Nat.ne_of_gt (h1.2 _ (.head _)), fun p hp => Nat.ne_of_lt (h1.2 p (.tail _ (List.mem_append_right _ hp)))⟩
      · exact hd q hq
  · obtain ⟨e1, rfl⟩ := hset (fun e => absurd (congrArg Array.size e) (Nat.succ_ne_zero 2))
    refine ⟨_, fun p hp => ?_, oC, setTab c2, cx, rfl, hv, .inr ⟨c2, rfl, hc2⟩, hd⟩
    rw [e1] at hp
    simp only [List.mem_cons, List.mem_append, List.nil_append] at hp ⊢
    rcases hp with h | h | h | h <;> simp only [h, true_or, or_true]
theorem LoopLed.search (h : LoopLed cS B v news) (hs : Still cS B) : ∃ oC ps cx, CellIs oC v ∧ TabOk ps cx ∧ (∀ q ∈ cx, @Ne Nat q.1 237 ∧ @Ne Nat q.1 cS ∧ ∀ p ∈ B, @Ne Nat p.1 q.1) ∧ (∀ p ∈ (237, tabObj ps) :: (cS, oC) :: (cx ++ B), p ∈ news) ∧
    (∀ p ∈ (cS, oC) :: (cx ++ B), p.1 ≠ 237) ∧ TabOk ps ((cS, oC) :: (cx ++ B)) ∧ ∀ p ∈ B, p ∈ (cS, oC) :: (cx ++ B) := by
  obtain ⟨oC, ps, cx, rfl, hv, ht, hd⟩ := h
  refine ⟨oC, ps, cx, hv, ht, hd, fun p hp => ?_, fun p hp => ?_, ?_, fun p hp => .tail _ (List.mem_append_right _ hp)⟩
  · simp only [List.mem_cons, List.mem_append] at hp ⊢
    rcases hp with h | h | h | h <;> simp only [h, true_or, or_true]
  · rcases List.mem_cons.mp hp with rfl | hp
    · exact hs.1
    · rcases List.mem_append.mp hp with hp | hp
      · exact (hd p hp).1
      · exact (hs.2 p hp).1
  · rcases ht with rfl | ⟨c2, rfl, hc2⟩
    · exact .inl rfl
    · exact .inr ⟨c2, rfl, hc2.mono fun p hp => .tail _ (List.mem_append_left _ hp)⟩
theorem Still.pushL {its : List (Addr × Obj)} (h : Still cS B) (ho : OffIts its cS B) : Still cS (its ++ B) :=
  ⟨h.1, fun p hp => by
    rcases List.mem_append.mp hp with hp | hp
    · exact ⟨(ho p hp).2.1.symm, (ho p hp).1.symm⟩
    · exact h.2 p hp⟩
/-- the cell is set -/
theorem LoopLed.set (h : LoopLed cS B v news) (hs : Still cS B) : ∃ oC g, news = (cS, oC) :: g ∧ UpdF cS oC news (fun o' => (cS, o') :: g) ∧ CellIs oC v ∧ ∀ o' v', CellIs o' v' → LoopLed cS B v' ((cS, o') :: g) := by
  obtain ⟨oC, ps, cx, rfl, hv, ht, hd⟩ := h
  refine ⟨oC, _, rfl, .head fun p hp => ?_, hv, fun o' v' h' => ⟨o', ps, cx, rfl, h', ht, hd⟩⟩
  rcases List.mem_cons.mp hp with rfl | hp
  · exact hs.1.symm
  · rcases List.mem_append.mp hp with hp | hp
    · exact (hd p hp).2.1
    · exact (hs.2 p hp).2
end

theorem still_base {w : World} {i : Ids} {st : Sta} {cS cE : Addr} {oS oE : Obj} {rest R5 new top : List (Addr × Obj)} {a b : Obj} (O : Off i [(cS, oS), (cE, oE), (237, tabObj #[])] rest) (hR : led i st [(cS, oS), (cE, oE), (237, tabObj #[])] rest = R5) (fr : Fresh new R5)
    (h1 : @Ne Nat cE 237) (h2 : @Ne Nat cS 237) (h3 : @Ne Nat cE cS) (ht : ∀ p ∈ top, ∀ q ∈ R5, @Ne Nat q.1 p.1) : Still cS (top ++ (i.Lv, a) :: (i.En, b) :: (cE, oE) :: (new ++ rest)) := by
  have m1 : (cS, oS) ∈ R5 := hR ▸ led_m (.head _)
  have m2 : (237, tabObj #[]) ∈ R5 := hR ▸ led_m (.tail _ (.tail _ (.head _)))
  refine ⟨h2, fun p hp => ?_⟩
  rcases List.mem_append.mp hp with hp | hp
  · exact ⟨(ht p hp _ m2).symm, (ht p hp _ m1).symm⟩
  · rcases List.mem_cons.mp hp with rfl | hp
    · exact ⟨(O.m _ (.tail _ (.tail _ (.head _)))).l.symm, (O.m _ (.head _)).l.symm⟩
    · rcases List.mem_cons.mp hp with rfl | hp
      · exact ⟨(O.m _ (.tail _ (.tail _ (.head _)))).e.symm, (O.m _ (.head _)).e.symm⟩
      · rcases List.mem_cons.mp hp with rfl | hp
        · exact ⟨h1, h3⟩
        · rcases List.mem_append.mp hp with hp | hp
          · exact ⟨Nat.ne_of_gt (fr p hp _ m2), Nat.ne_of_gt (fr p hp _ m1)⟩
          · exact ⟨(O.x _ (.tail _ (.tail _ (.head _))) p hp).symm, (O.x _ (.head _) p hp).symm⟩
theorem LoopLed.start {cS : Addr} {oS : Obj} {B R : List (Addr × Obj)} {v : Option Value} (hv : CellIs oS v) (h1 : (cS, oS) ∈ R) (h2 : (237, tabObj #[]) ∈ R) (h3 : ∀ p ∈ B, p ∈ R) : ∃ news, (∀ p ∈ news, p ∈ R) ∧ LoopLed cS B v news :=
  ⟨_, fun p hp => by
    rcases List.mem_cons.mp hp with rfl | hp
    · exact h1
    · rcases List.mem_cons.mp hp with rfl | hp
      · exact h2
      · exact h3 p hp, oS, #[], [], rfl, hv, .inl rfl, fun _ h => by cases h⟩

theorem LoopLed.startN {h₀ h : Heap} {L cS : Addr} {oS : Obj} {B R : List (Addr × Obj)} {v : Option Value} (N : News h₀ L h R) (hv : CellIs oS v) (h1 : (cS, oS) ∈ R) (h2 : (237, tabObj #[]) ∈ R) (h3 : ∀ p ∈ B, p ∈ R) : ∃ news, News h₀ L h news ∧ LoopLed cS B v news :=
  let ⟨n, a, b⟩ := LoopLed.start hv h1 h2 h3; ⟨n, News.less N a, b⟩
/-- a node that is asked, of which leaves it has, and whether both ways -/
abbrev tup4 (x : Addr) (lo : Int) (t1 : Tok) (hi : Int) (t2 : Tok) (b : Bool) : Obj := { cls := .type "tuple", data := .seq #[.ref x, .int lo t1, .int hi t2, .bool b] }
def NodeItem (w : World) (R : List (Addr × Obj)) (ls : List LeafR) (v : Value) : Prop := ∃ T x dx t1 t2 b d pre mid post, v = .ref T ∧ (T, tup4 x (pre.length : Nat) t1 ((pre.length + mid.length : Nat)) t2 b) ∈ R ∧ (x, instObj 280 dx) ∈ R ∧
  ls = pre ++ mid ++ post ∧ TreeIn w R d (.ref x) mid ∧ d ≤ 4
structure NmA (SP Lv : Addr) (m : Str → Option Value) : Prop where
  sp : m (Str.ofString "spots") = some (.ref SP)
  lv : m (Str.ofString "leaves") = some (.ref Lv)
structure NmB (SP Lv x : Addr) (lo hi : Int) (t1 t2 : Tok) (b : Bool) (m : Str → Option Value) : Prop where
  a : NmA SP Lv m
  no : m (Str.ofString "node") = some (.ref x)
  lo : m (Str.ofString "low") = some (.int lo t1)
  hi : m (Str.ofString "high") = some (.int hi t2)
  bo : m (Str.ofString "both") = some (.bool b)
structure LoopA (w : World) (cS SP Lv I : Addr) (ls : List LeafR) (B : List (Addr × Obj)) (xs : List Itm) (m : Str → Option Value) (news : List (Addr × Obj)) : Prop where
  nm : NmA SP Lv m
  its : ∀ a ∈ xs, ∃ v, a = .val v ∧ NodeItem w B ls v
  led : ∃ v, LoopLed cS B v news
  off : ∀ p ∈ news, @Ne Nat p.1 I
structure LoopB (nm : (Str → Option Value) → Prop) (cS I1 I2 : Addr) (R B : List (Addr × Obj)) (xs : List Itm) (m : Str → Option Value) (news : List (Addr × Obj)) : Prop where
  nm : nm m
  its : ∀ a ∈ xs, ∃ (i : Nat) (v : Value), a = .pair (fun t => .int (i : Int) t) v ∧ SpotIn R v
  led : ∃ v, LoopLed cS B v news
  off : ∀ p ∈ news, @Ne Nat p.1 I1 ∧ @Ne Nat p.1 I2
structure LoopC (nm : (Str → Option Value) → Prop) (cS I sp : Addr) (B : List (Addr × Obj)) (xs : List Itm) (m : Str → Option Value) (news : List (Addr × Obj)) : Prop where
  nm : nm m
  its : ∀ a ∈ xs, ∃ b, a = .val (.bool b)
  led : LoopLed cS B (some (.ref sp)) news
  off : ∀ p ∈ news, @Ne Nat p.1 I
/-- a turn's end -/
theorem turn_end {g h' : Heap} {L cS : Addr} {m' : Str → Option Value} {s₁ : Shared} {its B big news : List (Addr × Obj)} {v : Option Value} {tk' : Nat} {r : (Str → Option Value) → List (Addr × Obj) → Prop} (F : Fr g L h' m') (N : News g L h' big) (hl : LoopLed cS (its ++ B) v news) (hs : ∀ p ∈ news, p ∈ big) (ho : OffIts its cS B)
    (k : ∀ news', LoopLed cS B v news' → (∀ p ∈ news', ∀ q ∈ its, @Ne Nat p.1 q.1) → (∀ p ∈ B, p ∈ news') → r m' news') : UnrEndW g L s₁ its r { s₁ with heap := h', toks := tk' } := by
  obtain ⟨n', h1, h2, h3⟩ := hl.popL ho
  exact ⟨h', tk', m', n', rfl, F, News.less N fun p hp => hs p (h1 p hp), h3, k n' h2 h3 h2.still⟩
theorem enum_mem : ∀ (vs : List Value) (i : Nat) (a : Itm), a ∈ enumItems i vs → ∃ (j : Nat) (v : Value), a = .pair (fun t => .int (j : Int) t) v ∧ v ∈ vs
  | [], _, _, h => by cases h
  | v :: r, i, a, h => by
    rcases List.mem_cons.mp h with rfl | h
    · exact ⟨i, v, rfl, .head _⟩
    · obtain ⟨j, u, e, hu⟩ := enum_mem r (i + 1) a h
      exact ⟨j, u, e, .tail _ hu⟩
def BoolsPost (R : List (Addr × Obj)) (g : Heap) (L : Addr) (m : Str → Option Value) (s : Shared) (v : Value) (s' : Shared) : Prop :=
  ∃ D vs n h' tk', v = .ref D ∧ s' = { s with heap := h', toks := tk' } ∧ Fr g L h' m ∧ News g L h' ((D, listOf (List.toArray vs) n) :: R) ∧ (∀ p ∈ R, @LT.lt Nat _ p.1 D) ∧ ∀ u ∈ vs, ∃ b, u = .bool b
theorem bools_one {b : Bool} : ∀ u ∈ [Value.bool b], ∃ b, u = .bool b := fun u hu => ⟨b, List.mem_singleton.mp hu⟩
theorem bools_two {a b : Bool} : ∀ u ∈ [Value.bool a, Value.bool b], ∃ b, u = .bool b := fun u hu => by
  simp only [List.mem_cons, List.not_mem_nil, or_false] at hu
  rcases hu with rfl | rfl
  · exact ⟨_, rfl⟩
  · exact ⟨_, rfl⟩
/-- the frame with the names that are read put in front -/
theorem NmB.front {h₀ h : Heap} {L SP Lv x : Addr} {lo hi : Int} {t1 t2 : Tok} {b : Bool} {m : Str → Option Value} (n : NmB SP Lv x lo hi t1 t2 b m) (F : Fr h₀ L h m) :
    Fr h₀ L h (fun y => if y = Str.ofString "both" then some (.bool b) else if y = Str.ofString "high" then some (.int hi t2) else if y = Str.ofString "low" then some (.int lo t1) else if y = Str.ofString "node" then some (.ref x) else if y = Str.ofString "leaves" then some (.ref Lv) else if y = Str.ofString "spots" then some (.ref SP) else m y) := by
  have F1 := Fr.bind_same F n.a.sp
  have F2 := Fr.bind_same (n := Str.ofString "leaves") (v := .ref Lv) F1 n.a.lv
  have F3 := Fr.bind_same (n := Str.ofString "node") (v := .ref x) F2 n.no
  have F4 := Fr.bind_same (n := Str.ofString "low") (v := .int lo t1) F3 n.lo
  have F5 := Fr.bind_same (n := Str.ofString "high") (v := .int hi t2) F4 n.hi
  exact Fr.bind_same (n := Str.ofString "both") (v := .bool b) F5 n.bo
def ValPost (R : List (Addr × Obj)) (u : Value) (g : Heap) (L : Addr) (m : Str → Option Value) (s : Shared) (v : Value) (s' : Shared) : Prop :=
  v = u ∧ ∃ h' tk', s' = { s with heap := h', toks := tk' } ∧ Fr g L h' m ∧ News g L h' R
theorem ends_at {w : World} {rest : List (Addr × Obj)} {st : Sta} {ls : List LeafR} (S : St w rest st ls) {k : Nat} (hk : k ≤ ls.length) : ∃ e ta tb, st.en[k]? = some (.ref e) ∧ (e, tup2 (endAt ls k).1 ta (endAt ls k).2 tb) ∈ rest := by
  have hn := S.enl
  have hlt : k < st.en.length := by omega
  obtain ⟨a, ta, tb, e1, e2⟩ := S.en _ _ (List.getElem?_eq_getElem hlt)
  exact ⟨a, ta, tb, by rw [List.getElem?_eq_getElem hlt, e1], e2⟩
def ToldPost (cS : Addr) (B : List (Addr × Obj)) (vc : Option Value) (n : Str) (u : Value) (g : Heap) (L : Addr) (m : Str → Option Value) (s : Shared) (f : Flow) (s' : Shared) : Prop :=
  f = .next ∧ ∃ h' tk' n2, s' = { s with heap := h', toks := tk' } ∧ Fr g L h' (fun y => if y = n then some u else m y) ∧ News g L h' n2 ∧ LoopLed cS B vc n2
theorem node_dict {w : World} {h₀ h : Heap} {L x dx : Addr} {R : List (Addr × Obj)} {d : Nat} {ls : List LeafR} (N : News h₀ L h R) (t : TreeIn w R d (.ref x) ls) (hx : (x, instObj 280 dx) ∈ R) : ∃ t1 t2 t3 cl pv yv n, (dx, dictOf (nodeEs w t1 t2 t3 (.ref cl) pv yv) n) ∈ R := by
  cases t with
  | leaf h1 => have e := News.uniq N h1 hx; cases e
  | @node d x dx2 cl t1 t2 t3 pv yv n n' vs lss h1 h2 =>
    have e := News.uniq N h1 hx
    injection e with _ e
    obtain rfl := Option.some.inj e
    exact ⟨_, _, _, _, _, _, _, h2⟩
theorem mid_ord {pre mid post ls : List LeafR} (h : Ord ls) (e : ls = pre ++ mid ++ post) : Ord mid := h.sub (by
  rw [e, List.append_assoc]
  exact (List.sublist_append_left _ _).trans (List.sublist_append_right _ _))
theorem mid_small {p m : Nat} (h : p + m ≤ 1000) : Builtin.Range.small (p : Int) ((p + m : Nat) : Int) 1 = true := small_one (by omega) (by omega) (by omega) (by omega)
theorem mid_size {p m : Nat} : Builtin.Range.rangeSize (p : Int) ((p + m : Nat) : Int) 1 = ((m : Nat) : Int) := by
  rw [rangeSize_nat]
  omega
theorem First.yesI {q : Nat → Bool} {lo i : Nat} {ys : List Value} {t : Tok} (h : First q lo i ys) (hq : q i = true) : First q lo (i + 1) (ys ++ [.int ((lo : Int) + (i : Int)) t]) := by
  have := h.yes (t := t) hq
  rw [Int.natCast_add] at this
  exact this
theorem leaf_at {w : World} {rest : List (Addr × Obj)} {st : Sta} {ls : List LeafR} {k : Nat} {a : LeafR} (S : St w rest st ls) (h : ls[k]? = some a) : st.lv[((k : Nat) : Int).toNat]? = some (.ref a.ref) := by
  rw [Int.toNat_natCast, S.lv, List.getElem?_map, h]
  rfl
theorem pick_cases (ls : List LeafR) (p : Int × Int) (b : Bool) : pick ls p b = .none ∨ ∃ r, pick ls p b = .ref r := by
  unfold pick
  split
  · split
    · exact .inl rfl
    · exact .inr ⟨_, rfl⟩
  · exact .inl rfl
theorem told_cases {told : Value} {inn : Bool} {ls : List LeafR} {p : Int × Int} {b : Bool} {x : Addr} (h : told = if inn = true then pick ls p b else .ref x) : told = .none ∨ ∃ r, told = .ref r := by
  rw [h]
  split
  · exact pick_cases ls p b
  · exact .inr ⟨x, rfl⟩
end Mine
end

section
open PySem PySem.W PyProof.Rows
set_option Elab.async false
set_option maxRecDepth 100000
namespace Mine
example : (PySem.Challenge.rw_kz0002_01 = PySem.Challenge.rw_kz0002_01) ∧ (Mine.hd.heap_39 = Mine.hd.heap_39) := by k_fill; exact ⟨rfl, rfl⟩

local macro_rules | `(tactic| k_room) => `(tactic| ((try simp only [depth_mark, depth_under_make, depth_under_kw, depth_in1, depth_deeper, depth_caller]); (try dsimp only [topA]); (try simp only [recursionLimit]); omega))
local macro_rules | `(tactic| k_units) => `(tactic| ((try simp only [units_in1, units_deeper, Around.mark_units, units_caller]); (try dsimp only [topA]); (try simp only [cLine]); omega))
local macro_rules | `(tactic| k_mem) => `(tactic| assumption)
local macro_rules | `(tactic| ktr_enter) => `(tactic| (refine' code_defC ?k1 ?k2 ?k3 ?k4 ?k5 ?kA ?kF ?kK ?k6 ?k7 ?k8 ?k9 ?kB ?kD ?_ ?c2 ?c3 ?c4; (case kA => exact rfl); (case kF => exact rfl); (case kK => assumption); (case k1 => k_asm); (case k2 => k_asm); (case k3 => k_asm); (case k4 => k_asm); (case k5 => k_asm); (case k6 => k_is); (case k7 => k_is); (case k8 => k_room); (case k9 => first | exact BindsTo.of_eq rfl | exact binds_K (by k_in) rfl (by k_is) rfl rfl rfl | fail "k_enter: no rule for these arguments"); (case kB => exact rfl); (case kD => decide +kernel); (case c2 => exact rfl); (case c3 => exact rfl); (case c4 => exact rfl); k_whole; intro g' L' h' tk' cells' FG' F' N' Y' B' X' T' l1; (try k_lt l1); k_cells Y'; (try simp only [List.cons_append, List.nil_append] at N'); (try dsimp only); (try k_fold)))
local macro_rules | `(tactic| ktr_enter) => `(tactic| (refine' code_def ?k1 ?k2 ?k3 ?k4 ?k5 ?kA ?kF ?kK ?k6 ?k7 ?k8 ?k9 ?kB ?_ ?c2 ?c3 ?c4 ?c5; (case kA => exact rfl); (case kF => exact rfl); (case kK => first | exact rfl | assumption); (case k1 => k_asm); (case k2 => k_asm); (case k3 => k_asm); (case k4 => k_asm); (case k5 => k_asm); (case k6 => k_is); (case k7 => k_is); (case k8 => k_room); (case k9 => first | exact BindsTo.of_eq rfl | exact binds_K (by k_in) rfl (by k_is) rfl rfl rfl); (case c5 => decide); (case kB => exact locs rfl); (case c2 => exact rfl); (case c3 => exact rfl); (case c4 => exact rfl); k_whole; intro g' L' h' FG' F' N' B' X' T'; (try dsimp only); (try k_fold)))
local macro_rules | `(tactic| k_enter) => `(tactic| ktr_enter)
local macro_rules | `(tactic| k_all) => `(tactic| assumption)
local macro_rules | `(tactic| walk_at "call ref") => `(tactic| refine stop_here ?_)
local macro_rules | `(tactic| walk_at "call type:list cons nil") => `(tactic| refine stop_here ?_)
local macro_rules | `(tactic| walk_at "call type:list") => `(tactic| refine stop_here ?_)
local macro_rules | `(tactic| walk_at "call type:reversed") => `(tactic| refine stop_here ?_)
local macro_rules | `(tactic| walk_at "exec If") => `(tactic| (refine stop_mark 1 ?mk ?_; (case mk => assumption)))
local macro_rules | `(tactic| walk_at "eval Name") => `(tactic| (refine' nameX_C ?N ?kc ?km ?kd ?_ ?ka ?kb; (case kc => with_unfolding_all rfl); (case N => assumption); (case km => assumption); (case kd => assumption); (case ka => rfl); (case kb => rfl)))
local macro_rules | `(tactic| walk_at "eval Name") => `(tactic| (refine stop_mark 2 ?mk ?_; (case mk => assumption)))
local macro_rules | `(tactic| walk_at "subscriptTail Name Slice ref ref") => `(tactic| (refine stop_mark 3 ?mk ?_; (case mk => assumption)))
local macro_rules | `(tactic| walk_at "call builtin:list.append") => `(tactic| refine stop_here ?_)
local macro_rules | `(tactic| walk_at "eval ListComp") => `(tactic| refine stop_here ?_)
local macro_rules | `(tactic| walk_at "CompSrc") => `(tactic| refine stop_here ?_)
local macro_rules | `(tactic| walk_at "CompSrcT") => `(tactic| refine stop_here ?_)
local macro_rules | `(tactic| walk_at "CompEnd") => `(tactic| refine stop_here ?_)
local macro_rules | `(tactic| walk_at "subscriptTail Name UnaryOp ref int") => `(tactic| ((with_reducible show wpAny _ _ (subscriptTail _ _ (Value.ref _) (Value.int (-1) _)) _ _ _); k_dflt (refine' lastL ?k1 ?k2 ?_; (case k1 => exact News.isList (by k_asm) (by k_mem)); (case k2 => assumption); k_whole)))
local macro_rules | `(tactic| walk_at "binaryOp Mod int int") => `(tactic| (first | refine mod_int (by decide) ?_ | refine mod_int (by assumption) ?_))
local macro_rules | `(tactic| walk_at "exec For") => `(tactic| (refine stop_mark 1 ?mk ?_; (case mk => assumption)))
local macro_rules | `(tactic| walk_at "pyIter ref") => `(tactic| refine stop_here ?_)
local macro_rules | `(tactic| walk_at "ItemsRest") => `(tactic| refine stop_here ?_)
local macro_rules | `(tactic| walk_at "UnrEndW") => `(tactic| refine stop_here ?_)
local macro_rules | `(tactic| walk_at "getAttr ref") => `(tactic| (refine stop_mark 5 ?mk ?_; (case mk => assumption)))
local macro_rules | `(tactic| walk_at "eval IfExp") => `(tactic| (refine stop_mark 4 ?mk ?_; (case mk => assumption)))
local macro_rules | `(tactic| walk_at "call builtin:len cons nil") => `(tactic| (refine stop_mark 6 ?mk ?_; (case mk => assumption)))
local macro_rules | `(tactic| walk_at "subscriptTail Name BinOp ref int") => `(tactic| (refine stop_mark 7 ?mk ?_; (case mk => assumption)))
local macro_rules | `(tactic| walk_at "binaryOp Add ref ref") => `(tactic| (refine stop_mark 8 ?mk ?_; (case mk => assumption)))
local macro_rules | `(tactic| walk_at "call type:enumerate") => `(tactic| refine stop_here ?_)
local macro_rules | `(tactic| walk_at "exec For Tuple Call cons nil") => `(tactic| (refine stop_mark 1 ?mk ?_; (case mk => assumption)))
local macro_rules | `(tactic| walk_at "exec For Name IfExp cons nil") => `(tactic| (refine stop_mark 1 ?mk ?_; (case mk => assumption)))
local macro_rules | `(tactic| walk_at "exec For Tuple List cons nil") => `(tactic| (refine stop_mark 1 ?mk ?_; (case mk => assumption)))
local macro_rules | `(tactic| walk_at "storeName ref") => `(tactic| (refine stop_mark 9 ?mk ?_; (case mk => assumption)))
local macro_rules | `(tactic| walk_at "eval BoolOp") => `(tactic| (refine stop_mark 10 ?mk ?_; (case mk => assumption)))
local macro_rules | `(tactic| walk_at "subscriptTail Name Name ref int") => `(tactic| (refine stop_mark 11 ?mk ?_; (case mk => assumption)))
local macro_rules | `(tactic| walk_at "compareOp LtE ref ref") => `(tactic| (refine le_tup2 (by first | exact News.get (by k_asm) (by k_mem)) (by first | exact News.get (by k_asm) (by k_mem)) (by k_units) ?_))
local macro_rules | `(tactic| walk_at "compareOp Lt ref ref") => `(tactic| (refine lt_tup2 (by first | exact News.get (by k_asm) (by k_mem)) (by first | exact News.get (by k_asm) (by k_mem)) (by k_units) ?_))
local macro_rules | `(tactic| walk_at "exec Try") => `(tactic| refine stop_here ?_)
local macro_rules | `(tactic| walk_at "subscriptTail ListComp Constant ref int") => `(tactic| (refine stop_mark 12 ?mk ?_; (case mk => assumption)))
local macro_rules | `(tactic| walk_at "subscriptTail Name Subscript ref int") => `(tactic| (refine stop_mark 13 ?mk ?_; (case mk => assumption)))
local macro_rules | `(tactic| walk_at "compareOp IsNot ref ref") => `(tactic| refine wpAny_isNot_ref_self ?_)
local macro_rules | `(tactic| walk_at "GrownAll") => `(tactic| refine stop_here ?_)
set_option maxHeartbeats 8000000 in
theorem cw : PySem.Challenge.rw_kz0002_01.Holds := by
  refine Mine.hd ⟨Mine.left, ?_⟩
  exact (by
    k_go0
    k_steps
    rename_i W s00 s01 mg mb G Y fa o5 pm cd doc ho hcd hg XX VV TTp BB TE TW zs hs hlay0 hLay hrr hl2 w6 w5 LA LV w2 hLs ra w1 r0 hIs hr5 hcond hcond2 hD h01 tk01 c1o c2o cleft cright K0 X0 T0' B0' l0 LvA hx1 lLv T0 hx2 lT0 EnA hx3 lEn NdA hx4 lNd TT hx5 lTT hx6 hx7 hx8 oE dE hx9 P0 ws hx10 FF NN hI hC' hL' lP0
    have hlen : ws.length ≤ 7 := by rw [hI.length, hC']; omega
    refine Stop.go (krv_reversed FF NN (News.isList NN (.head _)) fun Rv h1 F1 N1 lRv => ?_)
    k_steps
    refine Stop.go (rev_N (by rfl) F1 N1 (News.isList N1 (.tail _ (.head _))) (Nat.ne_of_lt (lRv _ (.head _))) (fun p hp => Nat.ne_of_lt (lRv p hp)) (by rw [sizeLine_eq]; omega) ?_)
    intro PA c1 h2 tk2 F2 N2 lPA
    obtain ⟨N2, O2, S2⟩ := law_start N2 lLv.1 lLv.2.1 lLv.2.2 lT0.1 lEn.1 lNd.1 (lPA _ (.tail _ (.tail _ (.head _)))) hI hlen
    k_steps
    refine Stop.go (Tell.callS (grow 3 (by decide) _ _ _ _ [] _ (S2 _) O2 (by decide) (by show 0 + 4 ^ 3 ≤ 1000; decide)) (by k_asm) (by k_asm) (by k_asm) N2 (fun p hp => hp) (by k_asm) (by k_asm) (by rfl) (by k_room) (by k_units) ?_)
    rintro root _ h3 tk3 F3 N3 ⟨st1, rest1, ls, xr, dr, rfl, rfl, K1, S1, tree, alt, l1, n1⟩
    rw [List.nil_append] at S1
    have mk1 := Mark.mk 1
    k_steps
    clear mk1
    (rename News _ _ _ _ => N4)
    (rename Fr _ _ _ _ => F4)
    refine Stop.go (cut_at F4 (fun mm => RootPost W ⟨PA, LvA, EnA, NdA⟩ [(s01.heap.objs.size + 1 + 1, c1o), (s01.heap.objs.size + 1, oE), (237, tabObj #[])] (ghostOf s01.heap [(241, 237)]) s01.heap.objs.size mm s01) ?ifs ?go)
    case ifs =>
      have tr4 := tree.up
      have tr3 := tree
      have O3 := O2.keeps K1
      cases tree with
      | leaf hm hd ht =>
        have hm' := led_r (i := ⟨PA, LvA, EnA, NdA⟩) (st := st1) (muts := [(s01.heap.objs.size + 1 + 1, c1o), (s01.heap.objs.size + 1, oE), (237, tabObj #[])]) hm
        have hd' := led_r (i := ⟨PA, LvA, EnA, NdA⟩) (st := st1) (muts := [(s01.heap.objs.size + 1 + 1, c1o), (s01.heap.objs.size + 1, oE), (237, tabObj #[])]) hd
        generalize hR4 : led _ st1 _ rest1 = R4 at N4 hm' hd'
        k_steps
        rename_i C5 hC5 FC5 N5 lC5
        subst hR4
        have hl5 : ∀ q ∈ led ⟨PA, LvA, EnA, NdA⟩ st1 [(s01.heap.objs.size + 1 + 1, c1o), (s01.heap.objs.size + 1, oE), (237, tabObj #[])] rest1, @LT.lt Nat _ q.1 C5 := lC5
        have O5 : Off _ ((C5, listOf [Value.ref xr].toArray 0) :: _) rest1 := O3.addC (st := st1) hl5
        refine Stop.go (TellW.useS (node_make (C := C5) (vs := [.ref xr]) (nc := 0) (H := ledH ⟨PA, LvA, EnA, NdA⟩ st1 ((C5, listOf [Value.ref xr].toArray 0) :: [(s01.heap.objs.size + 1 + 1, c1o), (s01.heap.objs.size + 1, oE), (237, tabObj #[])])) (R := rest1) (.tail _ (.tail _ (.tail _ (.tail _ (.head _))))) (fun v hv => ⟨4, _, (List.mem_singleton.mp hv) ▸ tr4⟩) O5.sep) (by k_asm) (by k_asm) (by k_asm) N5 led_out1 (by k_asm) (by k_asm) (by rfl) (by k_room) (by k_units) ?_)
        intro r6 news6 h6 tk6 F6 N6 NP
        obtain ⟨x6, d6, rest6, rfl, N6, O6, k6, hx6, ⟨q1, q2, q3, q4, q5, hd6⟩, hC6⟩ := node_after O5 (fun p hp => Nat.ne_of_lt (hl5 p (led_m hp))) NP N6
        clear NP
        have hNd6 := led_Nd (i := ⟨PA, LvA, EnA, NdA⟩) (st := st1) (muts := [(s01.heap.objs.size + 1 + 1, c1o), (s01.heap.objs.size + 1, oE), (237, tabObj #[])]) (rest := rest6)
        generalize hR6 : led _ st1 _ rest6 = R6 at N6 hNd6
        k_steps
        rename_i D7 hD7 F7 N7 lD7
        subst hR6
        obtain ⟨nv, hnv, N8⟩ := led_one N7
        have O8 : Off _ _ (nv ++ rest6) := O6.more (st := st1) fun p hp q hq => by
          subst hnv
          rw [List.mem_singleton.mp hp]
          exact lD7 q hq
        have k7 : Keeps W [] rest6 (nv ++ rest6) := Keeps.refl.more (led := []) fun p hp q hq => by cases hq
        have hx8 : (x6, instObj 280 d6) ∈ nv ++ rest6 := List.mem_append_right _ hx6
        have tree8 := tree_one hx8 (List.mem_append_right _ hd6) (List.mem_append_right _ hC6) ((tr3.keeps k6).keeps k7)
        have ND := NdOk.mk0 (hnv ▸ List.mem_append_left _ (.head _)) hx8 tree8
        have SF := ((S1.keeps k6).keeps k7).addNode (p1 := st1.nn + 1) ND
        have hn1 : st1.nd.length ≤ 64 := n1
        refine Stop.go (led_appN F7 N8 O8 (by omega) fun h9 F9 N9 => ?_)
        generalize hR9 : led _ _ _ (nv ++ rest6) = R9 at N9
        k_steps
        (rename News _ _ _ _ => N10)
        (rename Fr _ _ _ _ => F10)
        subst hR9
        exact ⟨rfl, x6, d6, _, _, _, _, _, rfl, (by first | exact F10 | exact Fr.rebind F10), N10, O8, SF, tree8, hx8, List.append_ne_nil_of_right_ne_nil _ (List.cons_ne_nil _ _), by show 1 ≤ 64; decide, by rw [List.length_append, List.length_singleton]; omega⟩
      | node hm hd hc h4 h5 h6 hk =>
        have hnd : st1.nd ≠ [] := by
          rcases alt with ⟨hx1, _⟩ | ⟨_, hnd⟩
          · have e := News.uniq N4 (led_r hx1) (led_r hm)
            cases e
          · exact hnd
        have hm' := led_r (i := ⟨PA, LvA, EnA, NdA⟩) (st := st1) (muts := [(s01.heap.objs.size + 1 + 1, c1o), (s01.heap.objs.size + 1, oE), (237, tabObj #[])]) hm
        have hd' := led_r (i := ⟨PA, LvA, EnA, NdA⟩) (st := st1) (muts := [(s01.heap.objs.size + 1 + 1, c1o), (s01.heap.objs.size + 1, oE), (237, tabObj #[])]) hd
        generalize hR4 : led _ st1 _ rest1 = R4 at N4 hm' hd'
        k_steps
        (rename News _ _ _ _ => N5)
        (rename Fr _ _ _ _ => F5)
        subst hR4
        exact ⟨rfl, xr, _, st1, rest1, _, _, _, rfl, Fr.bind_same F5 rfl, N5, O3, S1, tr4, hm, hnd, l1, Nat.le_trans n1 (by show 0 + 4 ^ 3 ≤ 65; decide)⟩
    case go =>
      clear F4 N4 alt tree K1 S1 l1 n1
      rintro _ _ ⟨rfl, x, dx, st5, rest5, ls5, h5, tk5, rfl, F5, N5, O5, S5, T5, hx5', hnd5, hl5, hn5⟩
      have hLv5 := led_Lv (i := ⟨PA, LvA, EnA, NdA⟩) (st := st5) (muts := [(s01.heap.objs.size + 1 + 1, c1o), (s01.heap.objs.size + 1, oE), (237, tabObj #[])]) (rest := rest5)
      have hEn5 := led_En (i := ⟨PA, LvA, EnA, NdA⟩) (st := st5) (muts := [(s01.heap.objs.size + 1 + 1, c1o), (s01.heap.objs.size + 1, oE), (237, tabObj #[])]) (rest := rest5)
      have hNd5 := led_Nd (i := ⟨PA, LvA, EnA, NdA⟩) (st := st5) (muts := [(s01.heap.objs.size + 1 + 1, c1o), (s01.heap.objs.size + 1, oE), (237, tabObj #[])]) (rest := rest5)
      have hm15 := led_m (i := ⟨PA, LvA, EnA, NdA⟩) (st := st5) (muts := [(s01.heap.objs.size + 1 + 1, c1o), (s01.heap.objs.size + 1, oE), (237, tabObj #[])]) (rest := rest5) (.head _)
      have hm25 := led_m (i := ⟨PA, LvA, EnA, NdA⟩) (st := st5) (muts := [(s01.heap.objs.size + 1 + 1, c1o), (s01.heap.objs.size + 1, oE), (237, tabObj #[])]) (rest := rest5) (.tail _ (.head _))
      generalize hR5 : led ⟨PA, LvA, EnA, NdA⟩ st5 [(s01.heap.objs.size + 1 + 1, c1o), (s01.heap.objs.size + 1, oE), (237, tabObj #[])] rest5 = R5 at N5 hLv5 hEn5 hNd5 hm15 hm25
      have mk2 := Mark.mk 2
      k_steps
      clear mk2
      have F6 := F5
      refine Stop.go ?_
      refine' nameX_C N5 ?kc hm25 dE ?_ ?ka ?kb
      case ka => rfl
      case kb => rfl
      case kc => rfl
      have mk3 := Mark.mk 3
      k_steps
      refine Stop.go ?_
      refine' kms_slice_lit F5 N5 (News.isList N5 hEn5) IsPart.none (IsPart.int _ _) rfl ?_ ?hs ?ht ?hz
      case hs => with_unfolding_all rfl
      case ht => (intro _; with_unfolding_all rfl)
      case hz => (rw [List.size_toArray]; have := S5.enl; rw [sizeLine_eq]; omega)
      intro DA hA FA NA lA
      k_steps
      refine Stop.go (LCg.ListComp_U (F₀ := FA) (by rfl) (by decide) (by rfl) (by decide) (by rfl) ?_)
      k_steps
      refine Stop.go ?_
      refine' kms_slice_lit FA NA (News.isList NA (.tail _ hLv5)) (IsPart.int _ _) (IsPart.int _ _) rfl ?_ ?hs ?ht ?hz
      case hs => with_unfolding_all rfl
      case ht => (intro _; with_unfolding_all rfl)
      case hz => (rw [List.size_toArray]; have := S5.lv; rw [this, List.length_map, sizeLine_eq]; omega)
      intro DB hB FB NB lB
      k_steps
      refine Stop.go (LCg.CompSrc.ledger (by rfl) FB NB (.head _) (by rw [List.size_toArray, sizeLine_eq]; have := kms_pick_len (l := st5.lv.toArray.toList) (lo := some 1) (hi := some 3); have h2 := S5.lv; simp only [h2, List.length_map] at this; simp only [h2]; omega) ?_)
      intro g'
      refine CompRest.inv (J := SpotsJ _) ?turn ?fin _ _ _ _ (Nat.zero_add _) SpotsJ.start
      case turn =>
        intro i v ys news hi hv J I oI C oC D m₂ h tk E' hC hx FT NT off ne
        obtain ⟨a, ha, rfl⟩ : ∃ a ∈ ls5, v = .ref a.ref := by
          have h1 := kms_pick_sub v (List.mem_of_getElem? (by simpa using hv))
          have h2 := S5.lv
          simp only [h2] at h1
          obtain ⟨a, ha, e⟩ := List.mem_map.mp h1
          exact ⟨a, ha, e.symm⟩
        have tr := (S5.tr a ha).mono (news' := (I, oI) :: (C, oC) :: (D, LCg.lst ys) :: news) (fun p hp => by
          obtain ⟨new, rfl, _⟩ := J
          exact .tail _ (.tail _ (.tail _ (List.mem_append_right _ (.tail _ (.tail _ (hR5 ▸ led_r hp)))))))
        have mk5 := Mark.mk 5
        k_steps
        clear mk5
        refine Stop.go (TellA.useS (attr_start 0 _ _ _ tr _ [] rfl) (by k_asm) (by k_asm) (by k_asm) NT (fun p hp => hp) (by k_asm) (by k_asm) (by rfl) (by k_room) (by k_units) ?_)
        rintro _ _ h10 tk10 F10 N10 ⟨D10, ta10, tb10, rfl, rfl, l10⟩
        k_steps
        refine Stop.go (comp_spot F10 N10 l10 off J (.head _) fun j => j)
      case fin =>
        rintro ys news ⟨new, rfl, hfr, hyl, hys⟩
        unfold LCg.FinE
        intro DC hC tkC FC NC oC
        k_steps
        refine' kmk_add_lit FC NC (News.isList NC (.tail _ (List.mem_append_right _ (.tail _ (.head _))))) (News.isList NC (.head _)) rfl ?_ ?hz
        case hz => (show _ + _ ≤ _; rw [sizeLine_eq]; have h1 := kms_pick_len (l := st5.en.toArray.toList) (lo := none) (hi := some 3); have h2 := kms_pick_len (l := st5.lv.toArray.toList) (lo := some 1) (hi := some 3); have h3 := S5.lv; have h4 := S5.enl; simp only [h3, List.length_map, List.size_toArray] at h1 h2 hyl ⊢; omega)
        intro SP hS FS NS lS
        have mk1 := Mark.mk 1
        k_steps
        clear mk1
        refine Stop.go (wpAny_noE ?_)
        (rename Fr _ _ _ _ => FS2)
        (rename News _ _ _ _ => NS2)
        refine cutF FS2 (fun mm => SpotsPost (Str.ofString "spots") SP R5 rest5 (ghostOf s01.heap [(241, 237)]) s01.heap.objs.size mm s01) ?nums ?rest
        case nums =>
          obtain ⟨e, te1, te2, hee, heR⟩ := ends_last S5
          have heR5 : (e, tup2 (endAt ls5 ls5.length).1 te1 (endAt ls5 ls5.length).2 te2) ∈ R5 := hR5 ▸ led_r heR
          have hmod : (endAt ls5 ls5.length).1 + 2 ≠ 0 := by
            have h1 := S5.one
            rw [leP_iff] at h1
            omega
          with_unfolding_all refine' For_turns FS2 ?_ (hE := fun _ _ h => h.elim)
          k_steps
          refine Stop.go ?_
          refine' kmk_slice_ints FS2 NS2 (Fr.lst FS2 lifted) (IsPart.int _ _) (IsPart.int _ _) hIs (kmk_run hIs (by decide) (by decide)) rfl ?_ ?hs ?ht ?hz
          case hs => with_unfolding_all rfl
          case ht => (intro _; with_unfolding_all rfl)
          case hz => (rw [List.size_toArray, hIs.length, sizeLine_eq]; omega)
          intro DS wsS h7 F7 N7 l7 hI7 hC7 hL7
          k_steps
          have lSP : ∀ q ∈ new ++ R5, @LT.lt Nat _ q.1 SP := fun q hq => lS q (by
            rcases List.mem_append.mp hq with hq | hq
            · exact .tail _ (List.mem_append_left _ hq)
            · exact .tail _ (List.mem_append_right _ (.tail _ (.tail _ hq))))
          have N8 := News.less N7 (small := (DS, listOf wsS.toArray 0) :: (SP, listOf ((kms_pick st5.en.toArray.toList none (some 3)).toArray.toList ++ ys.toArray.toList).toArray 0) :: (new ++ R5)) (fun p hp => by
            rcases List.mem_cons.mp hp with rfl | hp
            · exact .head _
            · rcases List.mem_cons.mp hp with rfl | hp
              · exact .tail _ (.head _)
              · rcases List.mem_append.mp hp with hp | hp
                · exact .tail _ (.tail _ (.tail _ (List.mem_append_left _ hp)))
                · exact .tail _ (.tail _ (.tail _ (List.mem_append_right _ (.tail _ (.tail _ hp))))))
          have hlen3 : ((kms_pick st5.en.toArray.toList none (some 3)).toArray.toList ++ ys.toArray.toList).length + (List.map Itm.val wsS).length ≤ 300 := spots_len S5.enl S5.lv hl5 hyl hI7 (by omega)
          refine Stop.go (iter_listTurns (by rfl) F7 N8 (.head _) rfl rfl fun I lI => ItemsRest.invN (x := Str.ofString "number") (K := SpotsK I DS SP (listOf wsS.toArray 0) R5 rest5 300) ?step ?done ?start)
          case start =>
            refine ⟨fun a ha => ?_, fun p hp => Nat.ne_of_lt (lI p hp), _, _, new, rfl, fun p hp q hq => hfr p hp q (.tail _ (.tail _ hq)), fun p hp => Nat.ne_of_lt (lSP p hp), fun v hv => ?_, ?_⟩
            · obtain ⟨v, hv, rfl⟩ := List.mem_map.mp ha
              obtain ⟨i, t, rfl⟩ := ints_mem hI7 v hv
              exact ⟨i, t, rfl⟩
            · rcases List.mem_append.mp hv with hv | hv
              · have h1 := kms_pick_sub v hv
                obtain ⟨k, hk⟩ := List.getElem?_of_mem h1
                obtain ⟨a, ta, tb, rfl, hm⟩ := S5.en k v (by simpa using hk)
                exact ⟨a, _, _, _, _, rfl, List.mem_append_right _ hm⟩
              · exact (hys v (by simpa using hv)).more fun p hp => List.mem_append_left _ hp
            · exact hlen3
          case done =>
            rintro cv news ⟨_, _, zs', n', new', rfl, hfr', hne', hsp', hb'⟩ h9 tk9 F9 N9
            exact ⟨rfl, cv, zs', n', new', h9, _, rfl, F9, News.less N9 (fun p hp => .tail _ hp), hfr', hne', hsp', by simpa using hb'⟩
          case step =>
            rintro a r cv news K v h9 tk9 hv F9
            refine AllObj.cons fun o ho => AllObj.nil fun N9 => ?_
            obtain ⟨i, t, rfl⟩ := K.isI a (.head _)
            obtain rfl : v = .int i t := hv
            obtain ⟨zs', n', new', rfl, hfr', hne', hsp', hb'⟩ := K.led
            replace N9 : News _ _ _ ((I, o) :: (DS, listOf wsS.toArray 0) :: (SP, listOf zs'.toArray n') :: (new' ++ R5)) := N9
            have hR5in : ∀ p ∈ R5, p ∈ ((I, o) :: (DS, listOf wsS.toArray 0) :: (SP, listOf zs'.toArray n') :: (new' ++ R5)) := fun p hp => .tail _ (.tail _ (.tail _ (List.mem_append_right _ hp)))
            have hSP9 : (SP, listOf zs'.toArray n') ∈ ((I, o) :: (DS, listOf wsS.toArray 0) :: (SP, listOf zs'.toArray n') :: (new' ++ R5)) := .tail _ (.tail _ (.head _))
            have hEn9 := hR5in _ hEn5
            have hmE9 := hR5in _ hm25
            have he9 := hR5in _ heR5
            generalize hR9 : ((I, o) :: (DS, listOf wsS.toArray 0) :: (SP, listOf zs'.toArray n') :: (new' ++ R5)) = R9 at N9 hSP9 hEn9 hmE9 he9
            k_steps
            rename_i h10 tk10 D9 h11 F11 N11 l11
            subst hR9
            have hIS : @Ne Nat I SP := Ne.symm (K.off (SP, listOf zs'.toArray n') (.tail _ (.head _)))
            have hDS : @Ne Nat DS SP := Nat.ne_of_gt (l7 _ (.head _))
            refine Stop.go (append_K F11 N11 (spots_upd (Nat.ne_of_gt (l11 _ (.tail _ (.tail _ (.head _))))) hIS hDS hne' _) (fun h12 F12 N12 => ?_) (by rw [List.size_toArray, sizeLine_eq]; exact spots_sz hb'))
            k_steps
            have KN := fun l c tl tc => SpotsK.next (l := l) (c := c) (tl := tl) (tc := tc) (oI := o) K hfr' hne' hsp' hb' l11
            refine Stop.go ⟨_, _, _, _, rfl, Fr.unbind F12, News.less N12 (perm4 (D9, _)), fun p hp q hq => ?_, ⟨.head _, trivial⟩, ⟨_, rfl⟩, KN _ _ _ _⟩
            rw [List.mem_singleton.mp hq]
            exact (KN _ _ _ _).off p hp
        case rest =>
          rintro _ _ ⟨rfl, cvN, zsS, nS, newS, h6, tk6, rfl, F6, N6, fr6, ne6, sp6, len6⟩
          have hR5in6 : ∀ p ∈ R5, p ∈ ((SP, listOf zsS.toArray nS) :: (newS ++ R5)) := fun p hp => .tail _ (List.mem_append_right _ hp)
          have hSP6 : (SP, listOf zsS.toArray nS) ∈ ((SP, listOf zsS.toArray nS) :: (newS ++ R5)) := .head _
          have hLv6 := hR5in6 _ hLv5
          have hEn6 := hR5in6 _ hEn5
          have hNd6 := hR5in6 _ hNd5
          have hm16 := hR5in6 _ hm15
          have hm26 := hR5in6 _ hm25
          generalize hR6 : ((SP, listOf zsS.toArray nS) :: (newS ++ R5)) = R6 at N6 hSP6 hLv6 hEn6 hNd6 hm16 hm26
          have mk4 := Mark.mk 4
          k_steps
          clear mk4
          refine Stop.go (cutF F6 (fun mm => IntPost R6 (ghostOf s01.heap [(241, 237)]) s01.heap.objs.size mm s01) ?num ?go)
          case num =>
            k_steps
            all_goals (rename News _ _ _ _ => kN)
            all_goals (rename Fr _ _ _ _ => kF)
            all_goals (exact ⟨_, _, _, _, rfl, rfl, kF, kN⟩)
          case go =>
            rintro _ _ ⟨z, tz, h7, tk7, rfl, rfl, F7, N7⟩
            obtain ⟨vIn, hz1, hz2, hz3, hz4⟩ := node_at (z := z) hnd5
            have hmod : ((st5.nd.length : Nat) : Int) ≠ 0 := by
              have := List.length_pos_iff.mpr hnd5
              omega
            have mk6 := Mark.mk 6
            have mk7 := Mark.mk 7
            k_steps
            refine Stop.go (len_list (News.isList N7 hNd6) (by simp only [List.size_toArray]; omega) ?_)
            simp only [List.size_toArray]
            k_steps
            (rename News _ _ _ _ => N8)
            (rename Fr _ _ _ _ => F8)
            refine Stop.go (item_listL (News.isList N8 hNd6) hz1 (by omega) hz3 ?_)
            clear mk7
            obtain ⟨aIn, xIn, dIn, ti1, ti2, dep, pre, mid, post, rfl, hIn1, hIn2, hIn3, hIn4, hIn5⟩ := S5.nd vIn hz4
            have hIn1' : (aIn, tup3 xIn (pre.length : Nat) ti1 ((pre.length + mid.length : Nat)) ti2) ∈ R6 := hR6 ▸ .tail _ (List.mem_append_right _ (hR5 ▸ led_r hIn1))
            have mk8 := Mark.mk 8
            k_steps
            (rename News _ _ _ _ => N9)
            (rename Fr _ _ _ _ => F9)
            refine Stop.go (len_list (News.isList N9 hLv6) (by simp only [List.size_toArray, S5.lv, List.length_map]; omega) ?_)
            simp only [List.size_toArray]
            k_steps
            rename_i hq1 D1 hq2 lD1 D2 hq3 F10 N10 lD2
            refine Stop.go (kde_addT F10 N10 (News.isTup N10 (.tail _ (.tail _ hIn1'))) (News.isTup N10 (.head _)) (List.cons_ne_nil _ _) (List.cons_ne_nil _ _) (Nat.le_of_ble_eq_true rfl) rfl fun D3 h11 F11 N11 l11 => ?_)
            clear mk8 mk6
            k_steps
            rename_i DL h12 F12 N12 lDL
            obtain ⟨lDL3, lDL2, lDL1, lDL6⟩ := lDL
            have hR56 : ∀ q ∈ R5, q ∈ R6 := fun q hq => hR6 ▸ .tail _ (List.mem_append_right _ hq)
            obtain ⟨RB, hRB⟩ : ∃ RB, RB = [(DL, listOf #[Value.ref D1, Value.ref D3] 0), (D3, tup4 xIn (pre.length : Nat) ti1 ((pre.length + mid.length : Nat)) ti2 false), (D1, tup4 x 0 tk (st5.lv.length : Nat) (tk + 1 + 1) true), (SP, listOf zsS.toArray nS)] ++ (LvA, listOf st5.lv.toArray st5.nl) :: (EnA, listOf st5.en.toArray st5.ne) :: (s01.heap.objs.size + 1, oE) :: (newS ++ rest5) := ⟨_, rfl⟩
            have hstill : Still (s01.heap.objs.size + 1 + 1) RB := hRB ▸ still_base (w := W) O5 hR5 fr6 (Nat.ne_of_gt (Nat.lt_succ_of_lt l0)) (Nat.ne_of_gt (Nat.lt_succ_of_lt (Nat.lt_succ_of_lt l0))) (Nat.ne_of_lt (Nat.lt_succ_self _)) (fun p hp q hq => by
              simp only [List.mem_cons, List.not_mem_nil, or_false] at hp
              rcases hp with rfl | rfl | rfl | rfl
              · exact Nat.ne_of_lt (tb_ltOf lDL6 q (hR56 q hq))
              · exact Nat.ne_of_lt (l11 q (.tail _ (.tail _ (hR56 q hq))))
              · exact Nat.ne_of_lt (lD1 q (hR56 q hq))
              · exact ne6 q (List.mem_append_right _ hq))
            obtain ⟨news0, N13, hl0⟩ := LoopLed.startN (cS := s01.heap.objs.size + 1 + 1) (B := RB) N12 cleft (.tail _ (.tail _ (.tail _ (.tail _ (hR56 _ hm15))))) (.tail _ (.tail _ (.tail _ (.tail _ (hR56 _ (hR5 ▸ led_m (.tail _ (.tail _ (.head _))))))))) (fun p hp => by
              rw [hRB] at hp
              simp only [List.cons_append, List.nil_append, List.mem_cons, List.mem_append] at hp
              rcases hp with rfl | rfl | rfl | rfl | rfl | rfl | rfl | hp | hp
              · exact .head _
              · exact .tail _ (.head _)
              · exact .tail _ (.tail _ (.tail _ (.head _)))
              · exact .tail _ (.tail _ (.tail _ (.tail _ hSP6)))
              · exact .tail _ (.tail _ (.tail _ (.tail _ hLv6)))
              · exact .tail _ (.tail _ (.tail _ (.tail _ hEn6)))
              · exact .tail _ (.tail _ (.tail _ (.tail _ hm26)))
              · exact .tail _ (.tail _ (.tail _ (.tail _ (hR6 ▸ .tail _ (List.mem_append_left _ hp)))))
              · exact .tail _ (.tail _ (.tail _ (.tail _ (hR56 _ (hR5 ▸ led_r hp))))))
            have hRr : ∀ p ∈ rest5, p ∈ RB := fun p hp => hRB ▸ List.mem_append_right _ (.tail _ (.tail _ (.tail _ (List.mem_append_right _ hp))))
            have hRsp : (SP, listOf zsS.toArray nS) ∈ RB := hRB ▸ .tail _ (.tail _ (.tail _ (.head _)))
            have hRlv : (LvA, listOf st5.lv.toArray st5.nl) ∈ RB := hRB ▸ .tail _ (.tail _ (.tail _ (.tail _ (.head _))))
            have hRen : (EnA, listOf st5.en.toArray st5.ne) ∈ RB := hRB ▸ .tail _ (.tail _ (.tail _ (.tail _ (.tail _ (.head _)))))
            have hRce : (s01.heap.objs.size + 1, oE) ∈ RB := hRB ▸ .tail _ (.tail _ (.tail _ (.tail _ (.tail _ (.tail _ (.head _))))))
            have hRspots : ∀ v ∈ zsS, SpotIn RB v := fun v hv => (sp6 v hv).more fun p hp => by
              rcases List.mem_append.mp hp with hp | hp
              · exact hRB ▸ List.mem_append_right _ (.tail _ (.tail _ (.tail _ (List.mem_append_left _ hp))))
              · exact hRr p hp
            have hIt1 : NodeItem W RB ls5 (.ref D1) := ⟨D1, x, dx, tk, tk + 1 + 1, true, 4, [], ls5, [], rfl, by
              have e : st5.lv.length = ([] : List LeafR).length + ls5.length := by rw [S5.lv, List.length_map]; simp
              have h : (D1, tup4 x 0 tk (st5.lv.length : Nat) (tk + 1 + 1) true) ∈ RB := hRB ▸ .tail _ (.tail _ (.head _))
              rw [e] at h
              exact h, hRr _ hx5', by simp, T5.mono hRr, by decide⟩
            have hIt2 : NodeItem W RB ls5 (.ref D3) := ⟨D3, xIn, dIn, ti1, ti2, false, dep, pre, mid, post, rfl, hRB ▸ .tail _ (.head _), hRr _ hIn2, hIn3, hIn4.mono hRr, hIn5⟩
            have hDL0 : (DL, listOf #[Value.ref D1, Value.ref D3] 0) ∈ RB := hRB ▸ .head _
            clear hRB hIn1 hIn2 hIn3 hIn4 hIn5 hIn1'
            refine Stop.go (iter_listTurns (vs := [.ref D1, .ref D3]) (by rfl) F12 N13 (hl0.still _ hDL0) rfl rfl fun I1 lI1 => ItemsRest.inv (J := LoopA W (s01.heap.objs.size + 1 + 1) SP LvA I1 ls5 RB) ?stepA ?doneA _ _ _ ?startA)
            case startA =>
              refine ⟨⟨rfl, rfl⟩, fun a ha => ?_, ⟨_, hl0⟩, fun p hp => Nat.ne_of_lt (lI1 p hp)⟩
              simp only [List.map_cons, List.map_nil, List.mem_cons, List.not_mem_nil, or_false] at ha
              rcases ha with rfl | rfl
              · exact ⟨_, rfl, hIt1⟩
              · exact ⟨_, rfl, hIt2⟩
            case doneA =>
              rintro m news ⟨_, _, ⟨v, hl⟩, _⟩ h14 tk14 F14 N14
              obtain ⟨oC9, ps9, cx9, rfl, _⟩ := hl
              k_steps
              exact Stop.go ⟨GrownAt.of N14 (.tail _ (.head _)), True.intro⟩
            case stepA =>
              rintro a r m news J1 v h15 tk15 hv F15
              refine AllObj.cons fun o1 ho1 => AllObj.nil fun N15 => ?_
              obtain ⟨v', rfl, T, xx, dxx, t1, t2, bb, dd, pr, mi, po, rfl, hT, hx, hls, tree, hdd⟩ := J1.its a (.head _)
              obtain rfl : v = .ref T := hv
              have F16 := Fr.bind_same (n := Str.ofString "leaves") (v := .ref LvA) (Fr.bind_same F15 J1.nm.sp) J1.nm.lv
              obtain ⟨vc, hl1⟩ := J1.led
              have off1 : ∀ p ∈ news, ∀ q ∈ [(I1, o1)], @Ne Nat p.1 q.1 := fun p hp q hq => by rw [List.mem_singleton.mp hq]; exact J1.off p hp
              obtain ⟨nB, hB1, hl2⟩ := hl1.pushL off1
              have N16 := News.less N15 hB1
              have hT16 := hl2.still _ (.tail _ hT)
              clear F15 N15
              have mk1 := Mark.mk 1
              k_steps
              refine Stop.go (wpAny_noE ?_)
              (rename Fr _ _ _ _ => F17)
              with_unfolding_all refine' For_turns F17 ?_ (hE := fun _ _ h => h.elim)
              k_steps
              (rename Fr _ _ _ _ => F18)
              (rename News _ _ _ _ => N18)
              refine Stop.go (ktu_enum (by rfl) F18 N18 (hl2.still _ (.tail _ hRsp)) rfl rfl rfl fun I2 lI2 => ItemsRest.inv (J := LoopB (NmB SP LvA xx (pr.length : Nat) ((pr.length + mi.length : Nat)) t1 t2 bb) (s01.heap.objs.size + 1 + 1) (I2 + 1) I2 RB ([(I1, o1)] ++ RB)) ?stepB ?doneB _ _ _ ?startB)
              case startB =>
                refine ⟨⟨⟨rfl, rfl⟩, rfl, rfl, rfl, rfl⟩, fun a ha => ?_, ⟨_, hl2⟩, fun p hp => ⟨Nat.ne_of_lt (Nat.lt_succ_of_lt (lI2 p hp)), Nat.ne_of_lt (lI2 p hp)⟩⟩
                obtain ⟨j, v, e, hv⟩ := enum_mem _ _ _ ha
                exact ⟨j, v, e, hRspots v hv⟩
              case doneB =>
                rintro m news J2 h14 tk14 F14 N14
                obtain ⟨vd, hld⟩ := J2.led
                k_steps
                refine Stop.go (turn_end F14 N14 hld (fun p hp => hp) (hl1.offs off1) fun n' g1 g2 g3 => ⟨⟨g3 _ hDL0, trivial⟩, ⟨J2.nm.a, fun a ha => J1.its a (.tail _ ha), ⟨_, g1⟩, fun p hp => g2 p hp _ (.head _)⟩⟩)
              case stepB =>
                rintro a2 r2 m news2 J2 v h20 tk20 hv F20
                refine AllObj.cons fun o2 ho2 => AllObj.cons fun o3 ho3 => AllObj.nil fun N20 => ?_
                obtain ⟨ik, v', rfl, sp, l, tl, c, tc, rfl, hsp⟩ := J2.its a2 (.head _)
                obtain ⟨TT, tt, rfl, hTup⟩ := hv
                replace hTup : IsTup _ TT #[.int (ik : Int) tt, .ref sp] := hTup
                have F21 := J2.nm.front F20
                obtain ⟨vc2, hl3⟩ := J2.led
                have off2 : ∀ p ∈ news2, ∀ q ∈ [(I2 + 1, o2), (I2, o3)], @Ne Nat p.1 q.1 := fun p hp q hq => by
                  simp only [List.mem_cons, List.not_mem_nil, or_false] at hq
                  rcases hq with rfl | rfl
                  · exact (J2.off p hp).1
                  · exact (J2.off p hp).2
                obtain ⟨nB2, hB2, hl4⟩ := hl3.pushL off2
                have N21 := News.less N20 hB2
                have still2 : Still (s01.heap.objs.size + 1 + 1) ([(I1, o1)] ++ RB) := hstill.pushL (hl1.offs off1)
                have still3 := still2.pushL (hl3.offs off2)
                obtain ⟨oC, gC, eC, uC, vC, setC⟩ := hl4.set still3
                clear F20 N20
                have mk9 := Mark.mk 9
                k_steps
                (rename Fr _ _ _ _ => F22)
                (rename News _ _ _ _ => N22)
                refine Stop.go ?_
                refine' storeX_C F22 N22 ?kc uC vC (fun h23 oC2 F23 N23 vC2 => ?_) ?ka ?kb
                case kc => with_unfolding_all rfl
                case ka => rfl
                case kb => rfl
                have hl5 := setC oC2 _ vC2
                clear mk9
                generalize hR23 : (s01.heap.objs.size + 1 + 1, oC2) :: gC = R23 at N23 hl5
                k_steps
                refine Stop.go (wpAny_noE ?_)
                (rename Fr _ _ _ _ => F24)
                with_unfolding_all refine' For_turns F24 ?_ (hE := fun _ _ h => h.elim)
                have mk4 := Mark.mk 4
                k_steps
                clear mk4
                (rename Fr _ _ _ _ => F25)
                (rename News _ _ _ _ => N25)
                refine Stop.go (cutF F25 (fun mm => BoolsPost R23 (ghostOf s01.heap [(241, 237)]) s01.heap.objs.size mm s01) ?bools ?goB)
                case bools =>
                  clear mk1
                  cases bb
                  · k_steps
                    (rename Fr _ _ _ _ => kF)
                    (rename News _ _ _ _ => kN)
                    (rename ∀ _ _, _ => kL)
                    exact ⟨_, _, _, _, _, rfl, rfl, kF, kN, kL, bools_one⟩
                  · k_steps
                    (rename Fr _ _ _ _ => kF)
                    (rename News _ _ _ _ => kN)
                    (rename ∀ _ _, _ => kL)
                    exact ⟨_, _, _, _, _, rfl, rfl, kF, kN, kL, bools_two⟩
                case goB =>
                  rintro _ _ ⟨Dw, vw, nw, h26, tk26, rfl, rfl, F26, N26, lt26, bw⟩
                  have off4 : ∀ p ∈ R23, ∀ q ∈ [(Dw, listOf vw.toArray nw)], @Ne Nat p.1 q.1 := fun p hp q hq => by rw [List.mem_singleton.mp hq]; exact Nat.ne_of_lt (lt26 p hp)
                  obtain ⟨nB4, hB4, hl6⟩ := hl5.pushL off4
                  have N27 := News.less N26 hB4
                  have still4 := still3.pushL (hl5.offs off4)
                  refine Stop.go (iter_listTurns (vs := vw) (by rfl) F26 N27 (hl6.still _ (.head _)) rfl rfl fun I3 lI3 => ItemsRest.inv (J := LoopC (NmB SP LvA xx (pr.length : Nat) ((pr.length + mi.length : Nat)) t1 t2 bb) (s01.heap.objs.size + 1 + 1) I3 sp ([(Dw, listOf vw.toArray nw)] ++ ([(I2 + 1, o2), (I2, o3)] ++ ([(I1, o1)] ++ RB)))) ?stepC ?doneC _ _ _ ?startC)
                  case startC =>
                    refine ⟨⟨⟨rfl, rfl⟩, rfl, rfl, rfl, rfl⟩, fun a ha => ?_, hl6, fun p hp => Nat.ne_of_lt (lI3 p hp)⟩
                    obtain ⟨u, hu, rfl⟩ := List.mem_map.mp ha
                    obtain ⟨b, rfl⟩ := bw u hu
                    exact ⟨b, rfl⟩
                  case doneC =>
                    rintro m news J3 h14 tk14 F14 N14
                    obtain ⟨nd, sd, hld⟩ := J3.led.sub (B' := [(I2 + 1, o2), (I2, o3)] ++ ([(I1, o1)] ++ RB)) (fun p hp => List.mem_append_right _ hp)
                    k_steps
                    refine Stop.go (turn_end F14 N14 hld sd (hl3.offs off2) fun n' g1 g2 g3 => ⟨⟨g3 _ (.tail _ hRsp), trivial⟩, ⟨J3.nm, fun a ha => J2.its a (.tail _ ha), ⟨_, g1⟩, fun p hp => ⟨g2 p hp _ (.head _), g2 p hp _ (.tail _ (.head _))⟩⟩⟩)
                  case stepC =>
                    rintro a3 r3 m news3 J3 v h30 tk30 hv F30
                    refine AllObj.cons fun o4 ho4 => AllObj.nil fun N30 => ?_
                    obtain ⟨b, rfl⟩ := J3.its a3 (.head _)
                    obtain rfl : v = .bool b := hv
                    have F31 := J3.nm.front F30
                    have off5 : ∀ p ∈ news3, ∀ q ∈ [(I3, o4)], @Ne Nat p.1 q.1 := fun p hp q hq => by rw [List.mem_singleton.mp hq]; exact J3.off p hp
                    obtain ⟨nB5, hB5, hl7⟩ := J3.led.pushL off5
                    have N31 := News.less N30 hB5
                    have still5 := still4.pushL (J3.led.offs off5)
                    obtain ⟨oC3, ps, cx, vC3, hTab, hcx, hsub, hno, hTab', hBin⟩ := hl7.search still5
                    clear F30 N30
                    have hRin : ∀ p ∈ RB, p ∈ nB5 := fun p hp => hl7.still _ (.tail _ (.tail _ (.tail _ (.tail _ (.tail _ hp)))))
                    have hcs7 := hsub _ (.tail _ (.head _))
                    have dC3 : oC3.data = .cell (some (.ref sp)) := vC3
                    have hce7 := hRin _ hRce
                    have hen7 := hRin _ hRen
                    have hlv7 := hRin _ hRlv
                    have hsp7 := hRin _ hsp
                    have hhi : pr.length + mi.length ≤ ls5.length := by rw [hls, List.length_append, List.length_append]; exact Nat.le_add_right _ _
                    obtain ⟨eh, th1, th2, hEh, hEhm⟩ := ends_at S5 hhi
                    have hEh7 := hRin _ (hRr _ hEhm)
                    have mk10 := Mark.mk 10
                    k_steps
                    clear mk10
                    (rename Fr _ _ _ _ => F32)
                    (rename News _ _ _ _ => N32)
                    refine Stop.go (cutF F32 (fun mm => ValPost nB5 (.bool (leP (1, 0) (l, c) && leP (l, c) (endAt ls5 (pr.length + mi.length)))) (ghostOf s01.heap [(241, 237)]) s01.heap.objs.size mm s01) ?within ?goW)
                    case within =>
                      have mk11 := Mark.mk 11
                      k_steps
                      · (rename News _ _ _ _ => N35)
                        (rename leP (1, 0) _ = true => hq1)
                        refine Stop.go (item_listL (News.isList N35 (.tail _ hen7)) (Int.natCast_nonneg _) (by have := S5.enl; omega) (by rw [Int.toNat_natCast]; exact hEh) ?_)
                        k_steps
                        (rename News _ _ _ _ => kN)
                        (rename Fr _ _ _ _ => kF)
                        exact ⟨by rw [hq1, Bool.true_and], _, _, rfl, kF, News.less kN fun p hp => .tail _ hp⟩
                      · (rename News _ _ _ _ => kN)
                        (rename Fr _ _ _ _ => kF)
                        (rename leP (1, 0) _ = false => hq1)
                        exact ⟨by rw [hq1, Bool.false_and], _, _, rfl, kF, News.less kN fun p hp => .tail _ hp⟩
                    case goW =>
                      rintro _ _ ⟨rfl, h33, tk33, rfl, F33, N33⟩
                      have hlast : endAt ls5 (pr.length + mi.length) = lastEn mi := by rw [hls]; exact endAt_high tree.ne_nil
                      rw [hlast]
                      generalize hinn : (leP (1, 0) (l, c) && leP (l, c) (lastEn mi)) = inn
                      have tree7 := tree.mono hRin
                      have hx7 := hRin _ hx
                      obtain ⟨u1, u2, u3, ucl, upv, uyv, un, hdx7⟩ := node_dict N33 tree7 hx7
                      obtain ⟨told, htold⟩ : ∃ told, told = if inn = true then pick mi (l, c) b else .ref xx := ⟨_, rfl⟩
                      k_steps
                      (rename Fr _ _ _ _ => F34)
                      (rename News _ _ _ _ => N34)
                      refine Stop.go (cutF F34 (fun mm => ToldPost (s01.heap.objs.size + 1 + 1) ([(I3, o4)] ++ ([(Dw, listOf vw.toArray nw)] ++ ([(I2 + 1, o2), (I2, o3)] ++ ([(I1, o1)] ++ RB)))) (some (.ref sp)) (Str.ofString "told") told (ghostOf s01.heap [(241, 237)]) s01.heap.objs.size mm s01) ?tri ?goT)
                      case tri =>
                        refine wpAny_Try_except ?_
                        clear mk1
                        k_steps
                        have hBR : ∀ p ∈ RB, p ∈ (s01.heap.objs.size + 1 + 1, oC3) :: (cx ++ ([(I3, o4)] ++ ([(Dw, listOf vw.toArray nw)] ++ ([(I2 + 1, o2), (I2, o3)] ++ ([(I1, o1)] ++ RB))))) := fun p hp => hBin _ (.tail _ (.tail _ (.tail _ (.tail _ (.tail _ hp)))))
                        have G := get_all dd ps ((s01.heap.objs.size + 1 + 1, oC3) :: (cx ++ ([(I3, o4)] ++ ([(Dw, listOf vw.toArray nw)] ++ ([(I2 + 1, o2), (I2, o3)] ++ ([(I1, o1)] ++ RB)))))) xx dxx sp mi l c tl tc b (tree.mono hBR) (hBR _ hx) (hBR _ hsp) hno hTab' (mid_ord S5.ord hls)
                        rw [hinn] at G
                        refine Stop.go (TellG.callS G (by k_asm) (by k_asm) (by k_asm) N34 hsub (by k_asm) (by k_asm) (by rfl) (by k_room) (by k_units) ?ret ?rai)
                        case ret =>
                          intro hi r n' h41 tk41 F41 N41 ⟨hr, gp⟩
                          obtain ⟨n2, s2, hl8⟩ := LoopLed.got vC3 hTab hcx gp
                          replace N41 := News.less N41 s2
                          have e9 : told = r := by rw [htold, if_pos hi, hr]
                          k_steps
                          (rename Fr _ _ _ _ => kF)
                          (rename News _ _ _ _ => kN)
                          exact ⟨rfl, _, _, _, rfl, by rw [e9]; exact kF, kN, hl8⟩
                        case rai =>
                          intro hi e g41 n' h41 tk41 Fg R U gp
                          obtain ⟨n2, s2, hl8⟩ := LoopLed.got vC3 hTab hcx gp
                          have e9 : told = .ref xx := by rw [htold, hi]; rfl
                          subst hi
                          refine caughtX Fg U (RaisedN.less R s2) (by k_asm) (fun h42 F42 N42 => ?_) (by decide +kernel) (by decide +kernel) (by decide +kernel) (by decide +kernel) rfl rfl
                          k_steps
                          (rename Fr _ _ _ _ => kF)
                          (rename News _ _ _ _ => kN)
                          exact ⟨rfl, _, _, _, rfl, by rw [e9]; exact kF, kN, hl8⟩
                      case goT =>
                        rintro _ _ ⟨rfl, h40, tk40, n2, rfl, F40, N40, hl8⟩
                        k_steps
                        (rename Fr _ _ _ _ => F43)
                        (rename News _ _ _ _ => N43)
                        refine Stop.go (cutF F43 (fun mm => ToldPost (s01.heap.objs.size + 1 + 1) ([(I3, o4)] ++ ([(Dw, listOf vw.toArray nw)] ++ ([(I2 + 1, o2), (I2, o3)] ++ ([(I1, o1)] ++ RB)))) (some (.ref sp)) (Str.ofString "due") told (ghostOf s01.heap [(241, 237)]) s01.heap.objs.size mm s01) ?due ?goD)
                        case due =>
                          clear mk1
                          obtain ⟨oC5, ps5, cx5, vC5, _, _, hsub5, _, _, _⟩ := hl8.search still5
                          have hRin8 : ∀ p ∈ RB, p ∈ n2 := fun p hp => hl8.still _ (.tail _ (.tail _ (.tail _ (.tail _ (.tail _ hp)))))
                          have hcs8 := hsub5 _ (.tail _ (.head _))
                          have dC5 : oC5.data = .cell (some (.ref sp)) := vC5
                          have hce8 := hRin8 _ hRce
                          have hen8 := hRin8 _ hRen
                          have hlv8 := hRin8 _ hRlv
                          have hsp8 := hRin8 _ hsp
                          clear hcs7 hce7 hen7 hlv7 hsp7 hEh7 hdx7 hx7 tree7 hTab hTab' hcx hsub hno hBin
                          cases inn with
                          | false =>
                            have e9 : told = .ref xx := by rw [htold]; rfl
                            k_steps
                            (rename Fr _ _ _ _ => kF)
                            (rename News _ _ _ _ => kN)
                            exact ⟨rfl, _, _, n2, rfl, Fr.bind_same kF (by rw [e9]; rfl), kN, hl8⟩
                          | true =>
                            rw [Bool.and_eq_true] at hinn
                            obtain ⟨hin1, hin2⟩ := hinn
                            k_steps
                            refine Stop.go (LCt.ListComp_T (F₀ := by k_asm) (by with_unfolding_all rfl) (by decide) (by rfl) (by decide) (by rfl) ?_)
                            k_steps
                            rename_i hRg FRg NRg kRg
                            refine Stop.go (LCt.CompSrcT.range (n := mi.length) (by rfl) FRg NRg hRg (mid_small (by omega)) mid_size (by rw [sizeLine_eq]; omega) fun g9 => CompRestT.inv (J := fun i ys news => news = n2 ∧ First (fun j => leP (l, c) (endAt ls5 (pr.length + j + 1))) pr.length i ys) ?turn ?fin _ _ _ _ (Nat.zero_add _) ⟨rfl, First.nil⟩)
                            case turn =>
                              rintro i _ ys nn hi ⟨tq, rfl⟩ ⟨enn, hfirst⟩ I oI C oC D m₂ h44 tk44 E' hC hx44 FT NT off44 ne44
                              rw [enn] at NT off44
                              obtain ⟨ej, tj1, tj2, hEj, hEjm⟩ := ends_at S5 (k := pr.length + i + 1) (by omega)
                              have hCm : (C, oC) ∈ (I, oI) :: (C, oC) :: (D, LCg.lst ys) :: n2 := .tail _ (.head _)
                              have hIn : ∀ p ∈ n2, p ∈ (I, oI) :: (C, oC) :: (D, LCg.lst ys) :: n2 := fun p hp => .tail _ (.tail _ (.tail _ hp))
                              have hcs9 := hIn _ hcs8
                              have hce9 := hIn _ hce8
                              have hen9 := hIn _ hen8
                              have hsp9 := hIn _ hsp8
                              have hej9 := hIn _ (hRin8 _ (hRr _ hEjm))
                              generalize hR9 : (I, oI) :: (C, oC) :: (D, LCg.lst ys) :: n2 = R9 at NT hCm hcs9 hce9 hen9 hsp9 hej9
                              have mk7 := Mark.mk 7
                              k_steps
                              (rename News _ _ _ _ => NU)
                              refine Stop.go (item_listL (News.isList NU hen9) (by omega) (by have := S5.enl; omega) (by rw [show ((pr.length : Int) + (i : Int) + 1).toNat = pr.length + i + 1 from by omega]; exact hEj) ?_)
                              clear mk7
                              k_steps
                              · (rename News _ _ _ _ => kN)
                                (rename Fr _ _ _ _ => kF)
                                (rename leP (l, c) _ = true => hq)
                                exact Stop.go ⟨_, _, n2, rfl, kF, hR9 ▸ kN, off44, trivial, rfl, First.yesI hfirst hq⟩
                              · (rename News _ _ _ _ => kN)
                                (rename Fr _ _ _ _ => kF)
                                (rename leP (l, c) _ = false => hq)
                                exact Stop.go ⟨_, _, n2, rfl, kF, hR9 ▸ kN, off44, trivial, rfl, First.no hfirst hq⟩
                            case fin =>
                              rintro ys nn ⟨enn, hf⟩
                              rw [enn]
                              obtain ⟨j0, tj, rr, aa, rfl, hj0, hls', hpick⟩ := first_pick (wide := b) tree.ne_nil hin2 (by rw [hls] at hf; exact hf)
                              rw [← hls] at hls'
                              unfold LCg.FinE
                              intro DC hC tkC FC NC oCC
                              have mk12 := Mark.mk 12
                              have mk13 := Mark.mk 13
                              have haa := (List.getElem?_eq_some_iff.mp hls').1
                              k_steps
                              (rename News _ _ _ _ => NV)
                              refine Stop.go (item_listL (News.isList NV (.tail _ hlv8)) (Int.natCast_nonneg _) (by omega) (leaf_at S5 hls') ?_)
                              have e9 : told = if (!b && ltP (l, c) aa.st) = true then .none else .ref aa.ref := by rw [htold, if_pos rfl, hpick]
                              clear mk12 mk13
                              cases b with
                              | true =>
                                k_steps
                                (rename News _ _ _ _ => kN)
                                (rename Fr _ _ _ _ => kF)
                                have e10 : told = .ref aa.ref := by rw [e9]; rfl
                                exact ⟨rfl, _, _, n2, rfl, (by rw [e10]; rw [e10] at kF; exact kF), News.less kN fun p hp => .tail _ hp, hl8⟩
                              | false =>
                                have mk5 := Mark.mk 5
                                k_steps
                                clear mk5
                                (rename News _ _ _ _ => NW)
                                have tr := (S5.tr aa (List.mem_of_getElem? hls')).mono (fun p hp => hRin8 p (hRr p hp))
                                refine Stop.go (TellA.useS (attr_start 0 _ _ _ tr _ [] rfl) (by k_asm) (by k_asm) (by k_asm) NW (fun p hp => .tail _ hp) (by k_asm) (by k_asm) (by rfl) (by k_room) (by k_units) ?_)
                                rintro _ _ h10 tk10 F10 N10 ⟨D10, ta10, tb10, rfl, rfl, l10⟩
                                k_steps
                                · (rename News _ _ _ _ => kN)
                                  (rename Fr _ _ _ _ => kF)
                                  (rename ltP _ _ = true => hq)
                                  have hq : ltP (l, c) aa.st = true := hq
                                  have e10 : told = .none := by rw [e9, hq]; rfl
                                  exact ⟨rfl, _, _, n2, rfl, (by rw [e10]; rw [e10] at kF; exact Fr.unbind kF), News.less kN fun p hp => .tail _ hp, hl8⟩
                                · (rename News _ _ _ _ => kN)
                                  (rename Fr _ _ _ _ => kF)
                                  (rename ltP _ _ = false => hq)
                                  have hq : ltP (l, c) aa.st = false := hq
                                  have e10 : told = .ref aa.ref := by rw [e9, hq]; rfl
                                  exact ⟨rfl, _, _, n2, rfl, (by rw [e10]; rw [e10] at kF; exact kF), News.less kN fun p hp => .tail _ hp, hl8⟩
                        case goD =>
                          rintro _ _ ⟨rfl, h50, tk50, n3, rfl, F50, N50, hl9⟩
                          clear mk1
                          rcases told_cases htold with e9 | ⟨rt, e9⟩
                          · rw [e9] at F50
                            k_steps
                            (rename News _ _ _ _ => kN)
                            (rename Fr _ _ _ _ => kF)
                            refine Stop.go (turn_end kF kN hl9 (fun p hp => hp) (J3.led.offs off5) fun n' g1 g2 g3 => ⟨⟨g3 _ (.head _), trivial⟩, ⟨⟨⟨rfl, rfl⟩, rfl, rfl, rfl, rfl⟩, fun a ha => J3.its a (.tail _ ha), g1, fun p hp => g2 p hp _ (.head _)⟩⟩)
                          · rw [e9] at F50
                            k_steps
                            (rename News _ _ _ _ => kN)
                            (rename Fr _ _ _ _ => kF)
                            refine Stop.go (turn_end kF kN hl9 (fun p hp => hp) (J3.led.offs off5) fun n' g1 g2 g3 => ⟨⟨g3 _ (.head _), trivial⟩, ⟨⟨⟨rfl, rfl⟩, rfl, rfl, rfl, rfl⟩, fun a ha => J3.its a (.tail _ ha), g1, fun p hp => g2 p hp _ (.head _)⟩⟩))
end Mine
end

open PySem PySem.W PyProof.Rows
theorem PySem.Challenge.cw_kz0002_01_holds : PySem.Challenge.rw_kz0002_01.Holds := by
  exact Mine.cw
