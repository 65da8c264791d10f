import PyProof.Rows.All
import Wide.All
import OpenK.AllK
import Wide.FinOn
import Lean
import PySem.Challenge.RW_yi0004_01
open PySem PySem.W PyProof.Rows
set_option Elab.async false
set_option maxRecDepth 100000
set_option maxHeartbeats 8000000
set_option linter.unusedVariables false
set_option linter.unusedSimpArgs false
namespace Mine
/-! the head, checked as a whole: the text's run from the machine's start, with the library's quick tables -/
/-- the text without the three rows that bind __name__ -/
def viewBody : List Stmt := match PySem.Challenge.pw_yi0004_01.main.body with
  | [a0, _, a2, a3, _, a5, a6, a7, _, a9, a10, a11] => [a0, a2, a3, a5, a6, a7, a9, a10, a11]
  | _ => []
def view : Program := { PySem.Challenge.pw_yi0004_01 with main := { PySem.Challenge.pw_yi0004_01.main with body := viewBody } }
theorem nk0 : importsNone view = true := by kernel_rfl
theorem nk1 : namesOk view (looseW view [PySem.Str.ofString "PolynomialRing", PySem.Str.ofString "PolynomialNTT"]) (namesW view [PySem.Str.ofString "PolynomialRing", PySem.Str.ofString "PolynomialNTT"]) = true := by kernel_rfl
theorem boot_left {p q : Program} {loose : List Str} {Xt : Shared → Bool} {α : Type} {Yf : Shared → α} {Ya : World → α} {N : Nat}
    (e : opening p = plainProg p.main.scope.names) (hN : Nat.ble 600 N = true) (f : ∀ s, fenceModules? p s = some s)
    (k : ∀ (w : World) (os : OsState), (topFrom treeTable p w N ⟨boot_heap w.params, Array.mk [], boot_drawn, boot_toks, os⟩).map (fun s => (openSeen q loose (importedModules p.main.body) Xt true s, Yf s)) = some (openGood q loose, Ya w)) : LeftO p q loose Xt Yf Ya N := by
  intro w
  obtain ⟨s, hs, hv⟩ := Option.map_eq_some_iff.mp (boot_open e hN f w)
  unfold openEnds
  rw [hs]
  obtain ⟨h, g, d, t, os⟩ := s
  simp only [Prod.mk.injEq] at hv
  obtain ⟨rfl, rfl, rfl, rfl⟩ := hv
  exact k w os
/-- the top's run over a tree of objects -/
def runT (st : (Code → Sem Fin) → Program → World → SharedT → Thread → Option (SharedT × Thread)) (ok : Nat → Option Value → Thread → Bool) (den : Code → Sem Fin) (p : Program) (w : World) (n₀ : Nat) (ann : Option Value) : Nat → SharedT → Thread → Option SharedT
  | 0, _, _ => none
  | n + 1, s, t => match through t with
    | true => some s
    | false => match ok n₀ ann t with
      | false => none
      | true => match st den p w s t with
        | some r => runT st ok den p w n₀ ann n r.1 r.2
        | none => none
theorem runT_of {tb : String → Option Builtin} {p : Program} {w : World} {n₀ : Nat} {ann : Option Value} : ∀ {n : Nat} {s s' : SharedT} {t : Thread}, runT stepT stepOk (denote tb) p w n₀ ann n s t = some s' → topRun tb p w n₀ ann n s.abs t = some s'.abs
  | 0, _, _, _, h => by cases h
  | n + 1, s, s', t, h => by
    unfold runT at h
    unfold topRun
    cases h1 : through t with
    | true => rw [h1] at h; cases h; rfl
    | false =>
      rw [h1] at h
      cases h2 : stepOk n₀ ann t with
      | false => rw [h2] at h; cases h
      | true =>
        rw [h2] at h
        cases h3 : stepT (denote tb) p w s t with
        | none => rw [h3] at h; cases h
        | some r =>
          rw [h3] at h
          dsimp only at h ⊢
          rw [stepT_spec (show stepT (denote tb) p w s t = some (r.1, r.2) from h3)]
          exact runT_of h
theorem top_by_tree {p : Program} {w : World} {N : Nat} {s₀ : Shared} {sT : SharedT} {β : Type} {F : Shared → β} {g : β} (habs : sT.abs = s₀) (hns : (s₀.heap.isNs mainGlobals && s₀.gens.size == 0) = true)
    (k : (runT stepT stepOk (denote treeTable) p w s₀.heap.objs.size (s₀.heap.nsMap mainGlobals "__annotations__") N sT (topStub p)).map (fun r => (fun s₁ : Shared => (staticsOk (importedModules p.main.body) s₀.heap s₁.heap && namesBound p s₁.heap && gensDone s₁ && laidKept s₀.heap s₁.heap, F s₁)) r.abs) = some (true, g)) :
    (topFrom treeTable p w N s₀).map F = some g := by
  obtain ⟨r, hr, hv⟩ := Option.map_eq_some_iff.mp k
  have h1 := runT_of hr
  rw [habs] at h1
  have hv1 := congrArg Prod.fst hv
  have hv2 := congrArg Prod.snd hv
  dsimp only at hv1 hv2
  unfold topFrom
  rw [hns]
  dsimp only
  rw [h1]
  show Option.map F (match (staticsOk (importedModules p.main.body) s₀.heap r.abs.heap && namesBound p r.abs.heap && gensDone r.abs && laidKept s₀.heap r.abs.heap) with | true => some r.abs | false => none) = _
  rw [hv1]
  exact congrArg some hv2
def treeOf (l : List Obj) : BT := (l.foldl (fun (x : BT × Nat) o => (x.1.ins x.2 o, x.2 + 1)) (BT.nil, 0)).1
noncomputable def bootT (w : World) (os : OsState) : SharedT := ⟨treeOf (boot_heap w.params).objs.toList, (boot_heap w.params).objs.size, (boot_heap w.params).life, Array.mk [], boot_drawn, boot_toks, os⟩
theorem bootT_abs (w : World) (os : OsState) : (bootT w os).abs = ⟨boot_heap w.params, Array.mk [], boot_drawn, boot_toks, os⟩ := by kernel_rfl
theorem said0 : OpenLaw.wellSaid PySem.Challenge.rw_yi0004_01 = true := by
  rewrite [PySem.W.Fast.te9446332074065402090]
  kernel_rfl
local macro_rules | `(tactic| o_law) => `(tactic| refine holds_law said0 fun said => ?_)
/-- the head's rule with all but the reading put in -/
theorem open_by {H : Hook} {d : DefRec} {kwd : List (Str × Expr)} (hl : LeftO PySem.Challenge.rw_yi0004_01.prog view [PySem.Str.ofString "PolynomialRing", PySem.Str.ofString "PolynomialNTT"] (fun s => xlAt view [] s && recOk (RowW.records (OpenRow.toRowW (OpenLaw.row PySem.Challenge.rw_yi0004_01))) s) H.obs H.val 6250)
    (hdef : defOf view (OpenLaw.row PySem.Challenge.rw_yi0004_01).name = some (d, kwd)) (hp : (OpenLaw.row PySem.Challenge.rw_yi0004_01).prog.theDef (OpenLaw.row PySem.Challenge.rw_yi0004_01).name = some (d.params, d.body, d.scope)) (hk : kwWritten? d.params.kwonlyargs d.params.kw_defaults = some kwd)
    (k1 : (OpenLaw.row PySem.Challenge.rw_yi0004_01).wellSaid = true) (hw : (OpenLaw.row PySem.Challenge.rw_yi0004_01).toRowW.promised)
    (call : WalkO view [PySem.Str.ofString "PolynomialRing", PySem.Str.ofString "PolynomialNTT"] (XL view []) H.says (OpenLaw.row PySem.Challenge.rw_yi0004_01).toRowW d kwd fun f vs => PySem.call f vs) : (OpenLaw.row PySem.Challenge.rw_yi0004_01).Holds :=
  holds_open hl H.of H.keeps (fun s e => xl_of s (Bool.and_eq_true_iff.mp e).1) XL.keeps hdef hp hk (fun s e => recFacts_of (Bool.and_eq_true_iff.mp e).2) (by rfl) k1 (by decide +kernel) ⟨rfl, rfl, rfl, rfl, rfl, by decide +kernel⟩ hw call
local macro_rules | `(tactic| o_head $H:term) => `(tactic| ((refine open_by (H := $H) ?hl (by rfl) (by rfl) (by rfl) (by first | assumption | decide +kernel) ?hw ?hc); (case hl => (exact boot_left (by kernel_rfl) (by kernel_rfl) (fun s => by kernel_rfl) (fun w os => top_by_tree (bootT_abs w os) (by kernel_rfl) (by (rewrite [PySem.W.Fast.te10156331382660048174, PySem.W.Fast.te6613529449190102663, PySem.W.Fast.te11892475500146522536, PySem.W.Fast.te14364793385576792824, PySem.W.Fast.te8920871248978507458, PySem.W.Fast.te4187177175401517315, PySem.W.Fast.te5923862056798008813]; kernel_rfl)))))))
open_top hd for PySem.Challenge.rw_yi0004_01
end Mine
namespace Mine
section
open PySem.NumText
/-- the digits' text as a list of numbers: the last seven, from behind -/
theorem wp_text2 {M : Model} {A : Around} {E : Value → Shared → Prop} {s : Shared} {Q : Value → Shared → Prop} {v : Value} {text : List Nat} {n : Int}
    (hs : (text.takeWhile (· != 0)).length ≤ 640) (hr : (int_private% "readNumeral") 0 2 (text.takeWhile (· != 0)) = (int_private% "Numeral.value") n)
    (ha : ((text.takeWhile (· != 0)).length == text.length) = true) (h : Q (.int n s.toks) { s with toks := s.toks + 1 }) :
    wpAny M A ((int_private% "intFromText") v text 2) Q E s := by
  obtain ⟨hp, g, d, tk, os⟩ := s
  repeat (any_goals (first
    | assumption
    | (with_reducible refine wpAny_ite_true (decide_eq_true hs) ?_)
    | (with_reducible refine wpAny_ite_true (decide_eq_true ha) ?_)
    | wp_step))
  all_goals (try rw [hr])
  all_goals (try dsimp only)
  repeat (any_goals (first
    | assumption
    | (with_reducible refine wpAny_ite_true (decide_eq_true hs) ?_)
    | (with_reducible refine wpAny_ite_true (decide_eq_true ha) ?_)
    | wp_step))

structure Hid2 (p : Prop) : Prop where
  out : p
theorem gives_text2 {x : PySem.Str} {u t2 : Tok} {n : Int} (hs : (numSeenOf x).length ≤ 640) (hr : (int_private% "readNumeral") 0 2 (numSeenOf x) = (int_private% "Numeral.value") n) (ha : ((numSeenOf x).length == (numTextOf x).length) = true) :
    Gives (Builtin.«int.__new__» ⟨[.type "int", .str x u, .int 2 t2], []⟩) (.int n) :=
  .of_wp fun M A E s Q h => by
    obtain ⟨hp, g, d, tk, os⟩ := s
    have f1 := F.conv_sub_int
    have f2 := F.madeHere_int
    have hk := Hid2.mk (And.intro hs (And.intro hr ha))
    clear hs hr ha
    repeat (any_goals (first
      | assumption
      | ((with_reducible show wpAny _ _ ((int_private% "intFromText") _ _ _) _ _ _); refine wp_text2 hk.out.1 hk.out.2.1 hk.out.2.2 ?_)
      | wp_step))
    all_goals first | exact ⟨_, rfl, h⟩ | skip

theorem pow3_args (a b c : Value) : argsOk "int.__pow__" ⟨[a, b, c], []⟩ := by
  unfold argsOk; kernel_rfl
theorem pow3_kind : builtinKind "pow" = none := by decide +kernel
theorem pow3_plain : plainId "pow" = true := by decide +kernel
theorem pow3_entry : entryFor table "pow" = some Builtin.«pow» := entryFor_of_tree (by kernel_rfl)
theorem pow3_ok (a b c : Value) : argsOk "pow" ⟨[a, b, c], []⟩ := by unfold argsOk; kernel_rfl
theorem init3_ok (a b c : Value) : argsOk "object.__init__" ⟨[a, b, c], []⟩ := by unfold argsOk; kernel_rfl
theorem typeCall_int_2 (a b : Value) : checkTypeCall "int" ⟨[a, b], []⟩ = pure () := by kernel_rfl
theorem newCall_int_2 (a b : Value) : checkBuiltinCall "int.__new__" ⟨[.type "int", a, b], []⟩ = pure () := by kernel_rfl

theorem gives_pow3 (e : Int) (t u v : Tok) (h0 : 0 ≤ e) : Gives (Builtin.«int.__pow__» ⟨[.int 17 t, .int e u, .int 3329 v], []⟩) (.int (Builtin.powMod 17 e.natAbs 3329)) :=
  .of_wp fun M A E s Q h => by
    obtain ⟨hp, g, d, tk, os⟩ := s
    have hy : ¬ (e < 0) := by omega
    repeat (any_goals (first
      | assumption
      | (with_reducible refine wpAny_ite_false (decide_eq_false hy) ?_)
      | wp_step))
    all_goals first | exact ⟨_, rfl, h⟩ | skip
theorem gives_powInv (t u v : Tok) : Gives (Builtin.«int.__pow__» ⟨[.int 128 t, .int (-1) u, .int 3329 v], []⟩) (.int 3303) :=
  .of_wp fun M A E s Q h => by
    obtain ⟨hp, g, d, tk, os⟩ := s
    repeat (any_goals (first
      | assumption
      | wp_step))
    all_goals first | exact ⟨_, rfl, h⟩ | skip

section
variable {prog : Program} {w : World} {A : Around} {E : Value → Shared → Prop} {s : Shared} {Q : Value → Shared → Prop}
theorem call_powG {a e c r : Int} {t u v : Tok} (G : Gives (Builtin.«int.__pow__» ⟨[.int a t, .int e u, .int c v], []⟩) (.int r)) (h : Q (.int r s.toks) { s with toks := s.toks + 1 }) : wpAny (model prog w) A (call (.builtin "pow") [.int a t, .int e u, .int c v]) Q E s := by
  refine Calls.call_function_entry pow3_kind pow3_plain pow3_entry (pow3_ok _ _ _) ?_
  obtain ⟨hp, g, d, tk, os⟩ := s
  have hT : (⟨hp, g, d, tk, os⟩ : Shared).TypeIs (.int a t) "int" := rfl
  have f3 : typeLookup (.type "int") "__pow__" = pure (some (.builtin "int.__pow__")) := F.slot_int_pow.lookup
  have f4 := F.slot_int_pow.bind (.int a t)
  have hh := Hid2.mk G
  clear G
  repeat (any_goals (first | assumption | ((with_reducible show wpAny _ _ (call (Value.builtin "int.__pow__") _ _) _ _ _); refine call_gives F.slot_int_pow hT F.entry_int_pow (pow3_args _ _ _) hh.out ?_; dsimp only [Made.post]) | wp_step))
  all_goals first | exact ⟨_, rfl, h⟩ | exact h | skip
theorem call_pow3 {e : Int} {t u v : Tok} (h0 : 0 ≤ e) (h : Q (.int (Builtin.powMod 17 e.natAbs 3329) s.toks) { s with toks := s.toks + 1 }) : wpAny (model prog w) A (call (.builtin "pow") [.int 17 t, .int e u, .int 3329 v]) Q E s := call_powG (gives_pow3 e t u v h0) h
theorem call_powInv {t u v : Tok} (h : Q (.int 3303 s.toks) { s with toks := s.toks + 1 }) : wpAny (model prog w) A (call (.builtin "pow") [.int 128 t, .int (-1) u, .int 3329 v]) Q E s := call_powG (gives_powInv t u v) h
theorem call_int2 {x : PySem.Str} {u t2 : Tok} {n : Int} (hs : (numSeenOf x).length ≤ 640) (hr : (int_private% "readNumeral") 0 2 (numSeenOf x) = (int_private% "Numeral.value") n) (ha : ((numSeenOf x).length == (numTextOf x).length) = true)
    (h : Q (.int n s.toks) { s with toks := s.toks + 1 }) : wpAny (model prog w) A (call (.type "int") [.str x u, .int 2 t2]) Q E s :=
  callType_new F.called_int F.newNe_int (typeCall_int_2 _ _) (newCall_int_2 _ _) (fun obj => init3_ok obj _ _) F.entry_int_new (gives_text2 hs hr ha).meets (show (Made.int n).post _ s from ⟨rfl, h⟩)
end

/-- the text that _br reads, for i in 0 .. 127 -/
def brText (i : Int) : PySem.Str := Txt.sliceBy (Txt.zfill (Txt.slice (baseText "0b" 2 i) (some 2) none) 7) none none (-1, 0)
noncomputable def numOf (x : int_private% "Numeral") : Option Int := (int_private% "Numeral.rec") (motive := fun _ => Option Int) none (fun _ => none) none (fun i => some i) x
theorem numOf_some {x : int_private% "Numeral"} {n : Int} (h : numOf x = some n) : x = (int_private% "Numeral.value") n := by
  cases x with
  | value i => cases h; rfl
  | invalid => cases h
  | tooLong _ => cases h
  | byTheLibrary => cases h
def br7 (i : Int) : Int := i % 2 * 64 + i / 2 % 2 * 32 + i / 4 % 2 * 16 + i / 8 % 2 * 8 + i / 16 % 2 * 4 + i / 32 % 2 * 2 + i / 64 % 2
theorem all128 {P : Int → Prop} (h : ∀ j : Fin 128, P (j.val : Int)) (i : Int) (h0 : 0 ≤ i) (h1 : i < 128) : P i := by
  have := h ⟨i.toNat, by omega⟩
  simpa [Int.toNat_of_nonneg h0] using this
theorem br_and (i : Int) (h0 : 0 ≤ i) (h1 : i < 128) : Builtin.bitAnd i (2 ^ Int.toNat 7 - 1) = i :=
  all128 (P := fun i => Builtin.bitAnd i (2 ^ Int.toNat 7 - 1) = i) (by decide +kernel) i h0 h1
theorem br_len (i : Int) (h0 : 0 ≤ i) (h1 : i < 128) : (Txt.zfill (Txt.slice (baseText "0b" 2 i) (some 2) none) 7).length = 7 :=
  all128 (P := fun i => (Txt.zfill (Txt.slice (baseText "0b" 2 i) (some 2) none) 7).length = 7) (by decide +kernel) i h0 h1
theorem br_seen (i : Int) (h0 : 0 ≤ i) (h1 : i < 128) : (numSeenOf (brText i)).length = 7 ∧ (numTextOf (brText i)).length = 7 :=
  all128 (P := fun i => (numSeenOf (brText i)).length = 7 ∧ (numTextOf (brText i)).length = 7) (by decide +kernel) i h0 h1
theorem br_num (i : Int) (h0 : 0 ≤ i) (h1 : i < 128) : numOf ((int_private% "readNumeral") 0 2 (numSeenOf (brText i))) = some (br7 i) :=
  all128 (P := fun i => numOf ((int_private% "readNumeral") 0 2 (numSeenOf (brText i))) = some (br7 i)) (by decide +kernel) i h0 h1
end
section
theorem pad1 : True := by (w_top off); trivial
section
local macro_rules | `(tactic| walk_at "call builtin:bin") => `(tactic| (refine P.bin_of_int (hsz := baseText_under (by decide) (by decide) (by omega)) ?_))
local macro_rules | `(tactic| walk_at "subscriptTail Name Slice str ref") => `(tactic| ((with_reducible show wpAny _ _ (subscriptTail _ (Expr.Slice none none (some _) _) _ _) _ _ _); (with_reducible rename Fr _ _ _ _ => F'); (with_reducible rename News _ _ _ _ => N'); (refine slice_strK_nn (hsz := Nat.le_trans (Nat.le_of_eq (br_len _ (by assumption) (by assumption))) (by decide)) (s := ⟨_, _, _, _, _⟩) F' N' (by decide) ?_); intro _ _ _ _ _))
theorem br_int {w : World} {A : Around} {E : Value → Shared → Prop} {s : Shared} {Q : Value → Shared → Prop} {x : Tok} {i : Int} {u t2 : Tok} (h0 : 0 ≤ i) (h1 : i < 128) (h : Q (.int (br7 i) s.toks) { s with toks := s.toks + 1 }) :
    wpAny (model PySem.Challenge.pw_yi0004_01 w) A (call (.type "int") [.str (Txt.sliceBy (Txt.zfill (Txt.slice (baseText "0b" 2 i) (some 2) none) 7) none none (-1, x)) u, .int 2 t2]) Q E s := by
  have e : Txt.sliceBy (Txt.zfill (Txt.slice (baseText "0b" 2 i) (some 2) none) 7) none none (-1, x) = brText i := rfl
  rw [e]
  have q := br_seen i h0 h1
  exact call_int2 (by rw [q.1]; decide) (numOf_some (br_num i h0 h1)) (by rw [q.1, q.2]; rfl) h
theorem br_spec {w : World} {p : Program} {loose : List Str} {mean : ExcName → Option Value} {mg mb : Str → Option Value}
    {dp un : Nat} {gd : Option (List Code)} {cn : Str} {cs : Scope} {a : Addr} {ccd : Value} {cl : List (Str × Addr)} {outer : List Env} {A₀ : Around} {base h₀ : Heap} {L : Addr} {m : Str → Option Value} {news : List (Addr × Obj)} {s : Shared} {Q E : Value → Shared → Prop}
    (i : Int) (tk tk2 : Tok) (B : Below A₀ base outer h₀) (F : Fr h₀ L s.heap m) (X : (Mine.hd.heap_1 w.params).In h₀) (N : News h₀ L s.heap news) (T : Top p loose mean mg mb h₀) (hk : cs.kind = .function)
    (h0 : 0 ≤ i) (h1 : i < 128) (hd : dp + 1 < recursionLimit) (hu : un + 8 < cLine)
    (hret : ∀ t h' tk', Fr h₀ L h' m → News h₀ L h' news → Q (.int (br7 i) t) { s with heap := h', toks := tk' }) :
    wpAny (model PySem.Challenge.pw_yi0004_01 w) (ktrTop dp un gd cn cs L a ccd cl outer) (call (.ref 245) [.int i tk, .int 7 tk2]) Q E s := by
  refine wpAny_call ?_
  k_dflt cell_enter
  k_steps
  rw [br_and i h0 h1]
  k_steps
  refine br_int (by assumption) (by assumption) ?_
  k_steps
  exact hret _ _ _ (by k_asm) (by k_asm)
end

theorem br7_nonneg (i : Int) : 0 ≤ br7 i := by unfold br7; omega
theorem ne_of_allLt {d c : Nat} {l : List (Addr × Obj)} (h : AllLt d l) (hc : d ≤ c) : ∀ p ∈ l, p.1 ≠ c := fun p hp => Nat.ne_of_lt (Nat.lt_of_lt_of_le (ktn_ltOf h p hp) hc)
local macro_rules | `(tactic| k_all) => `(tactic| first | assumption | ((with_reducible rename AllLt _ _ => hx9); exact ne_of_allLt hx9 (by omega)) | ((with_reducible rename AllLt _ _ => hx9); clear hx9; k_all))
local macro_rules | `(tactic| k_lt $h:ident) => `(tactic| (replace $h := allLt_of $h; (try simp only [AllLt, and_true] at $h:ident); (repeat (have := And.left $h; replace $h := And.right $h))))
local macro_rules | `(tactic| walk_at "call builtin:pow") => `(tactic| first | refine call_powInv ?_ | refine call_pow3 (br7_nonneg _) ?_)
local macro_rules | `(tactic| walk_at "call ref") => `(tactic| (k_here; (with_reducible show wpAny _ _ (call (Value.ref 245) _) _ _ _); k_dflt (refine' br_spec _ _ _ ?k1 ?k2 ?k3 ?k4 ?k5 ?kK ?kl ?kh ?kd ?ku ?kR; (case k1 | k2 | k3 | k4 | k5 => k_asm); (case kK => first | exact rfl | assumption); (case kl | kh => first | assumption | omega); (case kd => ktr_room); (case ku => ktr_units)); intro t9 h9 tk9 F9 N9; (try dsimp only); (try k_fold)))
local macro_rules | `(tactic| ktr_units) => `(tactic| ((have hcL9 := cLine_is); (simp only [units_under_make, units_in1, units_deeper, Around.mark_units, units_caller]); (try dsimp only [ktrTop]); omega))
local macro_rules | `(tactic| walk_at "getMethod ref") => `(tactic| (k_here; (with_reducible show wpAny _ _ (getMethod (Value.ref _) (PySem.Str.ofString "_br") _) _ _ _); k_dflt (refine' kmu_sm ?k1 ?k2 ?k4 ?k5 ?k6 ?k7 ?k8 ?k9 ?k10 ?k11 ?k12 ?k13 ?k14 ?_; (case k1 | k2 => k_asm); (case k4 => k_inst); (case k5 | k6 | k7 | k8 | k9 | k10 => k_is); (case k11 => decide +kernel); (case k12 => k_get); (case k13 => k_is); (case k14 => k_handed); k_whole)))
def zetas : List Int := (rangeKs 0 128).map fun k => (Builtin.powMod 17 (br7 k).natAbs 3329 : Int)
theorem ring_spec {w : World} {p : Program} {loose : List Str} {mean : ExcName → Option Value} {mg mb : Str → Option Value}
    {dp un : Nat} {gd : Option (List Code)} {cn : Str} {cs : Scope} {a : Addr} {ccd : Value} {cl : List (Str × Addr)} {outer : List Env} {A₀ : Around} {base h₀ : Heap} {L : Addr} {m : Str → Option Value} {news : List (Addr × Obj)} {s : Shared} {Q E : Value → Shared → Prop}
    (B : Below A₀ base outer h₀) (F : Fr h₀ L s.heap m) (X : (Mine.hd.heap_1 w.params).In h₀) (N : News h₀ L s.heap news) (T : Top p loose mean mg mb h₀) (hk : cs.kind = .function)
    (hd : dp + 10 < recursionLimit) (hu : un + 80 < cLine)
    (hret : ∀ (x dx z : Addr) (t1 t2 t3 t4 t5 t6 t7 : Tok) (ys : List Value) h' tk', IntsAre ys zetas → AllLt dx news → dx < x → LCg.Off1 z news → x ≠ z → dx ≠ z → Fr h₀ L h' m →
      News h₀ L h' ((x, instObj 282 dx) :: (dx, dictOf [⟨PyData.keyHash w.params (Str.ofString "q"), .str (Str.ofString "q") t1, .int 3329 t2⟩, ⟨PyData.keyHash w.params (Str.ofString "n"), .str (Str.ofString "n") t3, .int 256 t4⟩,
        ⟨PyData.keyHash w.params (Str.ofString "ntt_zetas"), .str (Str.ofString "ntt_zetas") t5, .ref z⟩, ⟨PyData.keyHash w.params (Str.ofString "ntt_f"), .str (Str.ofString "ntt_f") t6, .int 3303 t7⟩] 4) :: (z, LCg.lst ys) :: news) →
      Q (.ref x) { s with heap := h', toks := tk' }) :
    wpAny (model PySem.Challenge.pw_yi0004_01 w) (ktrTop dp un gd cn cs L a ccd cl outer) (call (.ref 282) []) Q E s := by
  k_dflt (refine' call_cls ?k1 ?k2 ?k3 ?k4 ?k5 ?k6 ?_; (case k1 => k_asm); (case k2 => k_asm); (case k3 => k_asm); (case k4 => k_is); (case k5 => k_is); (case k6 => k_is); k_whole; intro x' d' h' F' N' l1 l2; (try k_lt l1); (try k_lt2 l2); (try k_sweep); (refine' code_defC ?k1 ?k2 ?k3 ?k4 ?k5 ?kA ?kF ?kK ?k6 ?k7 ?k8 ?k9 ?kB ?kD ?_ ?c2 ?c3 ?c4; (case kA => exact rfl); (case kF => exact rfl); (case kK => assumption); (case k1 => k_asm); (case k2 => k_asm); (case k3 => k_asm); (case k4 => k_asm); (case k5 => k_asm); (case k6 => k_is); (case k7 => k_is); (case k8 => ktr_room); (case k9 => exact BindsTo.of_eq rfl); (case kB => exact rfl); (case kD => decide +kernel); (case c2 => exact rfl); (case c3 => exact rfl); (case c4 => exact rfl); k_whole; intro g' L' h' tk' cells' FG' F' N' Y' B' X' T' l1; (try k_lt l1); k_cells Y'; (try simp only [List.cons_append, List.nil_append] at N'); (try dsimp only); (try k_lift B'); (try k_fold)))
  k_steps
  (rename IntsAre _ _ => hI); (rename Fr h₀ L _ _ => kF); (rename News h₀ L _ _ => kN)
  refine' hret x' d' _ _ _ _ _ _ _ _ _ _ _ hI (by assumption) (by assumption) ?o1 ?o2 ?o3 kF (cb_drop kN ?o4)
  case o4 => kcf_all
  all_goals ((rename _ ∧ _ => o1); (obtain ⟨_, _, o2, o3, o4⟩ := o1); assumption)
end
section
/-- a goal at which the walk rests -/
def Stop (p : Prop) : Prop := p
theorem stop {p : Prop} (h : Stop p) : p := h

section
variable {prog : Program} {w : World} {A : Around} {E : Value → Shared → Prop} {s : Shared} {env : Env} {h₀ : Heap} {x : Str} {body : List Stmt} {Q : Flow → Shared → Prop}
def ForS {σ : Type} (Led : σ → List (Addr × Obj)) (ps : σ → List (Str × Value)) (P : Nat → σ → Prop) (i : Nat) (m : Str → Option Value) (nx : List (Addr × Obj)) : Prop :=
  ∃ c : σ, nx = Led c ∧ (∀ p ∈ ps c, m p.1 = some p.2) ∧ P i c
theorem for_em {ps : List (Str × Value)} {m₁ : Str → Option Value} (h1 : ∀ p ∈ ps, m₁ p.1 = some p.2) : kstB m₁ ps = m₁ := by
  funext y
  exact kstB_eq h1 fun _ => rfl
/-- a for over a range by ones; what is kept of the frame are the names that are told -/
theorem for_range {σ : Type} {r : Addr} {a₀ b₀ : Int} {t₀ u₀ v₀ : Tok} {n : Nat} {m₀ : Str → Option Value} (Led : σ → List (Addr × Obj)) (ps : σ → List (Str × Value)) (P : Nat → σ → Prop) (c₀ : σ)
    (hh : A.handled = none) (hr : IsRange s.heap r a₀ b₀ 1 t₀ u₀ v₀) (hsmall : Builtin.Range.small a₀ b₀ 1 = true) (hn : Builtin.Range.rangeSize a₀ b₀ 1 = (n : Int)) (F : Fr h₀ env.locals s.heap m₀) (N : News h₀ env.locals s.heap (Led c₀)) (hk : ∀ p ∈ ps c₀, m₀ p.1 = some p.2) (hp : P 0 c₀)
    (turn : ∀ (c : σ) (i : Nat) t (u : Str → Option Value) h tk own, i < n → OwnOff own ((Led c₀).map (·.1)) → P i c →
      Fr h₀ env.locals h (fun y => if y = x then some (.int (a₀ + (i : Int)) t) else kstB u (ps c) y) → News h₀ env.locals h (Led c ++ own) →
      wpAny (model prog w) A (execs body env) (InvPostN h₀ env.locals (ForS Led ps P (i + 1)) own ((Led c₀).map (·.1)) { s with heap := h, toks := tk } Q) E { s with heap := h, toks := tk })
    (done : ∀ (c : σ) (u : Str → Option Value) h tk, P n c → Fr h₀ env.locals h (kstB u (ps c)) → News h₀ env.locals h (Led c) → Q .next { s with heap := h, toks := tk }) :
    wpAny (model prog w) A (pyIter (.ref r)) (fun it s₂ => LoopAtV prog w A h₀ env x body Q E it s₂) E s := by
  refine wpAny_pyIter_range hr hsmall ?_
  have W : Walks prog w A s.heap.objs.size [s.heap.objs.size] [s.heap.objs.size] n (fun i v => i < n ∧ ∃ t, v = .int (a₀ + i * 1) t)
      (fun i h => IsRangeIter h s.heap.objs.size (a₀ + (i : Nat) * 1) ((n : Int) - (i : Nat)) 1) := (Walks.range hh _ a₀ 1 n).bound
  refine loop_invN (fun i m nx => ForS Led ps P i m nx) W ?_ ?_ ?_ ?_ (by show IsRangeIter _ _ _ _ _; rw [hn]; simpa using Heap.get?_push_size _ rfl) (F.push _) (fun p hp => ⟨Heap.get?_push_of_some _ (N p hp).1, (N p hp).2⟩) ⟨c₀, rfl, hk, hp⟩ ?_ ?_
  · intro hm
    exact absurd F.ns.lt ((List.mem_singleton.mp hm) ▸ Nat.lt_irrefl _)
  · intro b hb
    rw [List.mem_singleton.mp hb]
    exact next_is_new F
  · intro p hp hI
    exact absurd (Heap.lt_size (N p hp).1) ((List.mem_singleton.mp hI) ▸ Nat.lt_irrefl _)
  · intro p hp hI
    exact absurd (Heap.lt_size (N p hp).1) ((List.mem_singleton.mp hI) ▸ Nat.lt_irrefl _)
  · rintro i v m₁ nx h tk own hi ⟨_, t, rfl⟩ _ hoff ⟨c, rfl, h1, hp'⟩ F₁ N₁
    have e1 : a₀ + (i : Int) * 1 = a₀ + (i : Int) := by omega
    rw [e1] at F₁
    have em := for_em h1
    rw [← em] at F₁
    exact turn c i t m₁ h tk own hi hoff hp' F₁ N₁
  · rintro m₁ nx h tk ⟨c, rfl, h1, hp'⟩ F₁ N₁
    have em := for_em h1
    rw [← em] at F₁
    exact done c m₁ h tk hp' F₁ N₁
theorem for_end {σ : Type} {Led : σ → List (Addr × Obj)} {ps : σ → List (Str × Value)} {P : Nat → σ → Prop} {i : Nat} (c : σ) {L : Addr} {m' : Str → Option Value} {own news' : List (Addr × Obj)} {adr : List Addr} {s₁ : Shared} {h' : Heap} {tk : Nat}
    (F : Fr h₀ L h' m') (N : News h₀ L h' news') (hn : ∀ p ∈ Led c, p ∈ news') (ho : ∀ p ∈ own, p ∈ news') (ha : (Led c).map (·.1) = adr) (hk : ∀ p ∈ ps c, m' p.1 = some p.2) (hp : P i c) :
    InvEndN h₀ L (ForS Led ps P i) own adr s₁ { s₁ with heap := h', toks := tk } :=
  InvEndN.intro F N ⟨c, rfl, hk, hp⟩ ha hn ho

/-- a while, likewise -/
def WhlEnd {σ : Type} (h₀ : Heap) (L : Addr) (s : Shared) (Led : σ → List (Addr × Obj)) (ps : σ → List (Str × Value)) (P : σ → Prop) (μ : σ → Nat) (c : σ) (s₂ : Shared) : Prop :=
  ∃ (c' : σ) (h' : Heap) (tk : Nat) (m' : Str → Option Value) (news' : List (Addr × Obj)), s₂ = { s with heap := h', toks := tk } ∧ Fr h₀ L h' m' ∧ News h₀ L h' news' ∧ (∀ p ∈ Led c', p ∈ news') ∧ (∀ p ∈ ps c', m' p.1 = some p.2) ∧ P c' ∧ μ c' < μ c
def WhlTurn {σ : Type} (h₀ : Heap) (L : Addr) (s : Shared) (Led : σ → List (Addr × Obj)) (ps : σ → List (Str × Value)) (P : σ → Prop) (μ : σ → Nat) (Q : Flow → Shared → Prop) (c : σ) (f : Flow) (s₂ : Shared) : Prop :=
  match f with
  | .ret v => Q (.ret v) s₂
  | .brk => Q .next s₂
  | _ => WhlEnd h₀ L s Led ps P μ c s₂
theorem whl {σ : Type} {L : Addr} {test : PySem.Expr} {pos : Pos} {m₀ : Str → Option Value} (Led : σ → List (Addr × Obj)) (ps : σ → List (Str × Value)) (P : σ → Prop) (μ : σ → Nat) (c₀ : σ)
    (F : Fr h₀ L s.heap m₀) (N : News h₀ L s.heap (Led c₀)) (hk : ∀ p ∈ ps c₀, m₀ p.1 = some p.2) (hp : P c₀)
    (turn : ∀ (c : σ) (u : Str → Option Value) h tk, P c → Fr h₀ L h (kstB u (ps c)) → News h₀ L h (Led c) →
      wpAny (model prog w) A (isTrue test env (eval test env)) (fun b s₂ =>
        if b = true then wpAny (model prog w) A (execs body env) (WhlTurn h₀ L s Led ps P μ Q c) E s₂ else Q .next s₂) E { s with heap := h, toks := tk })
    (hE : PassesOwn (model prog w) A env E := by passes_own) :
    wpAny (model prog w) A (exec (.While test body [] pos) env) Q E s := by
  refine While_inv2 (fun n m nx => ∃ c : σ, nx = Led c ∧ μ c = n ∧ (∀ p ∈ ps c, m p.1 = some p.2) ∧ P c) F N ⟨c₀, rfl, rfl, hk, hp⟩ ?_ hE
  rintro n m₁ nx h tk F₁ N₁ ⟨c, hnx, hsz, h1, hp'⟩
  rw [hnx] at N₁
  rw [← hsz]
  have em := for_em h1
  rw [← em] at F₁
  refine wpAny_mono (turn c m₁ h tk hp' F₁ N₁) (fun b s₂ p => ?_) fun _ _ x => x
  cases b with
  | false => simpa using p
  | true =>
    simp only [if_true] at p ⊢
    refine wpAny_mono p (fun f s₃ q => ?_) fun _ _ x => x
    cases f with
    | ret v => exact q
    | brk => exact q
    | next =>
      obtain ⟨c', h', tk', m', news', rfl, F', N', hn, hk9, hp9, hm9⟩ := q
      exact ⟨h', tk', m', Led c', μ c', rfl, F', fun p hp => N' p (hn p hp), hm9, c', rfl, rfl, hk9, hp9⟩
    | cont =>
      obtain ⟨c', h', tk', m', news', rfl, F', N', hn, hk9, hp9, hm9⟩ := q
      exact ⟨h', tk', m', Led c', μ c', rfl, F', fun p hp => N' p (hn p hp), hm9, c', rfl, rfl, hk9, hp9⟩
theorem whl_end {σ : Type} {L : Addr} {Led : σ → List (Addr × Obj)} {ps : σ → List (Str × Value)} {m' : Str → Option Value} {P : σ → Prop} {μ : σ → Nat} {c : σ} {h' : Heap} {tk : Nat} {news' : List (Addr × Obj)} (c' : σ)
    (F : Fr h₀ L h' m') (N : News h₀ L h' news') (hn : ∀ p ∈ Led c', p ∈ news') (hk : ∀ p ∈ ps c', m' p.1 = some p.2) (hp : P c') (hm : μ c' < μ c) :
    WhlTurn h₀ L s Led ps P μ Q c .next { s with heap := h', toks := tk } := ⟨c', h', tk, m', news', rfl, F, N, hn, hk, hp, hm⟩
end

/-! what to_ntt reckons -/
def bfly (z : Int) (l j : Nat) (c : List Int) : List Int :=
  let t := z * c.getD (j + l) 0
  let c1 := c.set (j + l) (c.getD j 0 - t)
  c1.set j (c1.getD j 0 + t)
def blk (z : Int) (l st : Nat) : Nat → List Int → List Int
  | 0, c => c
  | n + 1, c => bfly z l (st + n) (blk z l st n c)
def lay (zs : List Int) (l : Nat) : Nat → List Int → List Int
  | 0, c => c
  | b + 1, c => blk (zs.getD (128 / l + b) 0) l (2 * l * b) l (lay zs l b c)
def tr (zs : List Int) : Nat → List Int → List Int
  | 0, c => c
  | i + 1, c => lay zs (2 ^ (7 - i)) (2 ^ i) (tr zs i c)
theorem bfly_len (z : Int) (l j : Nat) (c : List Int) : (bfly z l j c).length = c.length := by simp [bfly]
theorem blk_len (z : Int) (l st : Nat) (c : List Int) : ∀ n, (blk z l st n c).length = c.length
  | 0 => rfl
  | n + 1 => by rw [blk, bfly_len, blk_len]
theorem lay_len (zs : List Int) (l : Nat) (c : List Int) : ∀ b, (lay zs l b c).length = c.length
  | 0 => rfl
  | b + 1 => by rw [lay, blk_len, lay_len]
theorem tr_len (zs : List Int) (c : List Int) : ∀ i, (tr zs i c).length = c.length
  | 0 => rfl
  | i + 1 => by rw [tr, lay_len, tr_len]
end
local macro_rules | `(tactic| k_all) => `(tactic| first | assumption | ((with_reducible rename AllLt _ _ => hx9); exact ne_of_allLt hx9 (by omega)) | ((with_reducible rename AllLt _ _ => hx9); clear hx9; k_all))
local macro_rules | `(tactic| k_lt $h:ident) => `(tactic| ((try replace $h := allLt_of $h); (try simp only [AllLt, and_true] at $h:ident); (repeat (have := And.left $h; replace $h := And.right $h))))
local macro_rules | `(tactic| ktr_units) => `(tactic| ((have hcL9 := cLine_is); (simp only [units_under_make, units_in1, units_deeper, Around.mark_units, units_caller]); (try dsimp only [ktrTop]); omega))
local macro_rules | `(tactic| k_units) => `(tactic| ktr_units)
local macro_rules | `(tactic| k_room) => `(tactic| ((simp only [depth_under_make, depth_under_kw, depth_in1, depth_deeper, depth_caller]); (try dsimp only [ktrTop]); omega))
local macro_rules | `(tactic| ktr_room) => `(tactic| ((try simp only [depth_under_make, depth_under_kw, depth_in1, depth_deeper, depth_caller]); (try dsimp only [ktrTop]); omega))
section
theorem pad2 : True := by (w_top off); trivial
local macro_rules | `(tactic| walk_at "pad 0") => `(tactic| skip)
local macro_rules | `(tactic| walk_at "pad 1") => `(tactic| skip)
local macro_rules | `(tactic| walk_at "pad 2") => `(tactic| skip)
local macro_rules | `(tactic| walk_at "pad 3") => `(tactic| skip)
local macro_rules | `(tactic| walk_at "pad 4") => `(tactic| skip)
local macro_rules | `(tactic| walk_at "pad 5") => `(tactic| skip)
section
variable {M : Model} {A : Around} {E : Value → Shared → Prop} {s : Shared} {K : Frag} {env : Env} {pos : Pos} {x C : Addr} {ox : Obj} {od : Option Obj} {first : List Value} {Q : Value → Shared → Prop}
theorem callWith_objKW {e : PySem.Expr} {rest : List PySem.Expr} {kws : List Keyword} (_X : K.In s.heap) (_I : InstAt s.heap x ox C od) (hd : ox.data = .plain) (hall : (backToKw pos (keywordEach kws env)).all (·.1.isSome) = true)
    (h : wpAny M A (spliced (backTo pos (starEach (e :: rest) env))) (fun vs s₁ => wpAny M A (evalAll ((backToKw pos (keywordEach kws env)).map (·.2)))
      (fun ks s₂ => kco_P K x C ox od s₂.heap ∧ wpAny M A (call (.ref x) (first ++ vs) (((backToKw pos (keywordEach kws env)).filterMap (·.1)).zip ks)) Q E s₂) E s₁) E s)
    (hplain : ((backTo pos (starEach (e :: rest) env)).any (·.1) || (backToKw pos (keywordEach kws env)).any (·.1.isNone)) = false := by rfl) (he : starEach (e :: rest) env = (false, eval e env) :: starEach rest env := by rfl) :
    wpAny M A (callWith pos (.ref x) first (backTo pos (starEach (e :: rest) env)) (backToKw pos (keywordEach kws env))) Q E s :=
  kco_callWith_of hplain hd (evalArgs_kw2 hall h he)
end
theorem newsCons {h₀ h : Heap} {L : Addr} {news : List (Addr × Obj)} {p : Addr × Obj} (N : News h₀ L h news) {l : List (Addr × Obj)} (hp : p ∈ news) (hl : News h₀ L h l) : News h₀ L h (p :: l) := fun q hq => (List.mem_cons.mp hq).elim (fun e => e ▸ N p hp) (hl q)
theorem ringcall_spec {w : World} {p : Program} {loose : List Str} {mean : ExcName → Option Value} {mg mb : Str → Option Value}
    {dp un : Nat} {gd : Option (List Code)} {cn : Str} {cs : Scope} {a : Addr} {ccd : Value} {cl : List (Str × Addr)} {outer : List Env} {A₀ : Around} {base h₀ : Heap} {L : Addr} {m : Str → Option Value} {news : List (Addr × Obj)} {s : Shared} {Q E : Value → Shared → Prop}
    {c r dr z : Addr} {tq1 tq2 tq3 tq4 tq5 tq6 tq7 : Tok} {vs : List Value} {ns : List Int} {n : Nat}
    (B : Below A₀ base outer h₀) (F : Fr h₀ L s.heap m) (X : (Mine.hd.heap_1 w.params).In h₀) (N : News h₀ L s.heap news) (T : Top p loose mean mg mb h₀) (hk : cs.kind = .function)
    (hs : IntsAre vs ns) (hlen : ns.length = 256) (hc : (c, listOf vs.toArray n) ∈ news) (hr : (r, instObj 282 dr) ∈ news) (hdr : (dr, dictOf [⟨PyData.keyHash w.params (Str.ofString "q"), .str (Str.ofString "q") tq1, .int 3329 tq2⟩, ⟨PyData.keyHash w.params (Str.ofString "n"), .str (Str.ofString "n") tq3, .int 256 tq4⟩, ⟨PyData.keyHash w.params (Str.ofString "ntt_zetas"), .str (Str.ofString "ntt_zetas") tq5, .ref z⟩, ⟨PyData.keyHash w.params (Str.ofString "ntt_f"), .str (Str.ofString "ntt_f") tq6, .int 3303 tq7⟩] 4) ∈ news)
    (hd : dp + 10 < recursionLimit) (hu : un + 80 < cLine)
    (hret : ∀ (x dx : Addr) (tp1 tp2 : Tok) h' tk', AllLt dx news → @LT.lt Nat _ dx x → Fr h₀ L h' m → News h₀ L h' ((x, instObj 350 dx) :: (dx, dictOf [⟨PyData.keyHash w.params (Str.ofString "parent"), .str (Str.ofString "parent") tp1, .ref r⟩, ⟨PyData.keyHash w.params (Str.ofString "coeffs"), .str (Str.ofString "coeffs") tp2, .ref c⟩] 2) :: news) → Q (.ref x) { s with heap := h', toks := tk' }) :
    wpAny (model PySem.Challenge.pw_yi0004_01 w) (ktrTop dp un gd cn cs L a ccd cl outer) (call (.ref r) [.ref c] []) Q E s := by
  have N0 := newsCons N hc (newsCons N hr (newsCons N hdr N))
  clear N hc hr hdr
  refine wpAny_call ?_
  k_dflt (refine' kco_code ?k1 ?k2 ?k3 ?k4 ?k5 ?k6 ?_; (case k1 => k_in); (case k2 => k_inst); (case k3 => rfl); (case k4 => k_is); (case k5 => k_is); (case k6 => k_is))
  k_dflt (refine' code_def ?k1 ?k2 ?k3 ?k4 ?k5 ?kA ?kF ?kK ?k6 ?k7 ?k8 ?k9 ?kB ?_ ?c2 ?c3 ?c4 ?c5; (case kA => exact rfl); (case kF => exact rfl); (case kK => assumption); (case k1 => k_asm); (case k2 => k_asm); (case k3 => k_asm); (case k4 => k_asm); (case k5 => k_asm); (case k6 => k_is); (case k7 => k_is); (case k8 => ktr_room); (case k9 => first | exact BindsTo.of_eq rfl | exact binds_K (by k_in) rfl (by k_is) rfl rfl rfl); (case c5 => decide); (case kB => exact locs rfl); (case c2 => exact rfl); (case c3 => exact rfl); (case c4 => exact rfl); k_whole; intro g' L' h' FG' F' N' B' X' T'; (try dsimp only); (try k_lift B'); (try k_fold))
  k_steps
  (rename Fr h₀ L _ _ => kF); (rename News h₀ L _ _ => kN)
  refine' hret _ _ _ _ _ _ (by assumption) (by assumption) kF (cb_drop kN ?o4)
  case o4 => kcf_all
theorem ringcallT_spec {w : World} {p : Program} {loose : List Str} {mean : ExcName → Option Value} {mg mb : Str → Option Value}
    {dp un : Nat} {gd : Option (List Code)} {cn : Str} {cs : Scope} {a : Addr} {ccd : Value} {cl : List (Str × Addr)} {outer : List Env} {A₀ : Around} {base h₀ : Heap} {L : Addr} {m : Str → Option Value} {news : List (Addr × Obj)} {s : Shared} {Q E : Value → Shared → Prop}
    {c r dr z : Addr} {tq1 tq2 tq3 tq4 tq5 tq6 tq7 : Tok} {vs : List Value} {ns : List Int} {n : Nat}
    (B : Below A₀ base outer h₀) (F : Fr h₀ L s.heap m) (X : (Mine.hd.heap_1 w.params).In h₀) (N : News h₀ L s.heap news) (T : Top p loose mean mg mb h₀) (hk : cs.kind = .function)
    (hs : IntsAre vs ns) (hlen : ns.length = 256) (hc : (c, listOf vs.toArray n) ∈ news) (hr : (r, instObj 282 dr) ∈ news) (hdr : (dr, dictOf [⟨PyData.keyHash w.params (Str.ofString "q"), .str (Str.ofString "q") tq1, .int 3329 tq2⟩, ⟨PyData.keyHash w.params (Str.ofString "n"), .str (Str.ofString "n") tq3, .int 256 tq4⟩, ⟨PyData.keyHash w.params (Str.ofString "ntt_zetas"), .str (Str.ofString "ntt_zetas") tq5, .ref z⟩, ⟨PyData.keyHash w.params (Str.ofString "ntt_f"), .str (Str.ofString "ntt_f") tq6, .int 3303 tq7⟩] 4) ∈ news)
    (hd : dp + 10 < recursionLimit) (hu : un + 80 < cLine)
    (hret : ∀ (x dx : Addr) (tp1 tp2 : Tok) h' tk', AllLt dx news → @LT.lt Nat _ dx x → Fr h₀ L h' m → News h₀ L h' ((x, instObj 426 dx) :: (dx, dictOf [⟨PyData.keyHash w.params (Str.ofString "parent"), .str (Str.ofString "parent") tp1, .ref r⟩, ⟨PyData.keyHash w.params (Str.ofString "coeffs"), .str (Str.ofString "coeffs") tp2, .ref c⟩] 2) :: news) → Q (.ref x) { s with heap := h', toks := tk' }) :
    wpAny (model PySem.Challenge.pw_yi0004_01 w) (ktrTop dp un gd cn cs L a ccd cl outer) (call (.ref r) [.ref c] [(Str.ofString "is_ntt", .bool true)]) Q E s := by
  have N0 := newsCons N hc (newsCons N hr (newsCons N hdr N))
  clear N hc hr hdr
  refine wpAny_call ?_
  k_dflt (refine' kco_code ?k1 ?k2 ?k3 ?k4 ?k5 ?k6 ?_; (case k1 => k_in); (case k2 => k_inst); (case k3 => rfl); (case k4 => k_is); (case k5 => k_is); (case k6 => k_is))
  k_dflt (refine' code_def ?k1 ?k2 ?k3 ?k4 ?k5 ?kA ?kF ?kK ?k6 ?k7 ?k8 ?k9 ?kB ?_ ?c2 ?c3 ?c4 ?c5; (case kA => exact rfl); (case kF => exact rfl); (case kK => assumption); (case k1 => k_asm); (case k2 => k_asm); (case k3 => k_asm); (case k4 => k_asm); (case k5 => k_asm); (case k6 => k_is); (case k7 => k_is); (case k8 => ktr_room); (case k9 => first | exact BindsTo.of_eq rfl | exact binds_K (by k_in) rfl (by k_is) rfl rfl rfl); (case c5 => decide); (case kB => exact locs rfl); (case c2 => exact rfl); (case c3 => exact rfl); (case c4 => exact rfl); k_whole; intro g' L' h' FG' F' N' B' X' T'; (try dsimp only); (try k_lift B'); (try k_fold))
  k_steps
  (rename Fr h₀ L _ _ => kF); (rename News h₀ L _ _ => kN)
  refine' hret _ _ _ _ _ _ (by assumption) (by assumption) kF (cb_drop kN ?o4)
  case o4 => kcf_all
theorem ringcallF_spec {w : World} {p : Program} {loose : List Str} {mean : ExcName → Option Value} {mg mb : Str → Option Value}
    {dp un : Nat} {gd : Option (List Code)} {cn : Str} {cs : Scope} {a : Addr} {ccd : Value} {cl : List (Str × Addr)} {outer : List Env} {A₀ : Around} {base h₀ : Heap} {L : Addr} {m : Str → Option Value} {news : List (Addr × Obj)} {s : Shared} {Q E : Value → Shared → Prop}
    {c r dr z : Addr} {tq1 tq2 tq3 tq4 tq5 tq6 tq7 : Tok} {vs : List Value} {ns : List Int} {n : Nat}
    (B : Below A₀ base outer h₀) (F : Fr h₀ L s.heap m) (X : (Mine.hd.heap_1 w.params).In h₀) (N : News h₀ L s.heap news) (T : Top p loose mean mg mb h₀) (hk : cs.kind = .function)
    (hs : IntsAre vs ns) (hlen : ns.length = 256) (hc : (c, listOf vs.toArray n) ∈ news) (hr : (r, instObj 282 dr) ∈ news) (hdr : (dr, dictOf [⟨PyData.keyHash w.params (Str.ofString "q"), .str (Str.ofString "q") tq1, .int 3329 tq2⟩, ⟨PyData.keyHash w.params (Str.ofString "n"), .str (Str.ofString "n") tq3, .int 256 tq4⟩, ⟨PyData.keyHash w.params (Str.ofString "ntt_zetas"), .str (Str.ofString "ntt_zetas") tq5, .ref z⟩, ⟨PyData.keyHash w.params (Str.ofString "ntt_f"), .str (Str.ofString "ntt_f") tq6, .int 3303 tq7⟩] 4) ∈ news)
    (hd : dp + 10 < recursionLimit) (hu : un + 80 < cLine)
    (hret : ∀ (x dx : Addr) (tp1 tp2 : Tok) h' tk', AllLt dx news → @LT.lt Nat _ dx x → Fr h₀ L h' m → News h₀ L h' ((x, instObj 350 dx) :: (dx, dictOf [⟨PyData.keyHash w.params (Str.ofString "parent"), .str (Str.ofString "parent") tp1, .ref r⟩, ⟨PyData.keyHash w.params (Str.ofString "coeffs"), .str (Str.ofString "coeffs") tp2, .ref c⟩] 2) :: news) → Q (.ref x) { s with heap := h', toks := tk' }) :
    wpAny (model PySem.Challenge.pw_yi0004_01 w) (ktrTop dp un gd cn cs L a ccd cl outer) (call (.ref r) [.ref c] [(Str.ofString "is_ntt", .bool false)]) Q E s := by
  have N0 := newsCons N hc (newsCons N hr (newsCons N hdr N))
  clear N hc hr hdr
  refine wpAny_call ?_
  k_dflt (refine' kco_code ?k1 ?k2 ?k3 ?k4 ?k5 ?k6 ?_; (case k1 => k_in); (case k2 => k_inst); (case k3 => rfl); (case k4 => k_is); (case k5 => k_is); (case k6 => k_is))
  k_dflt (refine' code_def ?k1 ?k2 ?k3 ?k4 ?k5 ?kA ?kF ?kK ?k6 ?k7 ?k8 ?k9 ?kB ?_ ?c2 ?c3 ?c4 ?c5; (case kA => exact rfl); (case kF => exact rfl); (case kK => assumption); (case k1 => k_asm); (case k2 => k_asm); (case k3 => k_asm); (case k4 => k_asm); (case k5 => k_asm); (case k6 => k_is); (case k7 => k_is); (case k8 => ktr_room); (case k9 => first | exact BindsTo.of_eq rfl | exact binds_K (by k_in) rfl (by k_is) rfl rfl rfl); (case c5 => decide); (case kB => exact locs rfl); (case c2 => exact rfl); (case c3 => exact rfl); (case c4 => exact rfl); k_whole; intro g' L' h' FG' F' N' B' X' T'; (try dsimp only); (try k_lift B'); (try k_fold))
  k_steps
  (rename Fr h₀ L _ _ => kF); (rename News h₀ L _ _ => kN)
  refine' hret _ _ _ _ _ _ (by assumption) (by assumption) kF (cb_drop kN ?o4)
  case o4 => kcf_all
end
section
theorem pad3 : True := by (w_top off); trivial
local macro_rules | `(tactic| walk_at "callWith ref") => `(tactic| (k_here; k_dflt (refine' callWith_objKW (K := Mine.hd.heap_1 _) ?kX ?kI ?kp ?ka ?_; (case kX => k_in); (case kI => k_inst); (case kp | ka => rfl))))
local macro_rules | `(tactic| walk_at "call ref") => `(tactic| (k_here; k_dflt (show wpAny _ _ (call (Value.ref _) [Value.ref _] [(PySem.Str.ofString "is_ntt", Value.bool true)]) _ _ _); k_dflt (refine' ringcallT_spec ?k1 ?k2 ?k3 ?k4 ?k5 ?kK ?ka ?kb ?kc ?kr ?kdr ?kf ?kg ?_; (case k1 | k2 | k3 | k4 | k5 => k_asm); (case kK => first | exact rfl | assumption); (case kr | kdr | kc => k_mem); (case ka | kb => assumption); (case kf => ktr_room); (case kg => ktr_units)); intro x9 dx9 t1 t2 h9 tk9 l1 l2 F9 N9; (try k_lt l1); (try dsimp only [PySem.W.CmpBack]); (try dsimp only); (try k_fold); (try k_sweep)))
theorem rangeSize_is {a b : Int} {n : Nat} (h : b = a + (n : Int)) : Builtin.Range.rangeSize a b 1 = (n : Int) := by
  rw [rangeSize_nat]; omega
/-- what is known of a layer's size and its blocks' number -/
structure Lay (l nb : Nat) : Prop where
  prod : l * nb = 128
theorem Lay.of (i : Nat) (h : i ≤ 7) : Lay (2 ^ (7 - i)) (2 ^ i) := ⟨by
  rw [← Nat.pow_add]; have : 7 - i + i = 7 := by omega
  rw [this]⟩
theorem Lay.lt {l nb b : Nat} (h : Lay l nb) (hb : b < nb) : 2 * l * b + 2 * l ≤ 256 := by
  have h1 := h.prod
  have h2 : l * (b + 1) ≤ l * nb := Nat.mul_le_mul_left l hb
  rw [Nat.mul_add, h1] at h2
  rw [Nat.mul_assoc]; omega
theorem Lay.eq {l nb : Nat} (h : Lay l nb) : 2 * l * nb = 256 := by
  rw [Nat.mul_assoc, h.prod]
theorem Lay.pos {l nb : Nat} (h : Lay l nb) : 0 < l ∧ 0 < nb := by
  have h1 := h.prod
  constructor
  · rcases Nat.eq_zero_or_pos l with e | e
    · subst e; omega
    · exact e
  · rcases Nat.eq_zero_or_pos nb with e | e
    · subst e; omega
    · exact e
theorem Lay.le {l nb : Nat} (h : Lay l nb) : l ≤ 128 ∧ nb ≤ 128 := by
  have h1 := h.prod
  have h2 := h.pos
  constructor
  · exact h1 ▸ Nat.le_mul_of_pos_right l h2.2
  · exact h1 ▸ Nat.le_mul_of_pos_left nb h2.1
theorem Lay.two {l nb : Nat} (h : Lay l nb) (h2 : 2 ≤ l) : nb + nb ≤ 128 := by
  have h1 := h.prod
  have h3 : 2 * nb ≤ l * nb := Nat.mul_le_mul_right nb h2
  omega
theorem Lay.div {l nb : Nat} (h : Lay l nb) : 128 / l = nb := by
  rw [← h.prod]; exact Nat.mul_div_cancel_left nb h.pos.1

theorem half {l : Int} {l1 q : Nat} (hl : l = (l1 : Int)) (h : l1 = 2 * q) : l.fdiv (2 ^ Int.toNat 1) = (q : Int) := by
  have e : (2 : Int) ^ Int.toNat 1 = 2 := by decide
  rw [e, Int.fdiv_eq_ediv_of_nonneg _ (by decide)]; omega
def md : Nat → List Int → List Int
  | 0, c => c
  | i + 1, c => (md i c).set i (((md i c).getD i 0).fmod 3329)
theorem md_len (c : List Int) : ∀ i, (md i c).length = c.length
  | 0 => rfl
  | i + 1 => by rw [md, List.length_set, md_len]
theorem md_eq (ii : Nat) (c : List Int) : c.set (0 + (ii : Int)).toNat ((c.getD (0 + (ii : Int)).toNat 0).fmod 3329) = c.set ii ((c.getD ii 0).fmod 3329) := by
  have e : (0 + (ii : Int)).toNat = ii := by omega
  rw [e]
theorem getD_of {P : Int → Prop} {l : List Int} (h : ∀ x ∈ l, P x) (h0 : P 0) (j : Nat) : P (l.getD j 0) := by
  rw [List.getD_eq_getElem?_getD]
  cases e : l[j]? with
  | none => exact h0
  | some v => exact h v (List.mem_of_getElem? e)
theorem zetas_all : ∀ x ∈ zetas, (0 ≤ x ∧ x < 3329) := by decide +kernel
theorem zetas_bd (j : Nat) : 0 ≤ zetas.getD j 0 ∧ zetas.getD j 0 < 3329 := getD_of (P := fun x => 0 ≤ x ∧ x < 3329) zetas_all (by decide) j
theorem bfly_eq {st l : Int} {s1 l1 ii : Nat} (hs : st = (s1 : Int)) (hl : l = (l1 : Int)) (zz : Int) (c : List Int) :
    (c.set (st + (ii : Int) + l).toNat (c.getD (st + (ii : Int)).toNat 0 - zz * c.getD (st + (ii : Int) + l).toNat 0)).set (st + (ii : Int)).toNat
      ((c.set (st + (ii : Int) + l).toNat (c.getD (st + (ii : Int)).toNat 0 - zz * c.getD (st + (ii : Int) + l).toNat 0)).getD (st + (ii : Int)).toNat 0 + zz * c.getD (st + (ii : Int) + l).toNat 0) = bfly zz l1 (s1 + ii) c := by
  have e1 : (st + (ii : Int) + l).toNat = s1 + ii + l1 := by omega
  have e2 : (st + (ii : Int)).toNat = s1 + ii := by omega
  rw [e1, e2]; rfl
local macro_rules | `(tactic| walk_at "pyIter ref") => `(tactic| refine stop ?_)
local macro_rules | `(tactic| walk_at "exec While Compare cons nil") => `(tactic| refine stop ?_)
theorem tontt_core {w : World} {p : Program} {loose : List Str} {mean : ExcName → Option Value} {mg mb : Str → Option Value}
    {dp un : Nat} {gd : Option (List Code)} {cn : Str} {cs : Scope} {a : Addr} {ccd : Value} {cl : List (Str × Addr)} {outer : List Env} {A₀ : Around} {base h₀ : Heap} {L : Addr} {m : Str → Option Value} {news : List (Addr × Obj)} {s : Shared} {Q E : Value → Shared → Prop}
    (x dx c r dr z : Addr) (tp1 tp2 tq1 tq2 tq3 tq4 tq5 tq6 tq7 : Tok) (vs zs : List Value) (ns : List Int) (n : Nat)
    (B : Below A₀ base outer h₀) (F : Fr h₀ L s.heap m) (X : (Mine.hd.heap_1 w.params).In h₀) (T : Top p loose mean mg mb h₀) (hk : cs.kind = .function)
    (hs : IntsAre vs ns) (hz : IntsAre zs zetas) (hlen : ns.length = 256)
    (hne : @Ne Nat c x ∧ @Ne Nat c dx ∧ @Ne Nat c r ∧ @Ne Nat c dr ∧ @Ne Nat c z) (hnw : ∀ p ∈ news, p.1 ≠ c)
    (N : News h₀ L s.heap ((c, listOf vs.toArray n) :: (x, instObj 350 dx) :: (dx, dictOf [⟨PyData.keyHash w.params (Str.ofString "parent"), .str (Str.ofString "parent") tp1, .ref r⟩, ⟨PyData.keyHash w.params (Str.ofString "coeffs"), .str (Str.ofString "coeffs") tp2, .ref c⟩] 2) :: (r, instObj 282 dr) :: (dr, dictOf [⟨PyData.keyHash w.params (Str.ofString "q"), .str (Str.ofString "q") tq1, .int 3329 tq2⟩, ⟨PyData.keyHash w.params (Str.ofString "n"), .str (Str.ofString "n") tq3, .int 256 tq4⟩, ⟨PyData.keyHash w.params (Str.ofString "ntt_zetas"), .str (Str.ofString "ntt_zetas") tq5, .ref z⟩, ⟨PyData.keyHash w.params (Str.ofString "ntt_f"), .str (Str.ofString "ntt_f") tq6, .int 3303 tq7⟩] 4) :: (z, LCg.lst zs) :: news))
    (hd : dp + 20 < recursionLimit) (hu : un + 160 < cLine)
    (hret : ∀ (x' dx' : Addr) (ta tb : Tok) (vs' : List Value) h' tk', IntsAre vs' (md 256 (tr zetas 7 ns)) → AllLt dx' news → @LT.lt Nat _ c dx' → @LT.lt Nat _ dx' x' → Fr h₀ L h' m →
      News h₀ L h' ((x', instObj 426 dx') :: (dx', dictOf [⟨PyData.keyHash w.params (Str.ofString "parent"), .str (Str.ofString "parent") ta, .ref r⟩, ⟨PyData.keyHash w.params (Str.ofString "coeffs"), .str (Str.ofString "coeffs") tb, .ref c⟩] 2) :: (c, listOf vs'.toArray n) :: news) →
      Q (.ref x') { s with heap := h', toks := tk' }) :
    wpAny (model PySem.Challenge.pw_yi0004_01 w) (ktrTop dp un gd cn cs L a ccd cl outer) (call (.ref 340) [.ref x]) Q E s := by
  obtain ⟨hn1, hn2, hn3, hn4, hn5⟩ := hne
  refine wpAny_call ?_
  k_dflt cell_enter
  k_steps
  unfold Stop
  (rename Fr _ _ _ _ => F1); (rename News _ _ _ _ => N1)
  refine' whl (σ := Nat × Int × Int × Tok × Tok × List Value × List Int)
    (fun c' => (c, listOf c'.2.2.2.2.2.1.toArray n) :: (x, instObj 350 dx) :: (dx, dictOf [⟨PyData.keyHash w.params (Str.ofString "parent"), .str (Str.ofString "parent") tp1, .ref r⟩, ⟨PyData.keyHash w.params (Str.ofString "coeffs"), .str (Str.ofString "coeffs") tp2, .ref c⟩] 2) :: (r, instObj 282 dr) :: (dr, dictOf [⟨PyData.keyHash w.params (Str.ofString "q"), .str (Str.ofString "q") tq1, .int 3329 tq2⟩, ⟨PyData.keyHash w.params (Str.ofString "n"), .str (Str.ofString "n") tq3, .int 256 tq4⟩, ⟨PyData.keyHash w.params (Str.ofString "ntt_zetas"), .str (Str.ofString "ntt_zetas") tq5, .ref z⟩, ⟨PyData.keyHash w.params (Str.ofString "ntt_f"), .str (Str.ofString "ntt_f") tq6, .int 3303 tq7⟩] 4) :: (z, LCg.lst zs) :: news)
    (fun c' => [(Str.ofString "self", .ref x), (Str.ofString "coeffs", .ref c), (Str.ofString "zetas", .ref z), (Str.ofString "k", .int c'.2.1 c'.2.2.2.1), (Str.ofString "l", .int c'.2.2.1 c'.2.2.2.2.1)])
    (fun c' => IntsAre c'.2.2.2.2.2.1 c'.2.2.2.2.2.2 ∧ c'.1 ≤ 7 ∧ c'.2.1 = ((2 ^ c'.1 : Nat) : Int) ∧ c'.2.2.1 = ((2 ^ (7 - c'.1) : Nat) : Int) ∧ c'.2.2.2.2.2.2 = tr zetas c'.1 ns)
    (fun c' => 7 - c'.1)
    (0, 1, 128, _, _, vs, ns) F1 ?whA ?whB ?whC ?whD
  case whB => kst_all
  case whA => exact cb_drop N1 (by kcf_all)
  case whC => exact ⟨hs, by omega, rfl, rfl, rfl⟩
  rintro ⟨i, k, l, tk, tl, vs1, ns1⟩ u1 h1 tk1 hp F2 N2
  dsimp only at hp N2; dsimp only [kstB] at F2
  obtain ⟨hf, hi, hk1, hl1, hc1⟩ := hp
  have hlen1 : ns1.length = 256 := by rw [hc1, tr_len]; exact hlen
  have hzl : zetas.length = 128 := by simp [zetas, rangeKs_length]
  have hy := Lay.of i hi
  clear F1 N1
  try k_fold
  k_steps
  -- the blocks of a layer
  · unfold Stop
    (rename Fr _ _ _ _ => F1); (rename News _ _ _ _ => N1)
    have e1 : 2 ^ (i + 1) = 2 * 2 ^ i := by rw [Nat.pow_succ, Nat.mul_comm]
    have e2 : i < 7 → 2 ^ (7 - i) = 2 * 2 ^ (7 - (i + 1)) := fun h => by
      have : 7 - i = (7 - (i + 1)) + 1 := by omega
      rw [this, Nat.pow_succ, Nat.mul_comm]
    generalize g1 : 2 ^ i = nb at *
    generalize g2 : 2 ^ (7 - i) = l1 at *
    refine' whl (σ := Nat × Int × Int × Tok × Tok × List Value × List Int)
      (fun c' => (c, listOf c'.2.2.2.2.2.1.toArray n) :: (x, instObj 350 dx) :: (dx, dictOf [⟨PyData.keyHash w.params (Str.ofString "parent"), .str (Str.ofString "parent") tp1, .ref r⟩, ⟨PyData.keyHash w.params (Str.ofString "coeffs"), .str (Str.ofString "coeffs") tp2, .ref c⟩] 2) :: (r, instObj 282 dr) :: (dr, dictOf [⟨PyData.keyHash w.params (Str.ofString "q"), .str (Str.ofString "q") tq1, .int 3329 tq2⟩, ⟨PyData.keyHash w.params (Str.ofString "n"), .str (Str.ofString "n") tq3, .int 256 tq4⟩, ⟨PyData.keyHash w.params (Str.ofString "ntt_zetas"), .str (Str.ofString "ntt_zetas") tq5, .ref z⟩, ⟨PyData.keyHash w.params (Str.ofString "ntt_f"), .str (Str.ofString "ntt_f") tq6, .int 3303 tq7⟩] 4) :: (z, LCg.lst zs) :: news)
      (fun c' => [(Str.ofString "self", .ref x), (Str.ofString "coeffs", .ref c), (Str.ofString "zetas", .ref z), (Str.ofString "l", .int l tl), (Str.ofString "k", .int c'.2.1 c'.2.2.2.1), (Str.ofString "start", .int c'.2.2.1 c'.2.2.2.2.1)])
      (fun c' => IntsAre c'.2.2.2.2.2.1 c'.2.2.2.2.2.2 ∧ c'.1 ≤ nb ∧ c'.2.1 = ((nb + c'.1 : Nat) : Int) ∧ c'.2.2.1 = ((2 * l1 * c'.1 : Nat) : Int) ∧ c'.2.2.2.2.2.2 = lay zetas l1 c'.1 ns1)
      (fun c' => nb - c'.1)
      (0, k, 0, _, _, vs1, ns1) F1 ?vhA ?vhB ?vhC ?vhD
    case vhB => kst_all
    case vhA => exact cb_drop N1 (by kcf_all)
    case vhC => exact ⟨hf, by omega, by omega, rfl, rfl⟩
    rintro ⟨b, k2, st, tk2, ts2, vs2, ns2⟩ u2 h2 tk2' hp2 F3 N3
    dsimp only at hp2 N3; dsimp only [kstB] at F3
    obtain ⟨hf2, hb, hk2, hst, hc2⟩ := hp2
    have hlen2 : ns2.length = 256 := by rw [hc2, lay_len]; exact hlen1
    have hy1 := hy.lt (b := b)
    have hy2 := hy.eq
    have hy3 := hy.le
    have hy4 := hy.pos
    have hy5 : nb + nb ≤ 128 := hy.two (by omega)
    generalize e3 : 2 * l1 * b = s1 at *
    clear F1 N1
    try k_fold
    by_cases hb' : b < nb
    · have hy6 := hy1 hb'
      k_steps
      unfold Stop
      (rename Fr _ _ _ _ => F1); (rename News _ _ _ _ => N1); (rename IsRange _ _ _ _ _ _ _ _ => R1)
      refine' for_range (σ := Int × Tok × Tok × Tok × List Value × List Int) (n := l1)
        (fun c' => (c, listOf c'.2.2.2.2.1.toArray n) :: (x, instObj 350 dx) :: (dx, dictOf [⟨PyData.keyHash w.params (Str.ofString "parent"), .str (Str.ofString "parent") tp1, .ref r⟩, ⟨PyData.keyHash w.params (Str.ofString "coeffs"), .str (Str.ofString "coeffs") tp2, .ref c⟩] 2) :: (r, instObj 282 dr) :: (dr, dictOf [⟨PyData.keyHash w.params (Str.ofString "q"), .str (Str.ofString "q") tq1, .int 3329 tq2⟩, ⟨PyData.keyHash w.params (Str.ofString "n"), .str (Str.ofString "n") tq3, .int 256 tq4⟩, ⟨PyData.keyHash w.params (Str.ofString "ntt_zetas"), .str (Str.ofString "ntt_zetas") tq5, .ref z⟩, ⟨PyData.keyHash w.params (Str.ofString "ntt_f"), .str (Str.ofString "ntt_f") tq6, .int 3303 tq7⟩] 4) :: (z, LCg.lst zs) :: news)
        (fun c' => [(Str.ofString "self", .ref x), (Str.ofString "coeffs", .ref c), (Str.ofString "zetas", .ref z), (Str.ofString "l", .int l tl), (Str.ofString "k", .int (k2 + 1) c'.2.2.1), (Str.ofString "start", .int st ts2), (Str.ofString "zeta", .int (zetas.getD k2.toNat 0) c'.2.2.2.1), (Str.ofString "j", .int c'.1 c'.2.1)])
        (fun i' c' => IntsAre c'.2.2.2.2.1 c'.2.2.2.2.2 ∧ (i' = 0 ∨ c'.1 = st + (i' : Int) - 1) ∧ c'.2.2.2.2.2 = blk (zetas.getD k2.toNat 0) l1 s1 i' ns2)
        (st, _, _, _, vs2, ns2) rfl R1 ?fhA ?fhB F1 ?fhC ?fhD ?fhE ?fhF ?fhG
      case fhD => kst_all
      case fhA => exact small_one (by omega) (by omega) (by omega) (by omega)
      case fhB => exact rangeSize_is (by omega)
      case fhC => exact cb_drop N1 (by kcf_all)
      case fhE => exact ⟨hf2, .inl rfl, rfl⟩
      · rintro ⟨jj, tj, tk3, tz3, vs3, ns3⟩ ii tii u3 h3 tk3' own hii hown hp3 F4 N4
        dsimp only at hp3 N4; dsimp only [kstB] at F4; simp only [List.cons_append] at N4
        have hall : ∀ p ∈ news ++ own, p.1 ≠ c := fun p hp => (List.mem_append.mp hp).elim (hnw p) (OwnOff.ne hown (List.mem_cons_self) p)
        obtain ⟨hf3, hjj, hc3⟩ := hp3
        have hlen3 : ns3.length = 256 := by rw [hc3, blk_len]; exact hlen2
        clear F1 N1
        have hzb := zetas_bd k2.toNat
        try k_fold
        k_steps
        (rename Fr _ _ _ _ => F1); (rename News _ _ _ _ => N1)
        refine' for_end (st + (ii : Int), _, _, _, _, _) F1 N1 ?feA ?feB ?feC ?feD ?feE
        case feD => kst_all
        case feA => kcf_all
        case feB => kcf_all
        case feC => rfl
        case feE => exact ⟨by l_ints, .inr (by omega), by rw [bfly_eq hst hl1, hc3]; rfl⟩
      · rintro ⟨jj, tj, tk3, tz3, vs3, ns3⟩ u3 h3 tk3' hp3 F4 N4
        dsimp only at hp3 N4; dsimp only [kstB] at F4
        obtain ⟨hf3, hjj, hc3⟩ := hp3
        clear F1 N1
        try k_fold
        k_steps
        (rename Fr _ _ _ _ => F1); (rename News _ _ _ _ => N1)
        refine' whl_end (b + 1, k2 + 1, l + (jj + 1), _, _, vs3, ns3) F1 N1 ?feA ?feD ?feE ?feF
        case feD => kst_all
        case feA => kcf_all
        case feE =>
          refine ⟨hf3, ?_, ?_, ?_, ?_⟩
          · show b + 1 ≤ nb; omega
          · show k2 + 1 = ((nb + (b + 1) : Nat) : Int); omega
          · have : 2 * l1 * (b + 1) = s1 + 2 * l1 := by rw [Nat.mul_add, e3, Nat.mul_one]
            show l + (jj + 1) = ((2 * l1 * (b + 1) : Nat) : Int)
            rw [this]; omega
          · show ns3 = lay zetas l1 (b + 1) ns1
            have hk3 : k2.toNat = nb + b := by omega
            rw [lay, hy.div, e3, ← hc2, hc3, hk3]
        case feF => show nb - (b + 1) < nb - b; omega
    · have hb2 : b = nb := by omega
      subst hb2
      have hs1 : s1 = 256 := by rw [← e3]; exact hy2
      k_steps
      (rename Fr _ _ _ _ => F1); (rename News _ _ _ _ => N1)
      have hi7 : i < 7 := by
        rcases Nat.lt_or_ge i 7 with h | h
        · exact h
        · have h7 : i = 7 := by omega
          rw [h7] at g2
          have : l1 = 1 := g2.symm
          omega
      refine' whl_end (i + 1, k2, l.fdiv (2 ^ Int.toNat 1), _, _, vs2, ns2) F1 N1 ?feA ?feD ?feE ?feF
      case feD => kst_all
      case feA => kcf_all
      case feE =>
        refine ⟨hf2, by omega, ?_, half hl1 (e2 hi7), ?_⟩
        · show k2 = ((2 ^ (i + 1) : Nat) : Int)
          rw [e1]; omega
        · show ns2 = tr zetas (i + 1) ns
          rw [tr, g1, g2, ← hc1]; exact hc2
      case feF => show 7 - (i + 1) < 7 - i; omega
  -- the rests at the end
  · unfold Stop
    (rename Fr _ _ _ _ => F1); (rename News _ _ _ _ => N1); (rename IsRange _ _ _ _ _ _ _ _ => R1)
    have hi7 : i = 7 := by
      rcases Nat.lt_or_ge i 7 with h | h
      · exfalso
        have : 7 - i = (7 - (i + 1)) + 1 := by omega
        have e2 : 2 ^ (7 - i) = 2 * 2 ^ (7 - (i + 1)) := by rw [this, Nat.pow_succ, Nat.mul_comm]
        have e3 : 0 < 2 ^ (7 - (i + 1)) := Nat.two_pow_pos _
        omega
      · omega
    refine' for_range (σ := List Value × List Int) (n := 256)
      (fun c' => (c, listOf c'.1.toArray n) :: (x, instObj 350 dx) :: (dx, dictOf [⟨PyData.keyHash w.params (Str.ofString "parent"), .str (Str.ofString "parent") tp1, .ref r⟩, ⟨PyData.keyHash w.params (Str.ofString "coeffs"), .str (Str.ofString "coeffs") tp2, .ref c⟩] 2) :: (r, instObj 282 dr) :: (dr, dictOf [⟨PyData.keyHash w.params (Str.ofString "q"), .str (Str.ofString "q") tq1, .int 3329 tq2⟩, ⟨PyData.keyHash w.params (Str.ofString "n"), .str (Str.ofString "n") tq3, .int 256 tq4⟩, ⟨PyData.keyHash w.params (Str.ofString "ntt_zetas"), .str (Str.ofString "ntt_zetas") tq5, .ref z⟩, ⟨PyData.keyHash w.params (Str.ofString "ntt_f"), .str (Str.ofString "ntt_f") tq6, .int 3303 tq7⟩] 4) :: (z, LCg.lst zs) :: news)
      (fun c' => [(Str.ofString "self", .ref x), (Str.ofString "coeffs", .ref c)])
      (fun i' c' => IntsAre c'.1 c'.2 ∧ c'.2 = md i' ns1)
      (vs1, ns1) rfl R1 ?mhA ?mhB F1 ?mhC ?mhD ?mhE ?mhF ?mhG
    case mhD => kst_all
    case mhA => decide
    case mhB => rfl
    case mhC => exact cb_drop N1 (by kcf_all)
    case mhE => exact ⟨hf, rfl⟩
    · rintro ⟨vs3, ns3⟩ ii tii u3 h3 tk3' own hii hown hp3 F4 N4
      dsimp only at hp3 N4; dsimp only [kstB] at F4; simp only [List.cons_append] at N4
      have hall : ∀ p ∈ news ++ own, p.1 ≠ c := fun p hp => (List.mem_append.mp hp).elim (hnw p) (OwnOff.ne hown (List.mem_cons_self) p)
      obtain ⟨hf3, hc3⟩ := hp3
      have hlen3 : ns3.length = 256 := by rw [hc3, md_len]; exact hlen1
      clear F1 N1
      try k_fold
      k_steps
      (rename Fr _ _ _ _ => F1); (rename News _ _ _ _ => N1)
      refine' for_end (_, _) F1 N1 ?feA ?feB ?feC ?feD ?feE
      case feD => kst_all
      case feA => kcf_all
      case feB => kcf_all
      case feC => rfl
      case feE => exact ⟨by l_ints, by rw [md_eq, hc3]; rfl⟩
    · rintro ⟨vs3, ns3⟩ u3 h3 tk3' hp3 F4 N4
      dsimp only at hp3 N4; dsimp only [kstB] at F4
      obtain ⟨hf3, hc3⟩ := hp3
      clear F1 N1
      try k_fold
      have hlen3 : ns3.length = 256 := by rw [hc3, md_len]; exact hlen1
      k_steps
      (rename Fr h₀ L _ _ => kF); (rename News h₀ L _ _ => kN)
      have hv : IntsAre vs3 (md 256 (tr zetas 7 ns)) := by rw [← hi7, ← hc1, ← hc3]; exact hf3
      refine' hret _ _ _ _ vs3 _ _ hv (by assumption) (by assumption) (by assumption) kF (cb_drop kN ?o4)
      case o4 => kcf_all
/-- an object of another kind lies elsewhere -/
theorem updF_ne {c x : Addr} {o ox : Obj} {news : List (Addr × Obj)} {g : Obj → List (Addr × Obj)} (U : UpdF c o news g) (h : (x, ox) ∈ news) (hne : ox.cls ≠ o.cls) : @Ne Nat c x := by
  obtain ⟨pre, post, rfl, hg, h1, h2⟩ := U.split
  intro e
  rcases List.mem_append.mp h with q | q
  · exact h1 _ q e.symm
  · rcases List.mem_cons.mp q with q | q
    · exact hne (by rw [(Prod.mk.inj q).2])
    · exact h2 _ q e.symm
theorem dict_list : (Value.type "dict") ≠ Value.type "list" := fun e => absurd (Value.type.inj e) (by decide)
theorem tontt_spec {w : World} {p : Program} {loose : List Str} {mean : ExcName → Option Value} {mg mb : Str → Option Value}
    {dp un : Nat} {gd : Option (List Code)} {cn : Str} {cs : Scope} {a : Addr} {ccd : Value} {cl : List (Str × Addr)} {outer : List Env} {A₀ : Around} {base h₀ : Heap} {L : Addr} {m : Str → Option Value} {news : List (Addr × Obj)} {s : Shared} {Q E : Value → Shared → Prop}
    {x dx c r dr z : Addr} {tp1 tp2 tq1 tq2 tq3 tq4 tq5 tq6 tq7 : Tok} {vs zs : List Value} {ns : List Int} {n : Nat} {g : Obj → List (Addr × Obj)}
    (B : Below A₀ base outer h₀) (F : Fr h₀ L s.heap m) (X : (Mine.hd.heap_1 w.params).In h₀) (N : News h₀ L s.heap news) (T : Top p loose mean mg mb h₀) (hk : cs.kind = .function)
    (hs : IntsAre vs ns) (hz : IntsAre zs zetas) (hlen : ns.length = 256) (hzc : @Ne Nat c z)
    (U : UpdF c (listOf vs.toArray n) news g) (hx : (x, instObj 350 dx) ∈ news) (hdx : (dx, dictOf [⟨PyData.keyHash w.params (Str.ofString "parent"), .str (Str.ofString "parent") tp1, .ref r⟩, ⟨PyData.keyHash w.params (Str.ofString "coeffs"), .str (Str.ofString "coeffs") tp2, .ref c⟩] 2) ∈ news) (hr : (r, instObj 282 dr) ∈ news) (hdr : (dr, dictOf [⟨PyData.keyHash w.params (Str.ofString "q"), .str (Str.ofString "q") tq1, .int 3329 tq2⟩, ⟨PyData.keyHash w.params (Str.ofString "n"), .str (Str.ofString "n") tq3, .int 256 tq4⟩, ⟨PyData.keyHash w.params (Str.ofString "ntt_zetas"), .str (Str.ofString "ntt_zetas") tq5, .ref z⟩, ⟨PyData.keyHash w.params (Str.ofString "ntt_f"), .str (Str.ofString "ntt_f") tq6, .int 3303 tq7⟩] 4) ∈ news) (hzz : (z, LCg.lst zs) ∈ news)
    (hd : dp + 20 < recursionLimit) (hu : un + 160 < cLine)
    (hret : ∀ (x' dx' : Addr) (ta tb : Tok) (vs' : List Value) h' tk', IntsAre vs' (md 256 (tr zetas 7 ns)) → AllLt dx' (g (listOf vs'.toArray n)) → @LT.lt Nat _ dx' x' → Fr h₀ L h' m →
      News h₀ L h' ((x', instObj 426 dx') :: (dx', dictOf [⟨PyData.keyHash w.params (Str.ofString "parent"), .str (Str.ofString "parent") ta, .ref r⟩, ⟨PyData.keyHash w.params (Str.ofString "coeffs"), .str (Str.ofString "coeffs") tb, .ref c⟩] 2) :: g (listOf vs'.toArray n)) →
      Q (.ref x') { s with heap := h', toks := tk' }) :
    wpAny (model PySem.Challenge.pw_yi0004_01 w) (ktrTop dp un gd cn cs L a ccd cl outer) (call (.ref 340) [.ref x]) Q E s := by
  have n1 := updF_ne U hx (by intro e; cases e)
  have n2 := updF_ne U hdx dict_list
  have n3 := updF_ne U hr (by intro e; cases e)
  have n4 := updF_ne U hdr dict_list
  obtain ⟨pre, post, rfl, hg, h1, h2⟩ := U.split
  have hall : ∀ p ∈ pre ++ post, p.1 ≠ c := fun p hp => (List.mem_append.mp hp).elim (h1 p) (h2 p)
  have hb : News h₀ L s.heap (pre ++ post) := fun p hp => N p (List.mem_append.mpr ((List.mem_append.mp hp).imp id (.tail _)))
  have N0 := newsCons N (List.mem_append.mpr (.inr (.head _))) (newsCons N hx (newsCons N hdx (newsCons N hr (newsCons N hdr (newsCons N hzz hb)))))
  refine tontt_core x dx c r dr z _ _ _ _ _ _ _ _ _ vs zs ns n B F X T hk hs hz hlen ⟨n1, n2, n3, n4, hzc⟩ hall N0 hd hu fun x' dx' ta tb vs' h' tk' q1 q2 q3 q4 F' N' => ?_
  refine hret x' dx' ta tb vs' h' tk' q1 ?_ q4 F' ?_
  · rw [hg]
    refine allLt_of fun p hp => ?_
    rcases List.mem_append.mp hp with q | q
    · exact ktn_ltOf q2 p (List.mem_append.mpr (.inl q))
    · rcases List.mem_cons.mp q with q | q
      · rw [q]; exact q3
      · exact ktn_ltOf q2 p (List.mem_append.mpr (.inr q))
  · rw [hg]
    refine cb_drop N' fun p hp => ?_
    rcases List.mem_cons.mp hp with q | q
    · rw [q]; exact .head _
    · rcases List.mem_cons.mp q with q | q
      · rw [q]; exact .tail _ (.head _)
      · refine .tail _ (.tail _ ?_)
        rcases List.mem_append.mp q with q | q
        · exact .tail _ (List.mem_append.mpr (.inl q))
        · rcases List.mem_cons.mp q with q | q
          · rw [q]; exact .head _
          · exact .tail _ (List.mem_append.mpr (.inr q))
end
section
theorem pad4 : True := by (w_top off); trivial
local macro_rules | `(tactic| walk_at "pad 0") => `(tactic| skip)
local macro_rules | `(tactic| walk_at "pad 1") => `(tactic| skip)
local macro_rules | `(tactic| walk_at "pad 2") => `(tactic| skip)
local macro_rules | `(tactic| walk_at "pad 3") => `(tactic| skip)
local macro_rules | `(tactic| walk_at "pad 4") => `(tactic| skip)
local macro_rules | `(tactic| walk_at "callWith ref") => `(tactic| (k_here; k_dflt (refine' callWith_objKW (K := Mine.hd.heap_1 _) ?kX ?kI ?kp ?ka ?_; (case kX => k_in); (case kI => k_inst); (case kp | ka => rfl))))
local macro_rules | `(tactic| walk_at "call ref") => `(tactic| (k_here; k_dflt (show wpAny _ _ (call (Value.ref _) [Value.ref _] [(PySem.Str.ofString "is_ntt", Value.bool false)]) _ _ _); k_dflt (refine' ringcallF_spec ?k1 ?k2 ?k3 ?k4 ?k5 ?kK ?ka ?kb ?kc ?kr ?kdr ?kf ?kg ?_; (case k1 | k2 | k3 | k4 | k5 => k_asm); (case kK => first | exact rfl | assumption); (case kr | kdr | kc => k_mem); (case ka | kb => assumption); (case kf => ktr_room); (case kg => ktr_units)); intro x9 dx9 t1 t2 h9 tk9 l1 l2 F9 N9; (try k_lt l1); (try dsimp only [PySem.W.CmpBack]); (try dsimp only); (try k_fold); (try k_sweep)))
/-! what from_ntt reckons -/
def ibfly (z : Int) (l j : Nat) (c : List Int) : List Int :=
  let t := c.getD j 0
  let c1 := c.set j (t + c.getD (j + l) 0)
  let c2 := c1.set (j + l) (c1.getD (j + l) 0 - t)
  c2.set (j + l) (z * c2.getD (j + l) 0)
def iblk (z : Int) (l st : Nat) : Nat → List Int → List Int
  | 0, c => c
  | n + 1, c => ibfly z l (st + n) (iblk z l st n c)
def ilay (zs : List Int) (l nb : Nat) : Nat → List Int → List Int
  | 0, c => c
  | b + 1, c => iblk (zs.getD (2 * nb - 1 - b) 0) l (2 * l * b) l (ilay zs l nb b c)
def itr (zs : List Int) : Nat → List Int → List Int
  | 0, c => c
  | i + 1, c => ilay zs (2 ^ (i + 1)) (2 ^ (6 - i)) (2 ^ (6 - i)) (itr zs i c)
theorem ibfly_len (z : Int) (l j : Nat) (c : List Int) : (ibfly z l j c).length = c.length := by simp [ibfly]
theorem iblk_len (z : Int) (l st : Nat) (c : List Int) : ∀ n, (iblk z l st n c).length = c.length
  | 0 => rfl
  | n + 1 => by rw [iblk, ibfly_len, iblk_len]
theorem ilay_len (zs : List Int) (l nb : Nat) (c : List Int) : ∀ b, (ilay zs l nb b c).length = c.length
  | 0 => rfl
  | b + 1 => by rw [ilay, iblk_len, ilay_len]
theorem itr_len (zs : List Int) (c : List Int) : ∀ i, (itr zs i c).length = c.length
  | 0 => rfl
  | i + 1 => by rw [itr, ilay_len, itr_len]
def mf : Nat → List Int → List Int
  | 0, c => c
  | i + 1, c => (mf i c).set i (((mf i c).getD i 0 * 3303).fmod 3329)
theorem mf_len (c : List Int) : ∀ i, (mf i c).length = c.length
  | 0 => rfl
  | i + 1 => by rw [mf, List.length_set, mf_len]
theorem mf_eq (ii : Nat) (c : List Int) : c.set (0 + (ii : Int)).toNat ((c.getD (0 + (ii : Int)).toNat 0 * 3303).fmod 3329) = c.set ii ((c.getD ii 0 * 3303).fmod 3329) := by
  have e : (0 + (ii : Int)).toNat = ii := by omega
  rw [e]
theorem Lay.ofI (i : Nat) (h : i ≤ 6) : Lay (2 ^ (i + 1)) (2 ^ (6 - i)) := ⟨by
  rw [← Nat.pow_add]; have : i + 1 + (6 - i) = 7 := by omega
  rw [this]⟩
theorem ibfly_eq {st l : Int} {s1 l1 ii : Nat} (hs : st = (s1 : Int)) (hl : l = (l1 : Int)) (zz : Int) (c : List Int) :
    (((c.set (st + (ii : Int)).toNat (c.getD (st + (ii : Int)).toNat 0 + c.getD (st + (ii : Int) + l).toNat 0)).set (st + (ii : Int) + l).toNat
      ((c.set (st + (ii : Int)).toNat (c.getD (st + (ii : Int)).toNat 0 + c.getD (st + (ii : Int) + l).toNat 0)).getD (st + (ii : Int) + l).toNat 0 - c.getD (st + (ii : Int)).toNat 0)).set (st + (ii : Int) + l).toNat
      (zz * ((c.set (st + (ii : Int)).toNat (c.getD (st + (ii : Int)).toNat 0 + c.getD (st + (ii : Int) + l).toNat 0)).set (st + (ii : Int) + l).toNat
      ((c.set (st + (ii : Int)).toNat (c.getD (st + (ii : Int)).toNat 0 + c.getD (st + (ii : Int) + l).toNat 0)).getD (st + (ii : Int) + l).toNat 0 - c.getD (st + (ii : Int)).toNat 0)).getD (st + (ii : Int) + l).toNat 0)) = ibfly zz l1 (s1 + ii) c := by
  have e1 : (st + (ii : Int) + l).toNat = s1 + ii + l1 := by omega
  have e2 : (st + (ii : Int)).toNat = s1 + ii := by omega
  rw [e1, e2]; rfl
local macro_rules | `(tactic| walk_at "pyIter ref") => `(tactic| refine stop ?_)
local macro_rules | `(tactic| walk_at "exec While Compare cons nil") => `(tactic| refine stop ?_)
theorem fromntt_core {w : World} {p : Program} {loose : List Str} {mean : ExcName → Option Value} {mg mb : Str → Option Value}
    {dp un : Nat} {gd : Option (List Code)} {cn : Str} {cs : Scope} {a : Addr} {ccd : Value} {cl : List (Str × Addr)} {outer : List Env} {A₀ : Around} {base h₀ : Heap} {L : Addr} {m : Str → Option Value} {news : List (Addr × Obj)} {s : Shared} {Q E : Value → Shared → Prop}
    (x dx c r dr z : Addr) (tp1 tp2 tq1 tq2 tq3 tq4 tq5 tq6 tq7 : Tok) (vs zs : List Value) (ns : List Int) (n : Nat)
    (B : Below A₀ base outer h₀) (F : Fr h₀ L s.heap m) (X : (Mine.hd.heap_1 w.params).In h₀) (T : Top p loose mean mg mb h₀) (hk : cs.kind = .function)
    (hs : IntsAre vs ns) (hz : IntsAre zs zetas) (hlen : ns.length = 256)
    (hne : @Ne Nat c x ∧ @Ne Nat c dx ∧ @Ne Nat c r ∧ @Ne Nat c dr ∧ @Ne Nat c z) (hnw : ∀ p ∈ news, p.1 ≠ c)
    (N : News h₀ L s.heap ((c, listOf vs.toArray n) :: (x, instObj 426 dx) :: (dx, dictOf [⟨PyData.keyHash w.params (Str.ofString "parent"), .str (Str.ofString "parent") tp1, .ref r⟩, ⟨PyData.keyHash w.params (Str.ofString "coeffs"), .str (Str.ofString "coeffs") tp2, .ref c⟩] 2) :: (r, instObj 282 dr) :: (dr, dictOf [⟨PyData.keyHash w.params (Str.ofString "q"), .str (Str.ofString "q") tq1, .int 3329 tq2⟩, ⟨PyData.keyHash w.params (Str.ofString "n"), .str (Str.ofString "n") tq3, .int 256 tq4⟩, ⟨PyData.keyHash w.params (Str.ofString "ntt_zetas"), .str (Str.ofString "ntt_zetas") tq5, .ref z⟩, ⟨PyData.keyHash w.params (Str.ofString "ntt_f"), .str (Str.ofString "ntt_f") tq6, .int 3303 tq7⟩] 4) :: (z, LCg.lst zs) :: news))
    (hd : dp + 20 < recursionLimit) (hu : un + 160 < cLine)
    (hret : ∀ (x' dx' : Addr) (ta tb : Tok) (vs' : List Value) h' tk', IntsAre vs' (mf 256 (itr zetas 7 ns)) → AllLt dx' news → @LT.lt Nat _ c dx' → @LT.lt Nat _ dx' x' → Fr h₀ L h' m →
      News h₀ L h' ((x', instObj 350 dx') :: (dx', dictOf [⟨PyData.keyHash w.params (Str.ofString "parent"), .str (Str.ofString "parent") ta, .ref r⟩, ⟨PyData.keyHash w.params (Str.ofString "coeffs"), .str (Str.ofString "coeffs") tb, .ref c⟩] 2) :: (c, listOf vs'.toArray n) :: news) →
      Q (.ref x') { s with heap := h', toks := tk' }) :
    wpAny (model PySem.Challenge.pw_yi0004_01 w) (ktrTop dp un gd cn cs L a ccd cl outer) (call (.ref 380) [.ref x]) Q E s := by
  obtain ⟨hn1, hn2, hn3, hn4, hn5⟩ := hne
  refine wpAny_call ?_
  k_dflt cell_enter
  k_steps
  unfold Stop
  (rename Fr _ _ _ _ => F1); (rename News _ _ _ _ => N1)
  refine' whl (σ := Nat × Int × Int × Tok × Tok × List Value × List Int)
    (fun c' => (c, listOf c'.2.2.2.2.2.1.toArray n) :: (x, instObj 426 dx) :: (dx, dictOf [⟨PyData.keyHash w.params (Str.ofString "parent"), .str (Str.ofString "parent") tp1, .ref r⟩, ⟨PyData.keyHash w.params (Str.ofString "coeffs"), .str (Str.ofString "coeffs") tp2, .ref c⟩] 2) :: (r, instObj 282 dr) :: (dr, dictOf [⟨PyData.keyHash w.params (Str.ofString "q"), .str (Str.ofString "q") tq1, .int 3329 tq2⟩, ⟨PyData.keyHash w.params (Str.ofString "n"), .str (Str.ofString "n") tq3, .int 256 tq4⟩, ⟨PyData.keyHash w.params (Str.ofString "ntt_zetas"), .str (Str.ofString "ntt_zetas") tq5, .ref z⟩, ⟨PyData.keyHash w.params (Str.ofString "ntt_f"), .str (Str.ofString "ntt_f") tq6, .int 3303 tq7⟩] 4) :: (z, LCg.lst zs) :: news)
    (fun c' => [(Str.ofString "self", .ref x), (Str.ofString "coeffs", .ref c), (Str.ofString "zetas", .ref z), (Str.ofString "k", .int c'.2.1 c'.2.2.2.1), (Str.ofString "l", .int c'.2.2.1 c'.2.2.2.2.1)])
    (fun c' => IntsAre c'.2.2.2.2.2.1 c'.2.2.2.2.2.2 ∧ c'.1 ≤ 7 ∧ c'.2.1 = ((2 ^ (7 - c'.1) : Nat) : Int) - 1 ∧ c'.2.2.1 = ((2 ^ (c'.1 + 1) : Nat) : Int) ∧ c'.2.2.2.2.2.2 = itr zetas c'.1 ns)
    (fun c' => 7 - c'.1)
    (0, 127, 2, _, _, vs, ns) F1 ?whA ?whB ?whC ?whD
  case whB => kst_all
  case whA => exact cb_drop N1 (by kcf_all)
  case whC => exact ⟨hs, by omega, rfl, rfl, rfl⟩
  rintro ⟨i, k, l, tk, tl, vs1, ns1⟩ u1 h1 tk1 hp F2 N2
  dsimp only at hp N2; dsimp only [kstB] at F2
  obtain ⟨hf, hi, hk1, hl1, hc1⟩ := hp
  have hlen1 : ns1.length = 256 := by rw [hc1, itr_len]; exact hlen
  have hzl : zetas.length = 128 := by simp [zetas, rangeKs_length]
  clear F1 N1
  try k_fold
  k_steps
  -- the blocks of a layer
  · unfold Stop
    (rename Fr _ _ _ _ => F1); (rename News _ _ _ _ => N1)
    have hi6 : i ≤ 6 := by
      rcases Nat.lt_or_ge i 7 with h | h
      · omega
      · exfalso
        have h7 : i = 7 := by omega
        rw [h7] at hl1
        have : l = 256 := hl1
        omega
    have hy := Lay.ofI i hi6
    have e1 : 2 ^ (7 - i) = 2 * 2 ^ (6 - i) := by
      have : 7 - i = (6 - i) + 1 := by omega
      rw [this, Nat.pow_succ, Nat.mul_comm]
    have e2 : 2 ^ (i + 1) = 2 * 2 ^ i := by rw [Nat.pow_succ, Nat.mul_comm]
    have e0 : 0 < 2 ^ i := Nat.two_pow_pos i
    have e4 : 2 ^ (i + 1 + 1) = 2 * 2 ^ (i + 1) := by rw [Nat.pow_succ 2 (i + 1), Nat.mul_comm]
    have e5 : 7 - (i + 1) = 6 - i := by omega
    rw [e1] at hk1
    have hl2 : 2 ≤ 2 ^ (i + 1) := by omega
    generalize g1 : 2 ^ (6 - i) = nb at *
    generalize g2 : 2 ^ (i + 1) = l1 at *
    refine' whl (σ := Nat × Int × Int × Tok × Tok × List Value × List Int)
      (fun c' => (c, listOf c'.2.2.2.2.2.1.toArray n) :: (x, instObj 426 dx) :: (dx, dictOf [⟨PyData.keyHash w.params (Str.ofString "parent"), .str (Str.ofString "parent") tp1, .ref r⟩, ⟨PyData.keyHash w.params (Str.ofString "coeffs"), .str (Str.ofString "coeffs") tp2, .ref c⟩] 2) :: (r, instObj 282 dr) :: (dr, dictOf [⟨PyData.keyHash w.params (Str.ofString "q"), .str (Str.ofString "q") tq1, .int 3329 tq2⟩, ⟨PyData.keyHash w.params (Str.ofString "n"), .str (Str.ofString "n") tq3, .int 256 tq4⟩, ⟨PyData.keyHash w.params (Str.ofString "ntt_zetas"), .str (Str.ofString "ntt_zetas") tq5, .ref z⟩, ⟨PyData.keyHash w.params (Str.ofString "ntt_f"), .str (Str.ofString "ntt_f") tq6, .int 3303 tq7⟩] 4) :: (z, LCg.lst zs) :: news)
      (fun c' => [(Str.ofString "self", .ref x), (Str.ofString "coeffs", .ref c), (Str.ofString "zetas", .ref z), (Str.ofString "l", .int l tl), (Str.ofString "k", .int c'.2.1 c'.2.2.2.1), (Str.ofString "start", .int c'.2.2.1 c'.2.2.2.2.1)])
      (fun c' => IntsAre c'.2.2.2.2.2.1 c'.2.2.2.2.2.2 ∧ c'.1 ≤ nb ∧ c'.2.1 = 2 * (nb : Int) - 1 - (c'.1 : Int) ∧ c'.2.2.1 = ((2 * l1 * c'.1 : Nat) : Int) ∧ c'.2.2.2.2.2.2 = ilay zetas l1 nb c'.1 ns1)
      (fun c' => nb - c'.1)
      (0, k, 0, _, _, vs1, ns1) F1 ?vhA ?vhB ?vhC ?vhD
    case vhB => kst_all
    case vhA => exact cb_drop N1 (by kcf_all)
    case vhC => exact ⟨hf, Nat.zero_le _, (show k = 2 * (nb : Int) - 1 - ((0 : Nat) : Int) by omega), rfl, rfl⟩
    rintro ⟨b, k2, st, tk2, ts2, vs2, ns2⟩ u2 h2 tk2' hp2 F3 N3
    dsimp only at hp2 N3; dsimp only [kstB] at F3
    obtain ⟨hf2, hb, hk2, hst, hc2⟩ := hp2
    have hlen2 : ns2.length = 256 := by rw [hc2, ilay_len]; exact hlen1
    have hy1 := hy.lt (b := b)
    have hy2 := hy.eq
    have hy3 := hy.le
    have hy4 := hy.pos
    have hy5 : nb + nb ≤ 128 := hy.two hl2
    generalize e3 : 2 * l1 * b = s1 at *
    clear F1 N1
    try k_fold
    by_cases hb' : b < nb
    · have hy6 := hy1 hb'
      k_steps
      unfold Stop
      (rename Fr _ _ _ _ => F1); (rename News _ _ _ _ => N1); (rename IsRange _ _ _ _ _ _ _ _ => R1)
      refine' for_range (σ := Int × Tok × Tok × Tok × List Value × List Int) (n := l1)
        (fun c' => (c, listOf c'.2.2.2.2.1.toArray n) :: (x, instObj 426 dx) :: (dx, dictOf [⟨PyData.keyHash w.params (Str.ofString "parent"), .str (Str.ofString "parent") tp1, .ref r⟩, ⟨PyData.keyHash w.params (Str.ofString "coeffs"), .str (Str.ofString "coeffs") tp2, .ref c⟩] 2) :: (r, instObj 282 dr) :: (dr, dictOf [⟨PyData.keyHash w.params (Str.ofString "q"), .str (Str.ofString "q") tq1, .int 3329 tq2⟩, ⟨PyData.keyHash w.params (Str.ofString "n"), .str (Str.ofString "n") tq3, .int 256 tq4⟩, ⟨PyData.keyHash w.params (Str.ofString "ntt_zetas"), .str (Str.ofString "ntt_zetas") tq5, .ref z⟩, ⟨PyData.keyHash w.params (Str.ofString "ntt_f"), .str (Str.ofString "ntt_f") tq6, .int 3303 tq7⟩] 4) :: (z, LCg.lst zs) :: news)
        (fun c' => [(Str.ofString "self", .ref x), (Str.ofString "coeffs", .ref c), (Str.ofString "zetas", .ref z), (Str.ofString "l", .int l tl), (Str.ofString "k", .int (k2 - 1) c'.2.2.1), (Str.ofString "start", .int st ts2), (Str.ofString "zeta", .int (zetas.getD k2.toNat 0) c'.2.2.2.1), (Str.ofString "j", .int c'.1 c'.2.1)])
        (fun i' c' => IntsAre c'.2.2.2.2.1 c'.2.2.2.2.2 ∧ (i' = 0 ∨ c'.1 = st + (i' : Int) - 1) ∧ c'.2.2.2.2.2 = iblk (zetas.getD k2.toNat 0) l1 s1 i' ns2)
        (st, _, _, _, vs2, ns2) rfl R1 ?fhA ?fhB F1 ?fhC ?fhD ?fhE ?fhF ?fhG
      case fhD => kst_all
      case fhA => exact small_one (by omega) (by omega) (by omega) (by omega)
      case fhB => exact rangeSize_is (by omega)
      case fhC => exact cb_drop N1 (by kcf_all)
      case fhE => exact ⟨hf2, .inl rfl, rfl⟩
      · rintro ⟨jj, tj, tk3, tz3, vs3, ns3⟩ ii tii u3 h3 tk3' own hii hown hp3 F4 N4
        dsimp only at hp3 N4; dsimp only [kstB] at F4; simp only [List.cons_append] at N4
        have hall : ∀ p ∈ news ++ own, p.1 ≠ c := fun p hp => (List.mem_append.mp hp).elim (hnw p) (OwnOff.ne hown (List.mem_cons_self) p)
        obtain ⟨hf3, hjj, hc3⟩ := hp3
        have hlen3 : ns3.length = 256 := by rw [hc3, iblk_len]; exact hlen2
        clear F1 N1
        have hzb := zetas_bd k2.toNat
        try k_fold
        k_steps
        (rename Fr _ _ _ _ => F1); (rename News _ _ _ _ => N1)
        refine' for_end (st + (ii : Int), _, _, _, _, _) F1 N1 ?feA ?feB ?feC ?feD ?feE
        case feD => kst_all
        case feA => kcf_all
        case feB => kcf_all
        case feC => rfl
        case feE => exact ⟨by l_ints, .inr (by omega), by rw [ibfly_eq hst hl1, hc3]; rfl⟩
      · rintro ⟨jj, tj, tk3, tz3, vs3, ns3⟩ u3 h3 tk3' hp3 F4 N4
        dsimp only at hp3 N4; dsimp only [kstB] at F4
        obtain ⟨hf3, hjj, hc3⟩ := hp3
        clear F1 N1
        try k_fold
        k_steps
        (rename Fr _ _ _ _ => F1); (rename News _ _ _ _ => N1)
        refine' whl_end (b + 1, k2 - 1, jj + l + 1, _, _, vs3, ns3) F1 N1 ?feA ?feD ?feE ?feF
        case feD => kst_all
        case feA => kcf_all
        case feE =>
          refine ⟨hf3, ?_, ?_, ?_, ?_⟩
          · show b + 1 ≤ nb; omega
          · show k2 - 1 = 2 * (nb : Int) - 1 - ((b + 1 : Nat) : Int); omega
          · have : 2 * l1 * (b + 1) = s1 + 2 * l1 := by rw [Nat.mul_add, e3, Nat.mul_one]
            show jj + l + 1 = ((2 * l1 * (b + 1) : Nat) : Int)
            rw [this]; omega
          · show ns3 = ilay zetas l1 nb (b + 1) ns1
            have hk3 : k2.toNat = 2 * nb - 1 - b := by omega
            rw [ilay, e3, ← hc2, hc3, hk3]
        case feF => show nb - (b + 1) < nb - b; omega
    · have hb2 : b = nb := by omega
      subst hb2
      have hs1 : s1 = 256 := by rw [← e3]; exact hy2
      k_steps
      (rename Fr _ _ _ _ => F1); (rename News _ _ _ _ => N1)
      refine' whl_end (i + 1, k2, l * 2 ^ Int.toNat 1, _, _, vs2, ns2) F1 N1 ?feA ?feD ?feE ?feF
      case feD => kst_all
      case feA => kcf_all
      case feE =>
        refine ⟨hf2, ?_, ?_, ?_, ?_⟩
        · show i + 1 ≤ 7; omega
        · show k2 = ((2 ^ (7 - (i + 1)) : Nat) : Int) - 1
          rw [e5, g1]; omega
        · show l * 2 ^ Int.toNat 1 = ((2 ^ (i + 1 + 1) : Nat) : Int)
          have e : (2 : Int) ^ Int.toNat 1 = 2 := by decide
          rw [e, e4]; omega
        · show ns2 = itr zetas (i + 1) ns
          rw [itr, g1, g2, ← hc1]; exact hc2
      case feF => show 7 - (i + 1) < 7 - i; omega
  -- the rests at the end
  · unfold Stop
    (rename Fr _ _ _ _ => F1); (rename News _ _ _ _ => N1); (rename IsRange _ _ _ _ _ _ _ _ => R1)
    have hi7 : i = 7 := by
      rcases Nat.lt_or_ge i 7 with h | h
      · exfalso
        have e3 : 2 ^ (i + 1) ≤ 2 ^ 7 := Nat.pow_le_pow_right (by decide) (by omega)
        have e4 : 2 ^ 7 = 128 := rfl
        omega
      · omega
    refine' for_range (σ := Tok × List Value × List Int) (n := 256)
      (fun c' => (c, listOf c'.2.1.toArray n) :: (x, instObj 426 dx) :: (dx, dictOf [⟨PyData.keyHash w.params (Str.ofString "parent"), .str (Str.ofString "parent") tp1, .ref r⟩, ⟨PyData.keyHash w.params (Str.ofString "coeffs"), .str (Str.ofString "coeffs") tp2, .ref c⟩] 2) :: (r, instObj 282 dr) :: (dr, dictOf [⟨PyData.keyHash w.params (Str.ofString "q"), .str (Str.ofString "q") tq1, .int 3329 tq2⟩, ⟨PyData.keyHash w.params (Str.ofString "n"), .str (Str.ofString "n") tq3, .int 256 tq4⟩, ⟨PyData.keyHash w.params (Str.ofString "ntt_zetas"), .str (Str.ofString "ntt_zetas") tq5, .ref z⟩, ⟨PyData.keyHash w.params (Str.ofString "ntt_f"), .str (Str.ofString "ntt_f") tq6, .int 3303 tq7⟩] 4) :: (z, LCg.lst zs) :: news)
      (fun c' => [(Str.ofString "self", .ref x), (Str.ofString "coeffs", .ref c), (Str.ofString "f", .int 3303 c'.1)])
      (fun i' c' => IntsAre c'.2.1 c'.2.2 ∧ c'.2.2 = mf i' ns1)
      (_, vs1, ns1) rfl R1 ?mhA ?mhB F1 ?mhC ?mhD ?mhE ?mhF ?mhG
    case mhD => kst_all
    case mhA => decide
    case mhB => rfl
    case mhC => exact cb_drop N1 (by kcf_all)
    case mhE => exact ⟨hf, rfl⟩
    · rintro ⟨tf3, vs3, ns3⟩ ii tii u3 h3 tk3' own hii hown hp3 F4 N4
      dsimp only at hp3 N4; dsimp only [kstB] at F4; simp only [List.cons_append] at N4
      have hall : ∀ p ∈ news ++ own, p.1 ≠ c := fun p hp => (List.mem_append.mp hp).elim (hnw p) (OwnOff.ne hown (List.mem_cons_self) p)
      obtain ⟨hf3, hc3⟩ := hp3
      have hlen3 : ns3.length = 256 := by rw [hc3, mf_len]; exact hlen1
      clear F1 N1
      try k_fold
      k_steps
      (rename Fr _ _ _ _ => F1); (rename News _ _ _ _ => N1)
      refine' for_end (_, _, _) F1 N1 ?feA ?feB ?feC ?feD ?feE
      case feD => kst_all
      case feA => kcf_all
      case feB => kcf_all
      case feC => rfl
      case feE => exact ⟨by l_ints, by rw [mf_eq, hc3]; rfl⟩
    · rintro ⟨tf3, vs3, ns3⟩ u3 h3 tk3' hp3 F4 N4
      dsimp only at hp3 N4; dsimp only [kstB] at F4
      obtain ⟨hf3, hc3⟩ := hp3
      clear F1 N1
      try k_fold
      have hlen3 : ns3.length = 256 := by rw [hc3, mf_len]; exact hlen1
      k_steps
      (rename Fr h₀ L _ _ => kF); (rename News h₀ L _ _ => kN)
      have hv : IntsAre vs3 (mf 256 (itr zetas 7 ns)) := by rw [← hi7, ← hc1, ← hc3]; exact hf3
      refine' hret _ _ _ _ vs3 _ _ hv (by assumption) (by assumption) (by assumption) kF (cb_drop kN ?o4)
      case o4 => kcf_all
theorem fromntt_spec {w : World} {p : Program} {loose : List Str} {mean : ExcName → Option Value} {mg mb : Str → Option Value}
    {dp un : Nat} {gd : Option (List Code)} {cn : Str} {cs : Scope} {a : Addr} {ccd : Value} {cl : List (Str × Addr)} {outer : List Env} {A₀ : Around} {base h₀ : Heap} {L : Addr} {m : Str → Option Value} {news : List (Addr × Obj)} {s : Shared} {Q E : Value → Shared → Prop}
    {x dx c r dr z : Addr} {tp1 tp2 tq1 tq2 tq3 tq4 tq5 tq6 tq7 : Tok} {vs zs : List Value} {ns : List Int} {n : Nat} {g : Obj → List (Addr × Obj)}
    (B : Below A₀ base outer h₀) (F : Fr h₀ L s.heap m) (X : (Mine.hd.heap_1 w.params).In h₀) (N : News h₀ L s.heap news) (T : Top p loose mean mg mb h₀) (hk : cs.kind = .function)
    (hs : IntsAre vs ns) (hz : IntsAre zs zetas) (hlen : ns.length = 256) (hzc : @Ne Nat c z)
    (U : UpdF c (listOf vs.toArray n) news g) (hx : (x, instObj 426 dx) ∈ news) (hdx : (dx, dictOf [⟨PyData.keyHash w.params (Str.ofString "parent"), .str (Str.ofString "parent") tp1, .ref r⟩, ⟨PyData.keyHash w.params (Str.ofString "coeffs"), .str (Str.ofString "coeffs") tp2, .ref c⟩] 2) ∈ news) (hr : (r, instObj 282 dr) ∈ news) (hdr : (dr, dictOf [⟨PyData.keyHash w.params (Str.ofString "q"), .str (Str.ofString "q") tq1, .int 3329 tq2⟩, ⟨PyData.keyHash w.params (Str.ofString "n"), .str (Str.ofString "n") tq3, .int 256 tq4⟩, ⟨PyData.keyHash w.params (Str.ofString "ntt_zetas"), .str (Str.ofString "ntt_zetas") tq5, .ref z⟩, ⟨PyData.keyHash w.params (Str.ofString "ntt_f"), .str (Str.ofString "ntt_f") tq6, .int 3303 tq7⟩] 4) ∈ news) (hzz : (z, LCg.lst zs) ∈ news)
    (hd : dp + 20 < recursionLimit) (hu : un + 160 < cLine)
    (hret : ∀ (x' dx' : Addr) (ta tb : Tok) (vs' : List Value) h' tk', IntsAre vs' (mf 256 (itr zetas 7 ns)) → AllLt dx' (g (listOf vs'.toArray n)) → @LT.lt Nat _ dx' x' → Fr h₀ L h' m →
      News h₀ L h' ((x', instObj 350 dx') :: (dx', dictOf [⟨PyData.keyHash w.params (Str.ofString "parent"), .str (Str.ofString "parent") ta, .ref r⟩, ⟨PyData.keyHash w.params (Str.ofString "coeffs"), .str (Str.ofString "coeffs") tb, .ref c⟩] 2) :: g (listOf vs'.toArray n)) →
      Q (.ref x') { s with heap := h', toks := tk' }) :
    wpAny (model PySem.Challenge.pw_yi0004_01 w) (ktrTop dp un gd cn cs L a ccd cl outer) (call (.ref 380) [.ref x]) Q E s := by
  have n1 := updF_ne U hx (by intro e; cases e)
  have n2 := updF_ne U hdx dict_list
  have n3 := updF_ne U hr (by intro e; cases e)
  have n4 := updF_ne U hdr dict_list
  obtain ⟨pre, post, rfl, hg, h1, h2⟩ := U.split
  have hall : ∀ p ∈ pre ++ post, p.1 ≠ c := fun p hp => (List.mem_append.mp hp).elim (h1 p) (h2 p)
  have hb : News h₀ L s.heap (pre ++ post) := fun p hp => N p (List.mem_append.mpr ((List.mem_append.mp hp).imp id (.tail _)))
  have N0 := newsCons N (List.mem_append.mpr (.inr (.head _))) (newsCons N hx (newsCons N hdx (newsCons N hr (newsCons N hdr (newsCons N hzz hb)))))
  refine fromntt_core x dx c r dr z _ _ _ _ _ _ _ _ _ vs zs ns n B F X T hk hs hz hlen ⟨n1, n2, n3, n4, hzc⟩ hall N0 hd hu fun x' dx' ta tb vs' h' tk' q1 q2 q3 q4 F' N' => ?_
  refine hret x' dx' ta tb vs' h' tk' q1 ?_ q4 F' ?_
  · rw [hg]
    refine allLt_of fun p hp => ?_
    rcases List.mem_append.mp hp with q | q
    · exact ktn_ltOf q2 p (List.mem_append.mpr (.inl q))
    · rcases List.mem_cons.mp q with q | q
      · rw [q]; exact q3
      · exact ktn_ltOf q2 p (List.mem_append.mpr (.inr q))
  · rw [hg]
    refine cb_drop N' fun p hp => ?_
    rcases List.mem_cons.mp hp with q | q
    · rw [q]; exact .head _
    · rcases List.mem_cons.mp q with q | q
      · rw [q]; exact .tail _ (.head _)
      · refine .tail _ (.tail _ ?_)
        rcases List.mem_append.mp q with q | q
        · exact .tail _ (List.mem_append.mpr (.inl q))
        · rcases List.mem_cons.mp q with q | q
          · rw [q]; exact .head _
          · exact .tail _ (List.mem_append.mpr (.inr q))
end
section
theorem pad5 : True := by (w_top off); trivial
local macro_rules | `(tactic| walk_at "callWith ref") => `(tactic| (k_here; k_dflt (refine' callWith_objKW (K := Mine.hd.heap_1 _) ?kX ?kI ?kp ?ka ?_; (case kX => k_in); (case kI => k_inst); (case kp | ka => rfl))))
/-! what the coefficients' product reckons -/
def bm0 (a0 a1 b0 b1 z : Int) : Int := (a0 * b0 + z * a1 * b1).fmod 3329
def bm1 (a0 a1 b0 b1 : Int) : Int := (a1 * b0 + a0 * b1).fmod 3329
def cm (zs f g : List Int) : Nat → List Int
  | 0 => []
  | i + 1 => cm zs f g i ++ [bm0 (f.getD (4 * i) 0) (f.getD (4 * i + 1) 0) (g.getD (4 * i) 0) (g.getD (4 * i + 1) 0) (zs.getD (64 + i) 0), bm1 (f.getD (4 * i) 0) (f.getD (4 * i + 1) 0) (g.getD (4 * i) 0) (g.getD (4 * i + 1) 0),
      bm0 (f.getD (4 * i + 2) 0) (f.getD (4 * i + 3) 0) (g.getD (4 * i + 2) 0) (g.getD (4 * i + 3) 0) (-(zs.getD (64 + i) 0)), bm1 (f.getD (4 * i + 2) 0) (f.getD (4 * i + 3) 0) (g.getD (4 * i + 2) 0) (g.getD (4 * i + 3) 0)]
theorem cm_len (zs f g : List Int) : ∀ i, (cm zs f g i).length = 4 * i
  | 0 => rfl
  | i + 1 => by rw [cm, List.length_append, cm_len]; simp only [List.length_cons, List.length_nil]; omega
def Small (l : List Int) : Prop := ∀ v ∈ l, 0 ≤ v ∧ v < 3329
theorem Small.at {l : List Int} (h : Small l) (j : Nat) : 0 ≤ l.getD j 0 ∧ l.getD j 0 < 3329 := getD_of (P := fun x => 0 ≤ x ∧ x < 3329) h (by decide) j
section
variable {prog : Program} {w : World} {A : Around} {E : Value → Shared → Prop} {s : Shared} {h₀ : Heap} {L : Addr} {m : Str → Option Value} {news : List (Addr × Obj)}
theorem fills_list_iadd : fillsInplaceSlot (.type "list") "add" (Operator.Add == .Add) = pure false := by
  unfold fillsInplaceSlot
  show (typeLookup (.type "list") (dunderI "add") >>= fun fi => pure (fi.isSome && !isSeqSlot fi)) = pure false
  rw [PySem.F.slot_list_iadd.lookup]
  have e : isSeqSlot (some (Value.builtin "list.__iadd__")) = true := by decide +kernel
  simp only [pure_bind, e, Bool.not_true, Bool.and_false]
theorem seq_list_iadd : seqSlot? (.type "list") (dunderI "add") = pure (some (.builtin "list.__iadd__")) := PySem.seqSlot_of PySem.F.slot_list_iadd.lookup (by decide +kernel)
theorem inplace_list {a b : Value} {Q : Value → Shared → Prop} (ha : s.TypeIs a "list") (hb : s.TypeIs b "list")
    (hc : wpAny (model prog w) A (call (.builtin "list.__iadd__") [a, b]) Q E s) : wpAny (model prog w) A (inplaceOp .Add a b) Q E s := by
  unfold inplaceOp
  refine wpAny_holding ?_
  refine wpAny_bind (wpAny_typeOf ha (wpAny_bind (wpAny_of_eq fills_list_iadd ?_)))
  show wpAny _ A (if false = true then _ else _) Q E s
  rw [if_neg Bool.false_ne_true]
  refine wpAny_bind (PySem.wpAny_binaryOp1_none (nm := "add") ha hb PySem.noFill_list_add ?_)
  refine wpAny_bind (wpAny_of_eq seq_list_iadd ?_)
  exact wpAny_bind (wpAny_rule hc)
theorem iadd_in {D b : Addr} {ys : List Value} {n n2 : Nat} {its2 : Array Value} {ns ms : List Int} {g : Obj → List (Addr × Obj)} {Q : Value → Shared → Prop}
    (F : Fr h₀ L s.heap m) (N : News h₀ L s.heap news) (U : UpdF D (listOf ys.toArray n) news g) (hb : (b, listOf its2 n2) ∈ news) (hi : IntsAre ys ns) (hj : IntsAre its2.toList ms)
    (hsz : ys.length + its2.size ≤ sizeLine)
    (h : ∀ h' n', Fr h₀ L h' m → News h₀ L h' (g (listOf (ys ++ its2.toList).toArray n')) → IntsAre (ys ++ its2.toList) (ns ++ ms) → Q (.ref D) { s with heap := h' }) :
    wpAny (model prog w) A (inplaceOp .Add (.ref D) (.ref b)) Q E s := by
  obtain ⟨pre, post, rfl, hg, h1, h2⟩ := U.split
  have hm := N _ (List.mem_append_right pre (List.Mem.head post))
  have hbm := N _ hb
  have hsz' : ys.toArray.size + its2.size ≤ sizeLine := by rw [List.size_toArray]; exact hsz
  refine inplace_list ⟨_, hm.1, rfl⟩ ⟨_, hbm.1, rfl⟩ ?_
  refine call_meets PySem.F.slot_list_iadd ⟨_, hm.1, rfl⟩ PySem.F.entry_list_iadd (PySem.F.args_list_iadd_2 _ _) (AutoSeq1.list___iadd___list_list_0 D ys.toArray n b its2 n2 (extend_door hsz') (Nat.le_trans (Nat.le_add_right _ _) hsz') (Nat.le_succ_of_le hsz')) ⟨hm.1, hbm.1, ?_⟩
  have e : ys.toArray ++ its2 = (ys ++ its2.toList).toArray := by simp
  have ho' : (s.heap.update D (Obj.mapSeq fun x => x ++ its2)).get? D = some { cls := .type "list", data := .seq (ys ++ its2.toList).toArray (if (ys.toArray ++ its2).size == ys.toArray.size then n else n + 1) } := by
    rw [Heap.get?_update_self _ hm.1 (by rw [mapSeq_app]; rfl), mapSeq_app, e]
  exact h _ _ (F.change (Heap.SameBut.update ..) hm.2.1 hm.2.2) (hg _ ▸ N.setIn h1 h2 (Heap.SameBut.update ..) ho') (hi.append hj)
end
local macro_rules | `(tactic| walk_at "getMethod ref") => `(tactic| (k_here; (with_reducible show wpAny _ _ (getMethod (Value.ref _) (PySem.Str.ofString "_ntt_base_multiplication") _) _ _ _); k_dflt (refine' kmu_sm ?k1 ?k2 ?k4 ?k5 ?k6 ?k7 ?k8 ?k9 ?k10 ?k11 ?k12 ?k13 ?k14 ?_; (case k1 | k2 => k_asm); (case k4 => k_inst); (case k5 | k6 | k7 | k8 | k9 | k10 => k_is); (case k11 => decide +kernel); (case k12 => k_get); (case k13 => k_is); (case k14 => k_handed); k_whole)))
local macro_rules | `(tactic| walk_at "inplaceOp Add ref") => `(tactic| refine stop ?_)
def headAddr {h₀ h : Heap} {L : Addr} {p : Addr × Obj} {l : List (Addr × Obj)} (_ : News h₀ L h (p :: l)) : Addr := p.1
theorem fmod_small (x : Int) : 0 ≤ x.fmod 3329 ∧ x.fmod 3329 < 3329 := ⟨Int.fmod_nonneg_of_pos x (by decide), Int.fmod_lt_of_pos x (by decide)⟩
theorem cm_small (zs f g : List Int) : ∀ i, Small (cm zs f g i)
  | 0 => fun v hv => nomatch hv
  | i + 1 => by
    intro v hv
    rw [cm] at hv
    rcases List.mem_append.mp hv with q | q
    · exact cm_small zs f g i v q
    · simp only [List.mem_cons, List.not_mem_nil, or_false] at q
      rcases q with rfl | rfl | rfl | rfl <;> exact fmod_small _
local macro_rules | `(tactic| walk_at "pyIter ref") => `(tactic| refine stop ?_)
theorem coef_core {w : World} {p : Program} {loose : List Str} {mean : ExcName → Option Value} {mg mb : Str → Option Value}
    {dp un : Nat} {gd : Option (List Code)} {cn : Str} {cs : Scope} {a : Addr} {ccd : Value} {cl : List (Str × Addr)} {outer : List Env} {A₀ : Around} {base h₀ : Heap} {L : Addr} {m : Str → Option Value} {news : List (Addr × Obj)} {s : Shared} {Q E : Value → Shared → Prop}
    (x dx r dr z c1 c2 c0 : Addr) (tp1 tp2 tq1 tq2 tq3 tq4 tq5 tq6 tq7 : Tok) (vs1 vs2 zs : List Value) (ns1 ns2 : List Int) (n1 n2 : Nat)
    (B : Below A₀ base outer h₀) (F : Fr h₀ L s.heap m) (X : (Mine.hd.heap_1 w.params).In h₀) (T : Top p loose mean mg mb h₀) (hk : cs.kind = .function)
    (hs1 : IntsAre vs1 ns1) (hs2 : IntsAre vs2 ns2) (hz : IntsAre zs zetas) (hl1 : ns1.length = 256) (hl2 : ns2.length = 256) (hm1 : Small ns1) (hm2 : Small ns2)
    (N : News h₀ L s.heap ((c1, listOf vs1.toArray n1) :: (c2, listOf vs2.toArray n2) :: (x, instObj 426 dx) :: (dx, dictOf [⟨PyData.keyHash w.params (Str.ofString "parent"), .str (Str.ofString "parent") tp1, .ref r⟩, ⟨PyData.keyHash w.params (Str.ofString "coeffs"), .str (Str.ofString "coeffs") tp2, .ref c0⟩] 2) :: (r, instObj 282 dr) :: (dr, dictOf [⟨PyData.keyHash w.params (Str.ofString "q"), .str (Str.ofString "q") tq1, .int 3329 tq2⟩, ⟨PyData.keyHash w.params (Str.ofString "n"), .str (Str.ofString "n") tq3, .int 256 tq4⟩, ⟨PyData.keyHash w.params (Str.ofString "ntt_zetas"), .str (Str.ofString "ntt_zetas") tq5, .ref z⟩, ⟨PyData.keyHash w.params (Str.ofString "ntt_f"), .str (Str.ofString "ntt_f") tq6, .int 3303 tq7⟩] 4) :: (z, LCg.lst zs) :: news))
    (hd : dp + 10 < recursionLimit) (hu : un + 80 < cLine)
    (hret : ∀ (D : Addr) (us : List Value) (k : Nat) h' tk', IntsAre us (cm zetas ns1 ns2 64) → AllLt D news → Fr h₀ L h' m → News h₀ L h' ((D, listOf us.toArray k) :: news) → Q (.ref D) { s with heap := h', toks := tk' }) :
    wpAny (model PySem.Challenge.pw_yi0004_01 w) (ktrTop dp un gd cn cs L a ccd cl outer) (call (.ref 397) [.ref x, .ref c1, .ref c2]) Q E s := by
  refine wpAny_call ?_
  k_dflt cell_enter
  k_steps
  unfold Stop
  (rename Fr _ _ _ _ => F1); (rename News _ _ _ _ => N1); (rename IsRange _ _ _ _ _ _ _ _ => R1)
  obtain ⟨D, hD⟩ : ∃ D, D = headAddr N1 := ⟨_, rfl⟩
  dsimp only [headAddr] at hD
  subst hD
  have hnD : ∀ p ∈ news, p.1 ≠ D := ne_of_allLt (by assumption) (Nat.le_refl _)
  have hzl : zetas.length = 128 := by simp [zetas, rangeKs_length]
  refine' for_range (σ := Nat × List Value × List Int) (n := 64)
    (fun c' => (D, listOf c'.2.1.toArray c'.1) :: (c1, listOf vs1.toArray n1) :: (c2, listOf vs2.toArray n2) :: (x, instObj 426 dx) :: (dx, dictOf [⟨PyData.keyHash w.params (Str.ofString "parent"), .str (Str.ofString "parent") tp1, .ref r⟩, ⟨PyData.keyHash w.params (Str.ofString "coeffs"), .str (Str.ofString "coeffs") tp2, .ref c0⟩] 2) :: (r, instObj 282 dr) :: (dr, dictOf [⟨PyData.keyHash w.params (Str.ofString "q"), .str (Str.ofString "q") tq1, .int 3329 tq2⟩, ⟨PyData.keyHash w.params (Str.ofString "n"), .str (Str.ofString "n") tq3, .int 256 tq4⟩, ⟨PyData.keyHash w.params (Str.ofString "ntt_zetas"), .str (Str.ofString "ntt_zetas") tq5, .ref z⟩, ⟨PyData.keyHash w.params (Str.ofString "ntt_f"), .str (Str.ofString "ntt_f") tq6, .int 3303 tq7⟩] 4) :: (z, LCg.lst zs) :: news)
    (fun c' => [(Str.ofString "self", .ref x), (Str.ofString "f_coeffs", .ref c1), (Str.ofString "g_coeffs", .ref c2), (Str.ofString "zetas", .ref z), (Str.ofString "new_coeffs", .ref D)])
    (fun i' c' => IntsAre c'.2.1 c'.2.2 ∧ c'.2.2 = cm zetas ns1 ns2 i')
    (0, [], []) rfl R1 ?mhA ?mhB F1 ?mhC ?mhD ?mhE ?mhF ?mhG
  case mhD => kst_all
  case mhA => decide
  case mhB => rfl
  case mhC => exact cb_drop N1 (by kcf_all)
  case mhE => exact ⟨.nil, rfl⟩
  · rintro ⟨n3, vs3, ns3⟩ ii tii u3 h3 tk3' own hii hown hp3 F4 N4
    dsimp only at hp3 N4; dsimp only [kstB] at F4; simp only [List.cons_append] at N4
    obtain ⟨hf3, hc3⟩ := hp3
    have hall : ∀ p ∈ news ++ own, p.1 ≠ D := fun p hp => (List.mem_append.mp hp).elim (hnD p) (OwnOff.ne hown (List.mem_cons_self) p)
    have hlen3 : ns3.length = 4 * ii := by rw [hc3, cm_len]
    have q0 := hm1.at (4 * (0 + (ii : Int)) + 0).toNat
    have q1 := hm1.at (4 * (0 + (ii : Int)) + 1).toNat
    have q2 := hm1.at (4 * (0 + (ii : Int)) + 2).toNat
    have q3 := hm1.at (4 * (0 + (ii : Int)) + 3).toNat
    have r0 := hm2.at (4 * (0 + (ii : Int)) + 0).toNat
    have r1 := hm2.at (4 * (0 + (ii : Int)) + 1).toNat
    have r2 := hm2.at (4 * (0 + (ii : Int)) + 2).toNat
    have r3 := hm2.at (4 * (0 + (ii : Int)) + 3).toNat
    clear F1 N1
    try k_fold
    k_steps
    unfold Stop
    (rename Fr _ _ _ _ => F1); (rename News _ _ _ _ => N1)
    k_dflt refine' iadd_in F1 N1 ?kU ?kb hf3 ?kj ?kz ?_
    case kb => k_mem
    case kU => k_updF
    case kj => exact IntsAre.cons _ _ (IntsAre.cons _ _ (IntsAre.cons _ _ (IntsAre.cons _ _ IntsAre.nil)))
    case kz =>
      rw [PySem.sizeLine_eq, hf3.length, hlen3]
      show 4 * ii + 4 ≤ 16777216
      omega
    intro h' n' F' N' hi'
    dsimp only at N'
    clear F1 N1
    try k_fold
    k_steps
    (rename Fr _ _ _ _ => F1); (rename News _ _ _ _ => N1)
    have hi2 : ∃ q, IntsAre _ q ∧ q = cm zetas ns1 ns2 (ii + 1) := ⟨_, hi', by
      have e0 : (4 * (0 + (ii : Int)) + 0).toNat = 4 * ii := by omega
      have e1 : (4 * (0 + (ii : Int)) + 1).toNat = 4 * ii + 1 := by omega
      have e2 : (4 * (0 + (ii : Int)) + 2).toNat = 4 * ii + 2 := by omega
      have e3 : (4 * (0 + (ii : Int)) + 3).toNat = 4 * ii + 3 := by omega
      have e4 : (64 + (0 + (ii : Int))).toNat = 64 + ii := by omega
      rw [e0, e1, e2, e3, e4, hc3]
      rfl⟩
    obtain ⟨q, hq, hqe⟩ := hi2
    refine' for_end (n', _, q) F1 N1 ?feA ?feB ?feC ?feD ?feE
    case feD => kst_all
    case feA => kcf_all
    case feB => kcf_all
    case feC => rfl
    case feE => exact ⟨hq, hqe⟩
  · rintro ⟨n3, vs3, ns3⟩ u3 h3 tk3' hp3 F4 N4
    dsimp only at hp3 N4; dsimp only [kstB] at F4
    obtain ⟨hf3, hc3⟩ := hp3
    clear F1 N1
    try k_fold
    k_steps
    (rename Fr h₀ L _ _ => kF); (rename News h₀ L _ _ => kN)
    rw [hc3] at hf3
    refine' hret _ _ _ _ _ hf3 (by assumption) kF (cb_drop kN ?o4)
    case o4 => kcf_all
theorem coef_spec {w : World} {p : Program} {loose : List Str} {mean : ExcName → Option Value} {mg mb : Str → Option Value}
    {dp un : Nat} {gd : Option (List Code)} {cn : Str} {cs : Scope} {a : Addr} {ccd : Value} {cl : List (Str × Addr)} {outer : List Env} {A₀ : Around} {base h₀ : Heap} {L : Addr} {m : Str → Option Value} {news : List (Addr × Obj)} {s : Shared} {Q E : Value → Shared → Prop}
    {x dx r dr z c1 c2 c0 : Addr} {tp1 tp2 tq1 tq2 tq3 tq4 tq5 tq6 tq7 : Tok} {vs1 vs2 zs : List Value} {ns1 ns2 : List Int} {n1 n2 : Nat}
    (B : Below A₀ base outer h₀) (F : Fr h₀ L s.heap m) (X : (Mine.hd.heap_1 w.params).In h₀) (N : News h₀ L s.heap news) (T : Top p loose mean mg mb h₀) (hk : cs.kind = .function)
    (hs1 : IntsAre vs1 ns1) (hs2 : IntsAre vs2 ns2) (hz : IntsAre zs zetas) (hl1 : ns1.length = 256) (hl2 : ns2.length = 256) (hm1 : Small ns1) (hm2 : Small ns2)
    (hc1 : (c1, listOf vs1.toArray n1) ∈ news) (hc2 : (c2, listOf vs2.toArray n2) ∈ news) (hx : (x, instObj 426 dx) ∈ news) (hdx : (dx, dictOf [⟨PyData.keyHash w.params (Str.ofString "parent"), .str (Str.ofString "parent") tp1, .ref r⟩, ⟨PyData.keyHash w.params (Str.ofString "coeffs"), .str (Str.ofString "coeffs") tp2, .ref c0⟩] 2) ∈ news) (hr : (r, instObj 282 dr) ∈ news) (hdr : (dr, dictOf [⟨PyData.keyHash w.params (Str.ofString "q"), .str (Str.ofString "q") tq1, .int 3329 tq2⟩, ⟨PyData.keyHash w.params (Str.ofString "n"), .str (Str.ofString "n") tq3, .int 256 tq4⟩, ⟨PyData.keyHash w.params (Str.ofString "ntt_zetas"), .str (Str.ofString "ntt_zetas") tq5, .ref z⟩, ⟨PyData.keyHash w.params (Str.ofString "ntt_f"), .str (Str.ofString "ntt_f") tq6, .int 3303 tq7⟩] 4) ∈ news) (hzz : (z, LCg.lst zs) ∈ news)
    (hd : dp + 10 < recursionLimit) (hu : un + 80 < cLine)
    (hret : ∀ (D : Addr) (us : List Value) (ms : List Int) (k : Nat) h' tk', IntsAre us ms → ms.length = 256 → Small ms → Hid2 (ms = cm zetas ns1 ns2 64) → AllLt D news → Fr h₀ L h' m → News h₀ L h' ((D, listOf us.toArray k) :: news) → Q (.ref D) { s with heap := h', toks := tk' }) :
    wpAny (model PySem.Challenge.pw_yi0004_01 w) (ktrTop dp un gd cn cs L a ccd cl outer) (call (.ref 397) [.ref x, .ref c1, .ref c2]) Q E s :=
  coef_core x dx r dr z c1 c2 c0 _ _ _ _ _ _ _ _ _ vs1 vs2 zs ns1 ns2 n1 n2 B F X T hk hs1 hs2 hz hl1 hl2 hm1 hm2
    (newsCons N hc1 (newsCons N hc2 (newsCons N hx (newsCons N hdx (newsCons N hr (newsCons N hdr (newsCons N hzz N))))))) hd hu
    fun D us k h' tk' q1 q2 F' N' => hret D us _ k h' tk' q1 (cm_len _ _ _ _) (cm_small _ _ _ _) ⟨rfl⟩ q2 F' N'
end
section
theorem pad6 : True := by (w_top off); trivial
local macro_rules | `(tactic| walk_at "pad 0") => `(tactic| skip)
local macro_rules | `(tactic| walk_at "pad 1") => `(tactic| skip)
local macro_rules | `(tactic| walk_at "pad 2") => `(tactic| skip)
local macro_rules | `(tactic| walk_at "pad 3") => `(tactic| skip)
local macro_rules | `(tactic| walk_at "pad 4") => `(tactic| skip)
local macro_rules | `(tactic| walk_at "pad 5") => `(tactic| skip)
local macro_rules | `(tactic| walk_at "pad 6") => `(tactic| skip)
local macro_rules | `(tactic| walk_at "pad 7") => `(tactic| skip)
local macro_rules | `(tactic| walk_at "callWith ref") => `(tactic| (k_here; k_dflt (refine' callWith_objKW (K := Mine.hd.heap_1 _) ?kX ?kI ?kp ?ka ?_; (case kX => k_in); (case kI => k_inst); (case kp | ka => rfl))))
local macro_rules | `(tactic| walk_at "call ref") => `(tactic| (k_here; (with_reducible show wpAny _ _ (call (Value.ref 397) _) _ _ _); k_dflt (refine' coef_spec ?k1 ?k2 ?k3 ?k4 ?k5 ?kK ?ka ?kb ?kc ?kd ?ke ?kf ?kg ?kh ?ki ?kj ?kk ?kl ?km ?kn ?ko ?kp ?_; (case k1 | k2 | k3 | k4 | k5 => k_asm); (case kK => first | exact rfl | assumption); (case kh | ki | kj | kk | kl | km | kn => k_mem); (case ka | kb | kc | kd | ke | kf | kg => assumption); (case ko => ktr_room); (case kp => ktr_units)); intro D9 us9 ms9 k9 h9 tk9 hI9 hL9 hS9 hH9 l1 F9 N9; (try k_lt l1); (try dsimp only); (try k_fold); (try k_sweep)))
theorem nttmul_spec {w : World} {p : Program} {loose : List Str} {mean : ExcName → Option Value} {mg mb : Str → Option Value}
    {dp un : Nat} {gd : Option (List Code)} {cn : Str} {cs : Scope} {a : Addr} {ccd : Value} {cl : List (Str × Addr)} {outer : List Env} {A₀ : Around} {base h₀ : Heap} {L : Addr} {m : Str → Option Value} {news : List (Addr × Obj)} {s : Shared} {Q E : Value → Shared → Prop}
    {x dx y dy r dr r2 z c1 c2 : Addr} {tp1 tp2 ty1 ty2 tq1 tq2 tq3 tq4 tq5 tq6 tq7 : Tok} {vs1 vs2 zs : List Value} {ns1 ns2 : List Int} {n1 n2 : Nat}
    (B : Below A₀ base outer h₀) (F : Fr h₀ L s.heap m) (X : (Mine.hd.heap_1 w.params).In h₀) (N : News h₀ L s.heap news) (T : Top p loose mean mg mb h₀) (hk : cs.kind = .function)
    (hs1 : IntsAre vs1 ns1) (hs2 : IntsAre vs2 ns2) (hz : IntsAre zs zetas) (hl1 : ns1.length = 256) (hl2 : ns2.length = 256) (hm1 : Small ns1) (hm2 : Small ns2)
    (hc1 : (c1, listOf vs1.toArray n1) ∈ news) (hc2 : (c2, listOf vs2.toArray n2) ∈ news) (hx : (x, instObj 426 dx) ∈ news) (hdx : (dx, dictOf [⟨PyData.keyHash w.params (Str.ofString "parent"), .str (Str.ofString "parent") tp1, .ref r⟩, ⟨PyData.keyHash w.params (Str.ofString "coeffs"), .str (Str.ofString "coeffs") tp2, .ref c1⟩] 2) ∈ news) (hy : (y, instObj 426 dy) ∈ news) (hdy : (dy, dictOf [⟨PyData.keyHash w.params (Str.ofString "parent"), .str (Str.ofString "parent") ty1, .ref r2⟩, ⟨PyData.keyHash w.params (Str.ofString "coeffs"), .str (Str.ofString "coeffs") ty2, .ref c2⟩] 2) ∈ news) (hr : (r, instObj 282 dr) ∈ news) (hdr : (dr, dictOf [⟨PyData.keyHash w.params (Str.ofString "q"), .str (Str.ofString "q") tq1, .int 3329 tq2⟩, ⟨PyData.keyHash w.params (Str.ofString "n"), .str (Str.ofString "n") tq3, .int 256 tq4⟩, ⟨PyData.keyHash w.params (Str.ofString "ntt_zetas"), .str (Str.ofString "ntt_zetas") tq5, .ref z⟩, ⟨PyData.keyHash w.params (Str.ofString "ntt_f"), .str (Str.ofString "ntt_f") tq6, .int 3303 tq7⟩] 4) ∈ news) (hzz : (z, LCg.lst zs) ∈ news)
    (hd : dp + 20 < recursionLimit) (hu : un + 160 < cLine)
    (hret : ∀ (D : Addr) (us : List Value) (ms : List Int) (k : Nat) h' tk', IntsAre us ms → ms.length = 256 → Small ms → Hid2 (ms = cm zetas ns1 ns2 64) → AllLt D news → Fr h₀ L h' m → News h₀ L h' ((D, listOf us.toArray k) :: news) → Q (.ref D) { s with heap := h', toks := tk' }) :
    wpAny (model PySem.Challenge.pw_yi0004_01 w) (ktrTop dp un gd cn cs L a ccd cl outer) (call (.ref 404) [.ref x, .ref y]) Q E s := by
  have N0 := (newsCons N hc1 (newsCons N hc2 (newsCons N hx (newsCons N hdx (newsCons N hy (newsCons N hdy (newsCons N hr (newsCons N hdr (newsCons N hzz N)))))))))
  clear N hc1 hc2 hx hdx hy hdy hr hdr hzz
  refine wpAny_call ?_
  k_dflt (refine' code_def ?k1 ?k2 ?k3 ?k4 ?k5 ?kA ?kF ?kK ?k6 ?k7 ?k8 ?k9 ?kB ?_ ?c2 ?c3 ?c4 ?c5; (case kA => exact rfl); (case kF => exact rfl); (case kK => assumption); (case k1 => k_asm); (case k2 => k_asm); (case k3 => k_asm); (case k4 => k_asm); (case k5 => k_asm); (case k6 => k_is); (case k7 => k_is); (case k8 => ktr_room); (case k9 => first | exact BindsTo.of_eq rfl | exact binds_K (by k_in) rfl (by k_is) rfl rfl rfl); (case c5 => decide); (case kB => exact locs rfl); (case c2 => exact rfl); (case c3 => exact rfl); (case c4 => exact rfl); k_whole; intro g' L' h' FG' F' N' B' X' T'; (try dsimp only); (try k_lift B'); (try k_fold))
  k_steps
  (rename Fr h₀ L _ _ => kF); (rename News h₀ L _ _ => kN); (rename Hid2 _ => hH)
  refine' hret _ _ _ _ _ _ (by assumption) (by assumption) (by assumption) hH (by assumption) kF (cb_drop kN ?o4)
  case o4 => kcf_all
local macro_rules | `(tactic| walk_at "call ref") => `(tactic| (k_here; k_dflt (show wpAny _ _ (call (Value.ref _) [Value.ref _] [(PySem.Str.ofString "is_ntt", Value.bool true)]) _ _ _); k_dflt (refine' ringcallT_spec ?k1 ?k2 ?k3 ?k4 ?k5 ?kK ?ka ?kb ?kc ?kr ?kdr ?kf ?kg ?_; (case k1 | k2 | k3 | k4 | k5 => k_asm); (case kK => first | exact rfl | assumption); (case kr | kdr | kc => k_mem); (case ka | kb => assumption); (case kf => ktr_room); (case kg => ktr_units)); intro x9 dx9 t1 t2 h9 tk9 l1 l2 F9 N9; (try k_lt l1); (try dsimp only [PySem.W.CmpBack]); (try dsimp only); (try k_fold); (try k_sweep)))
local macro_rules | `(tactic| walk_at "call ref") => `(tactic| (k_here; (with_reducible show wpAny _ _ (call (Value.ref 404) _) _ _ _); k_dflt (refine' nttmul_spec ?k1 ?k2 ?k3 ?k4 ?k5 ?kK ?ka ?kb ?kc ?kd ?ke ?kp ?kq ?kc1 ?kc2 ?kx ?kdx ?ky ?kdy ?kr ?kdr ?kz ?kf ?kg ?_; (case k1 | k2 | k3 | k4 | k5 => k_asm); (case kK => first | exact rfl | assumption); (case kx | kdx | ky | kdy | kr | kdr | kz | kc1 | kc2 => k_mem); (case ka | kb | kc | kd | ke | kp | kq => assumption); (case kf => ktr_room); (case kg => ktr_units)); intro D9 us9 ms9 k9 h9 tk9 hI9 hL9 hS9 hH9 l1 F9 N9; (try k_lt l1); (try dsimp only [PySem.W.CmpBack]); (try dsimp only); (try k_fold); (try k_sweep)))
theorem mul_spec {w : World} {p : Program} {loose : List Str} {mean : ExcName → Option Value} {mg mb : Str → Option Value}
    {dp un : Nat} {gd : Option (List Code)} {cn : Str} {cs : Scope} {a : Addr} {ccd : Value} {cl : List (Str × Addr)} {outer : List Env} {A₀ : Around} {base h₀ : Heap} {L : Addr} {m : Str → Option Value} {news : List (Addr × Obj)} {s : Shared} {Q E : Value → Shared → Prop}
    {x dx y dy r dr r2 z c1 c2 : Addr} {tp1 tp2 ty1 ty2 tq1 tq2 tq3 tq4 tq5 tq6 tq7 : Tok} {vs1 vs2 zs : List Value} {ns1 ns2 : List Int} {n1 n2 : Nat}
    (B : Below A₀ base outer h₀) (F : Fr h₀ L s.heap m) (X : (Mine.hd.heap_1 w.params).In h₀) (N : News h₀ L s.heap news) (T : Top p loose mean mg mb h₀) (hk : cs.kind = .function)
    (hs1 : IntsAre vs1 ns1) (hs2 : IntsAre vs2 ns2) (hz : IntsAre zs zetas) (hl1 : ns1.length = 256) (hl2 : ns2.length = 256) (hm1 : Small ns1) (hm2 : Small ns2)
    (hc1 : (c1, listOf vs1.toArray n1) ∈ news) (hc2 : (c2, listOf vs2.toArray n2) ∈ news) (hx : (x, instObj 426 dx) ∈ news) (hdx : (dx, dictOf [⟨PyData.keyHash w.params (Str.ofString "parent"), .str (Str.ofString "parent") tp1, .ref r⟩, ⟨PyData.keyHash w.params (Str.ofString "coeffs"), .str (Str.ofString "coeffs") tp2, .ref c1⟩] 2) ∈ news) (hy : (y, instObj 426 dy) ∈ news) (hdy : (dy, dictOf [⟨PyData.keyHash w.params (Str.ofString "parent"), .str (Str.ofString "parent") ty1, .ref r2⟩, ⟨PyData.keyHash w.params (Str.ofString "coeffs"), .str (Str.ofString "coeffs") ty2, .ref c2⟩] 2) ∈ news) (hr : (r, instObj 282 dr) ∈ news) (hdr : (dr, dictOf [⟨PyData.keyHash w.params (Str.ofString "q"), .str (Str.ofString "q") tq1, .int 3329 tq2⟩, ⟨PyData.keyHash w.params (Str.ofString "n"), .str (Str.ofString "n") tq3, .int 256 tq4⟩, ⟨PyData.keyHash w.params (Str.ofString "ntt_zetas"), .str (Str.ofString "ntt_zetas") tq5, .ref z⟩, ⟨PyData.keyHash w.params (Str.ofString "ntt_f"), .str (Str.ofString "ntt_f") tq6, .int 3303 tq7⟩] 4) ∈ news) (hzz : (z, LCg.lst zs) ∈ news)
    (hd : dp + 30 < recursionLimit) (hu : un + 240 < cLine)
    (hret : ∀ (x' dx' D : Addr) (ta tb : Tok) (us : List Value) (ms : List Int) (k : Nat) h' tk', IntsAre us ms → ms.length = 256 → Small ms → Hid2 (ms = cm zetas ns1 ns2 64) → AllLt D news → @LT.lt Nat _ D dx' → @LT.lt Nat _ dx' x' → Fr h₀ L h' m →
      News h₀ L h' ((x', instObj 426 dx') :: (dx', dictOf [⟨PyData.keyHash w.params (Str.ofString "parent"), .str (Str.ofString "parent") ta, .ref r⟩, ⟨PyData.keyHash w.params (Str.ofString "coeffs"), .str (Str.ofString "coeffs") tb, .ref D⟩] 2) :: (D, listOf us.toArray k) :: news) → Q (.ref x') { s with heap := h', toks := tk' }) :
    wpAny (model PySem.Challenge.pw_yi0004_01 w) (ktrTop dp un gd cn cs L a ccd cl outer) (call (.ref 423) [.ref x, .ref y]) Q E s := by
  have N0 := (newsCons N hc1 (newsCons N hc2 (newsCons N hx (newsCons N hdx (newsCons N hy (newsCons N hdy (newsCons N hr (newsCons N hdr (newsCons N hzz N)))))))))
  clear N hc1 hc2 hx hdx hy hdy hr hdr hzz
  refine wpAny_call ?_
  k_dflt (refine' code_defC ?k1 ?k2 ?k3 ?k4 ?k5 ?kA ?kF ?kK ?k6 ?k7 ?k8 ?k9 ?kB ?kD ?_ ?c2 ?c3 ?c4; (case kA => exact rfl); (case kF => exact rfl); (case kK => assumption); (case k1 => k_asm); (case k2 => k_asm); (case k3 => k_asm); (case k4 => k_asm); (case k5 => k_asm); (case k6 => k_is); (case k7 => k_is); (case k8 => ktr_room); (case k9 => first | exact BindsTo.of_eq rfl | exact binds_K (by k_in) rfl (by k_is) rfl rfl rfl); (case kB => exact rfl); (case kD => decide +kernel); (case c2 => exact rfl); (case c3 => exact rfl); (case c4 => exact rfl); k_whole; intro g' L' h' tk' cells' FG' F' N' Y' B' X' T' l1; (try k_lt l1); k_cells Y'; (try simp only [List.cons_append, List.nil_append] at N'); (try dsimp only); (try k_lift B'); (try k_fold))
  k_steps
  (rename Fr h₀ L _ _ => kF); (rename News h₀ L _ _ => kN); (rename Hid2 _ => hH)
  refine' hret _ _ _ _ _ _ _ _ _ _ (by assumption) (by assumption) (by assumption) hH ?o1 ?o2 ?o3 kF (cb_drop kN ?o4)
  case o4 => kcf_all
  case o1 => assumption
  case o2 => assumption
  case o3 => assumption
end
section
section
variable {prog : Program} {w : World} {A : Around} {E : Value → Shared → Prop} {s : Shared} {env : Env} {h₀ : Heap} {body : List Stmt} {Q : Flow → Shared → Prop}
def AnyS {σ : Type} (Led : σ → List (Addr × Obj)) (ps : σ → List (Str × Value)) (P : Nat → σ → Prop) (i : Nat) (m : Str → Option Value) (nx : List (Addr × Obj)) : Prop :=
  ∃ c : σ, nx = Led c ∧ (∀ p ∈ ps c, m p.1 = some p.2) ∧ P i c
/-- a for over a list of the ledger's that no turn changes, whatever its target -/
theorem for_any {σ : Type} {l : Addr} {elts : List PySem.Expr} {k1 : Nat} {tpos : Pos} {vs : List Value} {nn : Nat} {m₀ : Str → Option Value} (Led : σ → List (Addr × Obj)) (ps : σ → List (Str × Value)) (P : Nat → σ → Prop) (c₀ : σ)
    (hh : A.handled = none) (hl : ∀ c, (l, listOf vs.toArray nn) ∈ Led c) (F : Fr h₀ env.locals s.heap m₀) (N : News h₀ env.locals s.heap (Led c₀)) (hk : ∀ p ∈ ps c₀, m₀ p.1 = some p.2) (hp : P 0 c₀)
    (turn : ∀ (c : σ) (i : Nat) v (u : Str → Option Value) h tk own, vs[i]? = some v → OwnOff own ((Led c).map (·.1)) → P i c → Fr h₀ env.locals h (kstB u (ps c)) → News h₀ env.locals h (Led c ++ own) →
      wpAny (model prog w) A (assign (.Tuple elts k1 tpos) env v) (fun _ s₂ => wpAny (model prog w) A (execs body env) (InvPostG h₀ env.locals (AnyS Led ps P (i + 1)) own { s with heap := h, toks := tk } Q) E s₂) E { s with heap := h, toks := tk })
    (done : ∀ (c : σ) (u : Str → Option Value) h tk, P vs.length c → Fr h₀ env.locals h (kstB u (ps c)) → News h₀ env.locals h (Led c) → Q .next { s with heap := h, toks := tk }) :
    wpAny (model prog w) A (pyIter (.ref l)) (fun it s₂ => TurnsAt prog w A h₀ env (.Tuple elts k1 tpos) body Q E it s₂) E s := by
  have hol : s.heap.get? l = some (listOf vs.toArray nn) := (N _ (hl c₀)).1
  have hls : s.heap.IsList l vs.toArray := ⟨_, hol, rfl, nn, rfl⟩
  have hne : l ≠ s.heap.objs.size := Nat.ne_of_lt (Heap.lt_size hol)
  refine wpAny_pyIter_list hls ?_
  have W := Walks.list (prog := prog) (w := w) hh s.heap.objs.size l hne vs.toArray
  have hlen : vs.toArray.size = vs.length := List.size_toArray
  rw [hlen] at W
  have KW := KTurns.ofWalks (target := .Tuple elts k1 tpos) W (fun i v s Q E st hQ => by
    cases v <;> first | exact wpAny_letOwnedTupleGo_listiter st.1 hQ | exact wpAny_pure hQ)
  refine ⟨_, _, _, vs.length, _, _, _, m₀, Led c₀, (fun i m nx => (∀ p ∈ nx, p.1 ≠ s.heap.objs.size) ∧ AnyS Led ps P i m nx), rfl, KW, ?_, ?_, ?_, ⟨⟨_, Heap.get?_push_size _ rfl, rfl, rfl⟩, hls.at fun o e => Heap.get?_push_of_some _ e⟩, F.push _, (fun p hp => ⟨Heap.get?_push_of_some _ (N p hp).1, (N p hp).2⟩), ⟨fun p hp => Nat.ne_of_lt (Heap.lt_size (N p hp).1), c₀, rfl, hk, hp⟩, ?_, ?_⟩
  · intro hm
    rcases List.mem_cons.mp hm with e | hm
    · exact absurd F.ns.lt (e ▸ Nat.lt_irrefl _)
    · exact (N _ (hl c₀)).2.1 ((List.mem_singleton.mp hm).symm)
  · intro b hb
    rw [List.mem_singleton.mp hb]
    exact next_is_new F
  · intro p hp hI
    exact absurd (Heap.lt_size (N p hp).1) ((List.mem_singleton.mp hI) ▸ Nat.lt_irrefl _)
  · rintro i v m₁ news₁ hh' tk' own hin hP ⟨hI, c, rfl, h1, hp'⟩ hoff hown hget hfp _ F₁ N₁
    have hsep : OwnOff (own.filter fun p => decide (p.1 = s.heap.objs.size)) ((Led c).map (·.1)) := by
      intro p hp b hb e
      obtain ⟨q, hq, rfl⟩ := List.mem_map.mp hb
      have h1 : p.1 = s.heap.objs.size := by simpa using (List.mem_filter.mp hp).2
      exact hI q hq (e ▸ h1)
    have hv : vs[i]? = some v := by simpa using hP
    have N₂ : News h₀ env.locals hh' (Led c ++ own.filter fun p => decide (p.1 = s.heap.objs.size)) := fun p hp => N₁ p ((List.mem_append.mp hp).elim (fun h => List.mem_append.mpr (.inr h)) fun h => List.mem_append.mpr (.inl ((List.mem_filter.mp h).1)))
    have hlo : hh'.get? l = some (listOf vs.toArray nn) := (N₁ _ (List.mem_append.mpr (.inr (hl c)))).1
    have em := for_em h1
    rw [← em] at F₁
    have hIown : ∃ o, (s.heap.objs.size, o) ∈ own.filter fun p => decide (p.1 = s.heap.objs.size) := by
      have hI0 : h₀.get? s.heap.objs.size = none := next_is_new F
      rename_i hst
      obtain ⟨⟨oI, hoI, _⟩, _⟩ := hst
      exact ⟨oI, List.mem_filter.mpr ⟨hfp _ (List.mem_cons.mpr (.inl rfl)) hI0 _ hoI, by simp⟩⟩
    refine wpAny_mono (turn c i v m₁ hh' tk' _ hv hsep hp' F₁ N₂) (fun _ s₂ hq => wpAny_mono hq (fun f s₃ p => ?_) fun _ _ e => e) fun _ _ e => e
    have fin : InvEndG h₀ env.locals (AnyS Led ps P (i + 1)) (own.filter fun p => decide (p.1 = s.heap.objs.size)) { s with heap := hh', toks := tk' } s₃ →
        LoopStepU h₀ env.locals [s.heap.objs.size] own (fun m nx => (∀ p ∈ nx, p.1 ≠ s.heap.objs.size) ∧ AnyS Led ps P (i + 1) m nx) { s with heap := hh', toks := tk' } .next s₃ := by
      rintro ⟨h', tk, m', news', nx, e, F', N', hn, ho, ha, hm⟩
      have hI' : ∀ p ∈ nx, p.1 ≠ s.heap.objs.size := fun p hp e => by
        obtain ⟨o, hm⟩ := hIown
        exact ha _ hm p.1 (List.mem_map.mpr ⟨p, hp, rfl⟩) e.symm
      refine ⟨rfl, h', tk, m', nx, e, F', fun p hp => ?_, fun p hp hI => hI' p hp (List.mem_singleton.mp hI), hI', hm⟩
      rcases List.mem_append.mp hp with h | h
      · by_cases hI : p.1 = s.heap.objs.size
        · exact N' p (ho p (List.mem_filter.mpr ⟨h, by simpa using hI⟩))
        · have h1 : p.1 = l := by
            rcases List.mem_cons.mp (hown p h) with h2 | h2
            · exact absurd h2 hI
            · exact List.mem_singleton.mp h2
          have h2 : hh'.get? p.1 = some p.2 := hget p h
          rw [h1, hlo] at h2
          have h3 : p = (l, listOf vs.toArray nn) := Prod.ext h1 (Option.some.inj h2).symm
          obtain ⟨c', rfl, _⟩ := hm
          rw [h3]
          exact N' _ (hn _ (hl c'))
      · exact N' p (hn p h)
    cases f with
    | ret v => exact .ret p
    | brk => exact .brk p
    | next => exact .next (fin p)
    | cont => exact .cont (fin p)
  · rintro h' tk m' news' F' N' _ ⟨_, c, rfl, h1, hp'⟩
    have em := for_em h1
    rw [← em] at F'
    exact done c m' h' tk hp' F' N'
theorem any_end {σ : Type} {Led : σ → List (Addr × Obj)} {ps : σ → List (Str × Value)} {P : Nat → σ → Prop} {i : Nat} (c : σ) {L : Addr} {m' : Str → Option Value} {own news' : List (Addr × Obj)} {s₁ : Shared} {h' : Heap} {tk : Nat}
    (F : Fr h₀ L h' m') (N : News h₀ L h' news') (hn : ∀ p ∈ Led c, p ∈ news') (ho : ∀ p ∈ own, p ∈ news') (ha : OwnOff own ((Led c).map (·.1))) (hk : ∀ p ∈ ps c, m' p.1 = some p.2) (hp : P i c) :
    InvEndG h₀ L (AnyS Led ps P i) own s₁ { s₁ with heap := h', toks := tk } :=
  InvEndG.intro F N ⟨c, rfl, hk, hp⟩ ha hn ho
end
end
section
section
open PySem.Calls PyProof.Rows.LCg PyProof.Rows.LCp
variable {prog : Program} {w : World} {A : Around} {E : Value → Shared → Prop} {s : Shared} {h₀ : Heap} {L : Addr} {m : Str → Option Value} {env : Env}
def ZipGo (prog : Program) (w : World) (A : Around) (E : Value → Shared → Prop) (env : Env) (cl : List (Str × Addr)) (e : PySem.Expr) (scope : Scope) (use : Value → Sem Unit) (Q : Value → Shared → Prop) (xv : Value) (s₁ : Shared) : Prop :=
  wpAny (model prog w) A (pyIter xv) (fun it s₂ => wpAny (model prog w) A (newList []) (fun acc s₃ => wpAny (model prog w) A (newFunctionEnv scope env.globals cl [] env.qual none .none (some env)) (fun cenv s₄ =>
    codeAny (model prog w) A (.compStart e 0 it acc { cenv with scope := relabel scope env }) (compPost (model prog w) A E (some use) Q acc cenv.locals) s₄) E s₃) E s₂) E s₁
theorem Assign_ListComp_Z {elt iter : PySem.Expr} {x x₂ y : Str} {px px₂ tp py : Pos} {tk} {scope : Scope} {cl : List (Str × Addr)} {pos spos : Pos} {Q : Flow → Shared → Prop} (F₀ : Fr h₀ L s.heap m) (hLe : env.locals = L)
    (hsw : swapsWith (.ListComp elt [⟨.Tuple [.Name x px, .Name x₂ px₂] tk tp, iter, [], 0⟩] scope pos) (some (.Name y py)) spos.line env = pure true)
    (hclos : closureFor scope env = pure cl) (hkind : scope.kind = .function)
    (hnames : ∀ z ∈ scope.names, z.2 = .local → scope.names.lookup z.1 = some .local)
    (h : wpAny (model prog w) A (eval iter env) (ZipGo prog w A E env cl (.ListComp elt [⟨.Tuple [.Name x px, .Name x₂ px₂] tk tp, iter, [], 0⟩] scope pos) scope (assign (.Name y py) env) (fun _ s' => Q .next s')) E s)
    (hs : ∀ x, foldedSetIterable iter env x = pure x := by intro _; rfl) :
    wpAny (model prog w) A (exec (.Assign [.Name y py] (.ListComp elt [⟨.Tuple [.Name x px, .Name x₂ px₂] tk tp, iter, [], 0⟩] scope pos) spos) env) Q E s := by
  subst hLe
  rw [exec_Assign_Name_used _ _ _ _ hsw]
  refine wpAny_bind (wpAny_standAt (wpAny_bind ?_))
  show wpAny _ A (do let _ ← comprehension (.ListComp elt [⟨.Tuple [.Name x px, .Name x₂ px₂] tk tp, iter, [], 0⟩] scope pos) scope env _ (newList []) false (eval iter env) (some (assign (.Name y py) env))) _ _ s
  exact wpAny_bind (wpAny_mono (wpAny_comprehension_free (use := some (assign (.Name y py) env)) (Q := fun _ s' => Q .next s') rfl hs hclos hkind hnames
    (wpAny_mono h (fun xv s₁ h₁ => h₁) fun _ _ e => e)) (fun _ s' hq => wpAny_pure (wpAny_pure hq)) fun _ _ e => e)

theorem block_Z {elt iter : PySem.Expr} {x x₂ : Str} {px px₂ tp : Pos} {tk} {scope : Scope} {cl : List (Str × Addr)} {pos : Pos} {s₂ : Shared} {I : Addr} {fp wr : List Addr} {n : Nat} {Md : Nat → Value → Heap → Prop} {St : Nat → Heap → Prop} {news : List (Addr × Obj)}
    {xs ys : List Value} {ns ms : List Int} (f : Int → Int → Int) (hi : IntsAre xs ns) (hj : IntsAre ys ms) (hn : n = min ns.length ms.length)
    {RR : Value → Addr → Result → Shared → Prop}
    (W : KTurns prog w A (.Tuple [.Name x px, .Name x₂ px₂] tk tp) I fp wr n (fun i v h => ∃ T vals, v = .ref T ∧ (∃ a b, xs.toArray[i]? = some a ∧ ys.toArray[i]? = some b ∧ vals = #[a, b]) ∧ h.IsTuple T vals) Md St)
    (hself : ∀ (s : Shared) (Q : Value → Shared → Prop) (E : Value → Shared → Prop), St 0 s.heap → Q (.ref I) s → wpAny (model prog w) A (pyIter (.ref I)) Q E s)
    (hsz : n ≤ sizeLine)
    (hcell : ∀ y ∈ scope.names, y.2 ≠ .cell) (hkind : scope.kind = .function) (hx : scope.names.lookup x = some .local) (hx₂ : scope.names.lookup x₂ = some .local) (hxx : x ≠ x₂) (hh : A.handled = none) (hst : St 0 s₂.heap) (hfp : ∀ b ∈ fp, b < s₂.heap.objs.size)
    (F : Fr h₀ L s₂.heap m) (N : News h₀ L s₂.heap news) (hLf : L ∉ fp) (hwr : ∀ b ∈ wr, h₀.get? b = none) (off : ∀ p ∈ news, p.1 ∉ wr)
    (turn : ∀ a ta b tb C oC D us m₂ h tk (E' : Value → Shared → Prop), a ∈ ns → b ∈ ms → NsObj oC m₂ → m₂ x = some (.int a ta) → m₂ x₂ = some (.int b tb) → Fr h₀ L h m → News h₀ L h ((C, oC) :: (D, lst us) :: news) →
      wpAny (model prog w) A (eval elt (compEnvC scope cl C env)) (fun v s' => ∃ t tk', v = .int (f a b) t ∧ s' = { s₂ with heap := h, toks := tk' }) E' { s₂ with heap := h, toks := tk })
    (hRR : ∀ D C h tk m' us, Fr h₀ L h m → News h₀ L h ((D, lst us) :: news) → AllLt D news → h.Ns C m' → h₀.get? C = none → h₀.get? D = none → C ≠ L → D ≠ L → C ≠ D → (∀ p ∈ news, p.1 ≠ C) → IntsAre us (List.zipWith f ns ms) → RR (.ref D) C (.ok .next) { s₂ with heap := h, toks := tk }) :
    wpAny (model prog w) A (newList []) (fun acc s₃ => wpAny (model prog w) A (newFunctionEnv scope env.globals cl [] env.qual none .none (some env)) (fun cenv s₄ =>
      codeAny (model prog w) A (.compStart (.ListComp elt [⟨.Tuple [.Name x px, .Name x₂ px₂] tk tp, iter, [], 0⟩] scope pos) 0 (.ref I) acc { cenv with scope := relabel scope env }) (RR acc cenv.locals) s₄) E s₃) E s₂ := by
  refine wpAny_newObj_type (wpAny_newFunctionEnv hcell (by intro y hy; simp at hy) (fun h₁ hns₁ hsb₁ => ?_) hkind)
  dsimp only at hns₁ hsb₁ ⊢
  generalize hH2 : s₂.heap.push { cls := .type "list", dict := none, data := .seq ([] : List Value).toArray } = H2 at hns₁ hsb₁ ⊢
  have hC : H2.objs.size = s₂.heap.objs.size + 1 := by rw [← hH2, Heap.size_push]
  have hDC : s₂.heap.objs.size ≠ H2.objs.size := by rw [hC]; exact Nat.ne_of_lt (Nat.lt_succ_self _)
  have below : ∀ b, b < s₂.heap.objs.size → b ≠ H2.objs.size ∧ b ≠ s₂.heap.objs.size := fun b hb => ⟨by rw [hC]; exact Nat.ne_of_lt (Nat.lt_succ_of_lt hb), Nat.ne_of_lt hb⟩
  have hDf : s₂.heap.objs.size ∉ fp := fun hm => Nat.lt_irrefl _ (hfp _ hm)
  have hCf : H2.objs.size ∉ fp := fun hm => by have := hfp _ hm; rw [hC] at this; exact Nat.lt_irrefl _ (Nat.lt_of_succ_lt this)
  have old : ∀ b o, s₂.heap.get? b = some o → h₁.get? b = some o := fun b o e => hsb₁.extBut b o (below b (Heap.lt_size e)).1 (Heap.get?_push_of_some _ (hH2 ▸ Heap.get?_push_of_some _ e))
  have hacc : h₁.get? s₂.heap.objs.size = some (lst []) := hsb₁.extBut _ _ hDC (Heap.get?_push_of_some _ (hH2 ▸ Heap.get?_push_size _ rfl))
  have hst₁ : St 0 h₁ := W.frame _ _ _ hst fun b _ o e => old b o e
  have fresh : ∀ a, s₂.heap.objs.size ≤ a → s₂.heap.get? a = none := fun a ha => by
    cases e : s₂.heap.get? a with
    | none => rfl
    | some o' => exact absurd (Heap.lt_size e) (Nat.not_lt.mpr ha)
  have fresh₀ : ∀ a, s₂.heap.objs.size ≤ a → h₀.get? a = none := fun a ha => by
    cases e : h₀.get? a with
    | none => rfl
    | some o' => have := F.keep a o' e; rw [fresh a ha] at this; cases this
  have hD₀ : h₀.get? s₂.heap.objs.size = none := fresh₀ _ (Nat.le_refl _)
  have hC₀ : h₀.get? H2.objs.size = none := fresh₀ _ (by rw [hC]; exact Nat.le_succ _)
  have hLlt : L < s₂.heap.objs.size := F.ns.lt
  have hDL : s₂.heap.objs.size ≠ L := Ne.symm (below L hLlt).2
  have hCL : H2.objs.size ≠ L := Ne.symm (below L hLlt).1
  have hLw : L ∉ wr := fun h => hLf (W.sub _ h)
  have hDw : s₂.heap.objs.size ∉ wr := fun h => hDf (W.sub _ h)
  have hCw : H2.objs.size ∉ wr := fun h => hCf (W.sub _ h)
  have newsD : ∀ p ∈ news, p.1 < s₂.heap.objs.size := fun p hp => Heap.lt_size (N p hp).1
  have newsC : ∀ p ∈ news, p.1 ≠ H2.objs.size := fun p hp => (below _ (newsD p hp)).1
  have newsDn : ∀ p ∈ news, p.1 ≠ s₂.heap.objs.size := fun p hp => (below _ (newsD p hp)).2
  have frb : ∀ {g g' : Heap}, Fr h₀ L g m → (∀ b o, b ∉ wr → g.get? b = some o → g'.get? b = some o) → Fr h₀ L g' m := fun {g g'} F hk =>
    ⟨F.ns.at' fun o e => hk L o hLw e, fun b o e => hk b o (fun hm => by rw [hwr b hm] at e; cases e) (F.keep b o e), F.above⟩
  have loop : ∀ s₃ : Shared, s₃ = { s₂ with heap := h₁, toks := s₂.toks + ([] : List (Str × Value)).length } →
      codeAny (model prog w) A (.compLoop (.ListComp elt [⟨.Tuple [.Name x px, .Name x₂ px₂] tk tp, iter, [], 0⟩] scope pos) 0 (.ref I) (.ref s₂.heap.objs.size) (compEnvC scope cl H2.objs.size env))
        (RR (.ref s₂.heap.objs.size) H2.objs.size) s₃ := by
    rintro s₃ rfl
    refine codeAny_compLoop_pair
      (fun k s' => ∃ h' tk i us m', s' = { s₂ with heap := h', toks := tk } ∧ i ≤ n ∧ k = n + 1 - i ∧ us.length = i ∧ St i h' ∧ Fr h₀ L h' m ∧ h'.Ns H2.objs.size m' ∧ News h₀ L h' ((s₂.heap.objs.size, lst us) :: news) ∧
        IntsAre us ((List.zipWith f ns ms).take i)) ?_ (n + 1)
      ⟨h₁, _, 0, [], _, rfl, Nat.zero_le _, rfl, rfl, hst₁, F.keeps old, hns₁, fun p hp => ?_, by simpa using IntsAre.nil⟩
    · rintro k s' ⟨h', tk, i, us, m', rfl, hi', rfl, hyl, hst', F', hn', N', hI'⟩
      have nk : ∀ {g g' : Heap} {us : List Value}, News h₀ L g ((s₂.heap.objs.size, lst us) :: news) → (∀ b o, b ∉ wr → g.get? b = some o → g'.get? b = some o) → News h₀ L g' ((s₂.heap.objs.size, lst us) :: news) := fun {g g' us} N hk p hp => by
        refine ⟨hk _ _ ?_ (N p hp).1, (N p hp).2⟩
        rcases List.mem_cons.mp hp with rfl | hp
        · exact hDw
        · exact off p hp
      by_cases hlt : i < n
      · refine W.item i _ _ _ hlt hst' fun v h₂ tk₂ hMd hk₂ => ?_
        refine W.go i v _ _ _ hMd fun h₃ hP hst₃ hk₃ => ?_
        obtain ⟨T, vals, rfl, ⟨va, vb, hva, hvb, rfl⟩, hT⟩ := hP
        obtain ⟨a, ta, rfl, ha⟩ := IntsAre.at hi i va (by simpa using hva)
        obtain ⟨b, tb, rfl, hb⟩ := IntsAre.at hj i vb (by simpa using hvb)
        have hk13 : ∀ b o, b ∉ wr → h'.get? b = some o → h₃.get? b = some o := fun b o hb e => hk₃ b o hb (hk₂ b o hb e)
        have N₃ := nk N' hk13
        have F₃ := frb F' hk13
        have hn₃ := hn'.at' fun o e => hk13 _ o hCw e
        refine assign_Tuple_tuple hh hT rfl rfl fun h₅ he => ?_
        have he' : ∀ b o, h₃.get? b = some o → h₅.get? b = some o := fun b o e => he b o (Nat.ne_of_lt (Heap.lt_size e)) e
        refine assignInOrder_cons (wpAny_assign_Name (wpAny_storeName_local (lookup_relabel_local hx) (hn₃.at' fun o e => he' _ o e) (fun h₆ hn₆ hs₆ => ?_) (by simp [compEnvC, relabel, hkind])))
        refine assignInOrder_cons (wpAny_assign_Name (wpAny_storeName_local (lookup_relabel_local hx₂) hn₆ (fun h₇ hn₇ hs₇ => ?_) (by simp [compEnvC, relabel, hkind])))
        refine assignInOrder_nil ?_
        have old7 : ∀ b o, b ≠ H2.objs.size → h₃.get? b = some o → h₇.get? b = some o := fun b o hb e => hs₇.extBut b o hb (hs₆.extBut b o hb (he' b o e))
        have hst₇ : St (i + 1) h₇ := W.frame _ _ _ hst₃ fun b hb o e => old7 b o (fun q => hCf (by rw [← q]; exact hb)) e
        obtain ⟨oC, heC, hoC⟩ := ns_obj hn₇
        have F₇ : Fr h₀ L h₇ m := ((F₃.keeps he').change hs₆ hCL hC₀).change hs₇ hCL hC₀
        have N₇ : News h₀ L h₇ ((s₂.heap.objs.size, lst us) :: news) := fun p hp => by
          refine ⟨old7 _ _ ?_ (N₃ p hp).1, (N₃ p hp).2⟩
          rcases List.mem_cons.mp hp with rfl | hp
          · exact hDC
          · exact newsC p hp
        have N₇' : News h₀ L h₇ ((H2.objs.size, oC) :: (s₂.heap.objs.size, lst us) :: news) := fun p hp => by
          rcases List.mem_cons.mp hp with rfl | hp
          · exact ⟨heC, hCL, hC₀⟩
          · exact N₇ p hp
        have hma : a ∈ ns := List.mem_of_getElem? ha
        have hmb : b ∈ ms := List.mem_of_getElem? hb
        refine wpAny_mono (turn a ta b tb H2.objs.size oC s₂.heap.objs.size us _ h₇ _ _ hma hmb hoC (by simp [hxx]) (by simp) F₇ N₇') (fun y s₄ h₄ => ?_) fun _ _ e => e
        obtain ⟨t, tk₄, rfl, rfl⟩ := h₄
        have zD := (N₇ (s₂.heap.objs.size, lst us) List.mem_cons_self).1
        refine append_at (hsz := by show us.toArray.size ≤ sizeLine; rw [List.size_toArray, hyl]; exact Nat.le_trans hi' hsz) zD fun h₈ hs₈ hD₈ => ?_
        refine ⟨n + 1 - (i + 1), by omega, h₈, tk₄, i + 1, us ++ [.int (f a b) t], _, rfl, hlt, rfl, by rw [List.length_append, List.length_singleton, hyl], W.frame _ _ _ hst₇ fun b hb o e => hs₈.extBut b o (fun q => hDf (q ▸ hb)) e, F₇.change hs₈ hDL hD₀,
          hn₇.sameBut hs₈ (Ne.symm hDC), fun p hp => ?_, ?_⟩
        · rcases List.mem_cons.mp hp with rfl | hp
          · exact ⟨hD₈.trans (congrArg some (lst_snoc us _)), hDL, hD₀⟩
          · exact ⟨hs₈.extBut _ _ (newsDn p hp) (N₇ p (List.mem_cons_of_mem _ hp)).1, (N p hp).2⟩
        · have hz : (List.zipWith f ns ms)[i]? = some (f a b) := by simp [List.getElem?_zipWith, ha, hb]
          rw [List.take_add_one, hz]
          simpa using IntsAre.append hI' (.cons (f a b) t .nil)
      · obtain rfl : i = n := Nat.le_antisymm hi' (Nat.not_lt.mp hlt)
        refine W.done _ _ _ hst' fun h₂ tk₂ hk₂ => ?_
        have hfull : (List.zipWith f ns ms).take i = List.zipWith f ns ms := List.take_of_length_le (by rw [List.length_zipWith, hn]; exact Nat.le_refl _)
        exact hRR _ _ h₂ tk₂ _ us (frb F' hk₂) (nk N' hk₂) (allLt_of newsD) (hn'.at' fun o e => hk₂ _ o hCw e) hC₀ hD₀ hCL hDL (Ne.symm hDC) newsC (hfull ▸ hI')
    · rcases List.mem_cons.mp hp with rfl | hp
      · exact ⟨hacc, hDL, hD₀⟩
      · exact ⟨old _ _ (N p hp).1, (N p hp).2⟩
  exact codeAny_compStart_list (loop _ rfl) (hself _ _ _ hst₁ (loop _ rfl))

theorem zip_call {elt iter : PySem.Expr} {x x₂ y : Str} {px px₂ tp py : Pos} {tk} {scope : Scope} {cl : List (Str × Addr)} {pos : Pos} {news : List (Addr × Obj)} {l1 l2 : Addr} {k1 k2 : Nat} {Q : Value → Shared → Prop}
    {xs ys : List Value} {ns ms : List Int} (f : Int → Int → Int) (hLe : env.locals = L) (hh : A.handled = none) (F : Fr h₀ L s.heap m) (N : News h₀ L s.heap news)
    (hm1 : (l1, listOf xs.toArray k1) ∈ news) (hm2 : (l2, listOf ys.toArray k2) ∈ news) (hi : IntsAre xs ns) (hj : IntsAre ys ms) (hsz : ns.length ≤ sizeLine)
    (hcell : ∀ y ∈ scope.names, y.2 ≠ .cell) (hkind : scope.kind = .function) (hx : scope.names.lookup x = some .local) (hx₂ : scope.names.lookup x₂ = some .local) (hxx : x ≠ x₂)
    (hy : env.kindOf y = some .local) (hp : (env.scope.kind == .class || (env.scope.kind == .module && env.locals != env.globals)) = false)
    (turn : ∀ a ta b tb C oC D us m₂ g tk h (E' : Value → Shared → Prop), a ∈ ns → b ∈ ms → NsObj oC m₂ → m₂ x = some (.int a ta) → m₂ x₂ = some (.int b tb) → Fr h₀ L h m → News h₀ L h ((C, oC) :: (D, lst us) :: news) →
      wpAny (model prog w) A (eval elt (compEnvC scope cl C env)) (fun v s' => ∃ t tk', v = .int (f a b) t ∧ s' = { ({ s with heap := g } : Shared) with heap := h, toks := tk' }) E' { ({ s with heap := g } : Shared) with heap := h, toks := tk })
    (fin : ∀ D us h tk, Fr h₀ L h (fun z => if z = y then some (.ref D) else m z) → News h₀ L h ((D, lst us) :: news) → AllLt D news → IntsAre us (List.zipWith f ns ms) → Q .none { s with heap := h, toks := tk }) :
    wpAny (model prog w) A (call (.type "zip") [.ref l1, .ref l2]) (ZipGo prog w A E env cl (.ListComp elt [⟨.Tuple [.Name x px, .Name x₂ px₂] tk tp, iter, [], 0⟩] scope pos) scope (assign (.Name y py) env) Q) E s := by
  subst hLe
  have hax1 := N _ hm1
  have hax2 := N _ hm2
  have hl1 : s.heap.IsList l1 xs.toArray := ⟨_, hax1.1, rfl, k1, rfl⟩
  have hl2 : s.heap.IsList l2 ys.toArray := ⟨_, hax2.1, rfl, k2, rfl⟩
  have hlt1 : l1 < s.heap.objs.size := Heap.lt_size hax1.1
  have hlt2 : l2 < s.heap.objs.size := Heap.lt_size hax2.1
  have hLs : env.locals < s.heap.objs.size := F.ns.lt
  have D : ZipApart (s.heap.objs.size + 4) (s.heap.objs.size + 2) (s.heap.objs.size + 3) s.heap.objs.size (s.heap.objs.size + 1) l1 l2 := ktu_apart _ _ _ hlt1 hlt2
  refine call_zip_2 hl1 hl2 fun h' hz hTI hTO hi1 hi2 hsz' hk => ?_
  unfold ZipGo
  refine wpAny_pyIter_zip hz ?_
  have WU := (WalksT.zip2 (prog := prog) (w := w) hh _ _ _ _ _ _ _ D xs.toArray ys.toArray).toU
  refine block_Z f hi hj (by simp [hi.length, hj.length]) (KTurns.ofWalksU WU) (WU.self 0) ?_ hcell hkind hx hx₂ hxx hh ⟨hz, hTI, ⟨_, _, hTO⟩, hi1, hi2, hl1.at fun o e => hk l1 o e, hl2.at fun o e => hk l2 o e⟩ ?_ (F.keeps hk) (N.grown hk) ?_ ?_ ?_ (fun a ta b tb C oC D us m₂ h tk E' ha hb h1 h2 h3 h4 h5 => turn a ta b tb C oC D us m₂ h' tk h E' ha hb h1 h2 h3 h4 h5) ?_
  · have := hi.length
    simp only [List.size_toArray]
    omega
  · intro b hb
    have hb' : b = s.heap.objs.size + 4 ∨ b = s.heap.objs.size + 2 ∨ b = s.heap.objs.size + 3 ∨ b = s.heap.objs.size ∨ b = s.heap.objs.size + 1 ∨ b = l1 ∨ b = l2 := by simpa using hb
    show b < h'.objs.size
    rw [hsz']
    have hlt1' : @LT.lt Nat _ l1 s.heap.objs.size := hlt1
    have hlt2' : @LT.lt Nat _ l2 s.heap.objs.size := hlt2
    show @LT.lt Nat _ b _
    rcases hb' with rfl | rfl | rfl | rfl | rfl | rfl | rfl <;> omega
  · intro hI'
    have hb' : env.locals = s.heap.objs.size + 4 ∨ env.locals = s.heap.objs.size + 2 ∨ env.locals = s.heap.objs.size + 3 ∨ env.locals = s.heap.objs.size ∨ env.locals = s.heap.objs.size + 1 ∨ env.locals = l1 ∨ env.locals = l2 := by simpa using hI'
    have n1 := hax1.2.1
    have n2 := hax2.2.1
    rcases hb' with e | e | e | e | e | e | e
    · exact ktu_ne 4 hLs e
    · exact ktu_ne 2 hLs e
    · exact ktu_ne 3 hLs e
    · exact Nat.ne_of_lt hLs e
    · exact ktu_ne 1 hLs e
    · exact n1 e.symm
    · exact n2 e.symm
  · intro b hb
    have hb' : b = s.heap.objs.size + 4 ∨ b = s.heap.objs.size + 3 ∨ b = s.heap.objs.size ∨ b = s.heap.objs.size + 1 := by simpa using hb
    rcases hb' with rfl | rfl | rfl | rfl <;> first | exact ktu_new F (Nat.le_refl _) | exact ktu_new F (Nat.le_add_right _ _)
  · intro p hp hI'
    have hb' : p.1 = s.heap.objs.size + 4 ∨ p.1 = s.heap.objs.size + 3 ∨ p.1 = s.heap.objs.size ∨ p.1 = s.heap.objs.size + 1 := by simpa using hI'
    have hlp := Heap.lt_size (N p hp).1
    rcases hb' with e | e | e | e
    · exact ktu_ne 4 hlp e
    · exact ktu_ne 3 hlp e
    · exact Nat.ne_of_lt hlp e
    · exact ktu_ne 1 hlp e
  · intro D C g tk' m' us F' N' hlt hn hC₀ hD₀ hCL hDL hCD offC hI
    show wpAny _ A (assign (.Name y py) env (.ref D)) _ _ _
    refine wpAny_assign_Name (wpAny_storeName_local hy F'.ns (fun h₂ hn₂ hs₂ => ?_) hp)
    have hL₀ : h₀.get? env.locals = none := Heap.get?_none_of_le F'.above
    have F₂ : Fr h₀ env.locals h₂ (fun z => if z = y then some (.ref D) else m z) := ⟨hn₂, fun b o e => hs₂.extBut b o (fun q => by rw [q, hL₀] at e; cases e) (F'.keep b o e), F'.above⟩
    refine ⟨m', hn.sameBut hs₂ hCL, fun h'' hs'' => fin D us h'' _ (F₂.change hs'' hCL hC₀) (fun p hp => ?_) hlt hI⟩
    have z : h₂.get? p.1 = some p.2 := hs₂.extBut _ _ (N' p hp).2.1 (N' p hp).1
    refine ⟨hs''.extBut _ _ ?_ z, (N' p hp).2⟩
    rcases List.mem_cons.mp hp with rfl | hp
    · exact Ne.symm hCD
    · exact offC p hp
end
end
section
theorem pad7 : True := by (w_top off); trivial
inductive TermsAre (news : List (Addr × Obj)) : List Value → List (Int × Int) → Prop
  | nil : TermsAre news [] []
  | cons {t : Addr} {p q : Int} {tp tq : Tok} {k : Nat} {vs : List Value} {ts : List (Int × Int)} : (t, ({ cls := .type "tuple", data := .seq #[.int p tp, .int q tq] k } : Obj)) ∈ news → 0 ≤ p → p < 256 → TermsAre news vs ts → TermsAre news (.ref t :: vs) ((p, q) :: ts)
theorem TermsAre.length {news : List (Addr × Obj)} {vs : List Value} {ts : List (Int × Int)} (h : TermsAre news vs ts) : vs.length = ts.length := by
  induction h with
  | nil => rfl
  | cons _ _ _ _ ih => simp [ih]
theorem TermsAre.at {news : List (Addr × Obj)} {vs : List Value} {ts : List (Int × Int)} (h : TermsAre news vs ts) : ∀ (i : Nat) (v : Value), vs[i]? = some v → ∃ t p q tp tq k, v = .ref t ∧ ts[i]? = some (p, q) ∧ (t, ({ cls := .type "tuple", data := .seq #[.int p tp, .int q tq] k } : Obj)) ∈ news ∧ 0 ≤ p ∧ p < 256 := by
  induction h with
  | nil => intro i v h; simp at h
  | @cons t p q tp tq k vs ts hm h0 h1 _ ih =>
    intro i v hv
    cases i with
    | zero => simp at hv; exact ⟨t, p, q, tp, tq, k, hv.symm, by simp, hm, h0, h1⟩
    | succ i => simpa using ih i v (by simpa using hv)
/-! what the law's own sum reckons -/
def turned (row : List Int) (p : Nat) : List Int := (row.drop (256 - p)).map (fun x => -x) ++ row.take (256 - p)
def addTo (out : List Int) (q : Int) (y : List Int) : List Int := List.zipWith (fun a b => a + q * b) out y
def plainGo (row : List Int) (out : List Int) : List (Int × Int) → List Int
  | [] => out
  | (p, q) :: r => plainGo row (addTo out q (turned row p.toNat)) r
def plainOf (row : List Int) (ts : List (Int × Int)) : List Int := (plainGo row (List.replicate 256 0) ts).map fun x => x.fmod 3329
theorem plainGo_snoc (row : List Int) (p q : Int) : ∀ (ts : List (Int × Int)) (out : List Int), plainGo row out (ts ++ (some (p, q)).toList) = addTo (plainGo row out ts) q (turned row p.toNat)
  | [], _ => rfl
  | (a, b) :: r, out => plainGo_snoc row p q r _
local macro_rules | `(tactic| walk_at "exec For Tuple Name cons nil") => `(tactic| refine stop ?_)
local macro_rules | `(tactic| walk_at "binaryOp Add ref ref") => `(tactic| refine stop ?_)
local macro_rules | `(tactic| walk_at "subscriptTail Name Slice ref ref") => `(tactic| refine stop ?_)
local macro_rules | `(tactic| walk_at "CompSrc") => `(tactic| refine stop ?_)
local macro_rules | `(tactic| walk_at "eval ListComp") => `(tactic| (k_here; k_dflt (refine LCg.ListComp_U (F₀ := by k_asm) (by with_unfolding_all rfl) (by decide) (by rfl) (by decide) (by rfl) ?_)))
local macro_rules | `(tactic| walk_at "exec Assign cons ListComp") => `(tactic| (k_here; k_dflt (refine Assign_ListComp_Z (F₀ := by k_asm) (by rfl) (by with_unfolding_all rfl) (by with_unfolding_all rfl) (by rfl) (by decide) ?_)))
local macro_rules | `(tactic| walk_at "call type:zip") => `(tactic| refine stop ?_)
local macro_rules | `(tactic| mul_fits) => `(tactic| assumption)
theorem plain_core {w : World} {p : Program} {loose : List Str} {mean : ExcName → Option Value} {mg mb : Str → Option Value}
    {dp un : Nat} {gd : Option (List Code)} {cn : Str} {cs : Scope} {a : Addr} {ccd : Value} {cl : List (Str × Addr)} {outer : List Env} {A₀ : Around} {base h₀ : Heap} {L : Addr} {m : Str → Option Value} {news : List (Addr × Obj)} {s : Shared} {Q E : Value → Shared → Prop}
    (cr ct : Addr) (vs tvs : List Value) (ns : List Int) (ts : List (Int × Int)) (n nt : Nat)
    (B : Below A₀ base outer h₀) (F : Fr h₀ L s.heap m) (X : (Mine.hd.heap_1 w.params).In h₀) (T : Top p loose mean mg mb h₀) (hk : cs.kind = .function)
    (hs : IntsAre vs ns) (hl : ns.length = 256) (ht : TermsAre news tvs ts)
    (N : News h₀ L s.heap ((cr, listOf vs.toArray n) :: (ct, listOf tvs.toArray nt) :: news))
    (hd : dp + 10 < recursionLimit) (hu : un + 80 < cLine)
    (hM : ∀ pq ∈ ts, ∀ x ∈ ns, IntMulOk pq.2 x ∧ IntMulOk pq.2 (-x))
    (hret : ∀ (D : Addr) (us : List Value) (ms : List Int) h' tk', IntsAre us ms → ms.length = 256 → Small ms → Hid2 (ms = plainOf ns ts) → LCg.Off1 D news → Fr h₀ L h' m → News h₀ L h' ((D, LCg.lst us) :: news) → Q (.ref D) { s with heap := h', toks := tk' }) :
    wpAny (model PySem.Challenge.pw_yi0004_01 w) (ktrTop dp un gd cn cs L a ccd cl outer) (call (.ref 440) [.ref cr, .ref ct]) Q E s := by
  refine wpAny_call ?_
  k_dflt (refine' code_defC ?k1 ?k2 ?k3 ?k4 ?k5 ?kA ?kF ?kK ?k6 ?k7 ?k8 ?k9 ?kB ?kD ?_ ?c2 ?c3 ?c4; (case kA => exact rfl); (case kF => exact rfl); (case kK => assumption); (case k1 => k_asm); (case k2 => k_asm); (case k3 => k_asm); (case k4 => k_asm); (case k5 => k_asm); (case k6 => k_is); (case k7 => k_is); (case k8 => ktr_room); (case k9 => first | exact BindsTo.of_eq rfl | exact binds_K (by k_in) rfl (by k_is) rfl rfl rfl); (case kB => exact rfl); (case kD => decide +kernel); (case c2 => exact rfl); (case c3 => exact rfl); (case c4 => exact rfl); k_whole; intro g' L' h' tk' cells' FG' F' N' Y' B' X' T' l1; (try k_lt l1); k_cells Y'; (try simp only [List.cons_append, List.nil_append] at N'); (try dsimp only); (try k_lift B'); (try k_fold))
  k_steps
  unfold Stop
  (rename Fr _ _ _ _ => F1); (rename News _ _ _ _ => N1)
  refine For_turns F1 ?_
  k_steps
  obtain ⟨D, hD⟩ : ∃ D, D = headAddr N1 := ⟨_, rfl⟩
  dsimp only [headAddr] at hD
  subst hD
  rename Obj => oc
  (rename IntsAre (List.flatten _) _ => hz0)
  have hz1 : IntsAre (List.replicate (Int.toNat 256) [Value.int 0 tk']).flatten (List.replicate 256 0) := by
    have e : (List.replicate (Int.toNat 256) [(0 : Int)]).flatten = List.replicate 256 0 := by decide
    rw [← e]; exact hz0
  refine' for_any (σ := Addr × Nat × List Value × List Int × Obj)
    (fun c' => (c'.1, listOf c'.2.2.1.toArray c'.2.1) :: (L' + 1, c'.2.2.2.2) :: (cr, listOf vs.toArray n) :: (ct, listOf tvs.toArray nt) :: news)
    (fun c' => [(Str.ofString "row", .ref cr), (Str.ofString "terms", .ref ct), (Str.ofString "out", .ref c'.1)])
    (fun i c' => IntsAre c'.2.2.1 c'.2.2.2.1 ∧ c'.2.2.2.1.length = 256 ∧ @LT.lt Nat _ (L' + 1) c'.1 ∧ (∃ v, c'.2.2.2.2.data = .cell v) ∧ c'.2.2.2.1 = plainGo ns (List.replicate 256 0) (ts.take i))
    (D, 0, (List.replicate (Int.toNat 256) [Value.int 0 tk']).flatten, List.replicate 256 0, oc) rfl ?mhl F1 ?mhC ?mhD ?mhE ?mhF ?mhG
  case mhl => intro c'; exact .tail _ (.tail _ (.tail _ (.head _)))
  case mhD => kst_all
  case mhC => exact cb_drop N1 (by kcf_all)
  case mhE => exact ⟨hz1, List.length_replicate, (by omega : @LT.lt Nat _ (L' + 1) D), ⟨_, by assumption⟩, rfl⟩
  · rintro ⟨D3, n3, vs3, ns3, oc3⟩ ii v u3 h3 tk3' own hv hown hp3 F4 N4
    dsimp only at hp3 N4; dsimp only [kstB] at F4; simp only [List.cons_append] at N4
    obtain ⟨hf3, hlen3, hD3, ⟨cv, hcv⟩, hc3⟩ := hp3
    obtain ⟨t, p, q, tp, tq, k, rfl, hts, htm, hp0, hp1⟩ := ht.at ii v hv
    have N5 := newsCons N4 (.tail _ (.tail _ (.tail _ (.tail _ (List.mem_append.mpr (.inl htm)))))) N4
    have htL : @LT.lt Nat _ t L' := ktn_ltOf l1 _ htm
    have hall : ∀ p ∈ news ++ own, p.1 ≠ L' + 1 := fun p hp => (List.mem_append.mp hp).elim (fun h => Nat.ne_of_lt (Nat.lt_succ_of_lt (ktn_ltOf l1 p h))) (OwnOff.ne hown (List.mem_cons_of_mem _ (List.mem_cons_self)) p)
    clear F1 N1 N4
    k_steps
    unfold Stop
    (rename Fr _ _ _ _ => F1); (rename News _ _ _ _ => N1)
    k_dflt refine' kmk_slice_ints (ms := ns.drop (256 - p).toNat) F1 N1 ?sl (IsPart.int _ _) IsPart.none hs (kmk_from hs (by omega)) rfl ?_ ?ss ?st (kmk_sz hs (by rw [hl]; decide))
    case sl => exact News.isList N1 (by k_mem)
    case ss => with_unfolding_all rfl
    case st => intro _; with_unfolding_all rfl
    intro D5 ws5 h5 F5 N5 l5 hI5 hC5 hL5
    k_lt l5
    clear F1 N1
    try k_fold
    k_steps
    unfold Stop
    (rename Fr _ _ _ _ => F1); (rename News _ _ _ _ => N1)
    refine' LCg.CompSrc.ledger rfl F1 N1 ?cm1 ?cs1 ?_
    case cm1 => kcf_m
    case cs1 => (simp only [List.size_toArray]; (have hb9 := hI5.length); (rw [PySem.sizeLine_eq]); (simp only [List.length_drop] at hb9); omega)
    intro g'
    refine' kcf_list (fun x => -x) hI5 (fun k' t' I' oI' C' oC' D' m' ys' h' tk' E' hk' hC' hx' F' N' off' ne' hMark' => ?_) ?_
    · (try (simp only [LCg.Off3, and_true] at off'))
      clear F1 N1
      kcf_last
      k_steps
    clear F1 N1
    k_steps
    unfold Stop
    (rename Fr _ _ _ _ => F1); (rename News _ _ _ _ => N1)
    k_dflt refine' kmk_slice_ints (ms := ns.take (256 - p).toNat) F1 N1 ?sl2 IsPart.none (IsPart.int _ _) hs (kmk_upto hs (by omega)) rfl ?_ ?ss2 ?st2 (kmk_sz hs (by rw [hl]; decide))
    case sl2 => exact News.isList N1 (by k_mem)
    case ss2 => with_unfolding_all rfl
    case st2 => intro _; with_unfolding_all rfl
    intro D6 ws6 h6 F6 N6 l6 hI6 hC6 hL6
    k_lt l6
    clear F1 N1
    try k_fold
    obtain ⟨ms6, hm6⟩ : ∃ x, Hid2 (x = ns.take (256 - p).toNat) := ⟨_, ⟨rfl⟩⟩
    simp only [← hm6.1] at hI6 hC6
    k_steps
    unfold Stop
    (rename Fr _ _ _ _ => F1); (rename News _ _ _ _ => N1)
    (rename IntsAre _ (List.map _ _) => hI8)
    refine add_arrays_ints F1 N1 (News.isList N1 (by k_mem)) (News.isList N1 (by k_mem)) hI8 hI6 ?_ ?szz
    case szz => (rw [PySem.sizeLine_eq, hm6.1]; simp only [List.length_map, List.length_drop, List.length_take]; omega)
    intro h9 F9 N9 hI9
    have e9 : List.map (fun x => -x) (List.drop (256 - p).toNat ns) ++ ms6 = turned ns p.toNat := by
      rw [hm6.1, turned, show (256 - p).toNat = 256 - p.toNat by omega]
    rw [e9] at hI9
    obtain ⟨ms9, hm9⟩ : ∃ x, Hid2 (x = turned ns p.toNat) := ⟨_, ⟨rfl⟩⟩
    simp only [← hm9.1] at hI9
    obtain ⟨ys9, hy9⟩ : ∃ x, x = ys ++ ws6 := ⟨_, rfl⟩
    simp only [← hy9] at hI9 N9
    obtain ⟨D9, hD9⟩ : ∃ D, D = headAddr N9 := ⟨_, rfl⟩
    dsimp only [headAddr] at hD9
    subst hD9
    have hl9 : ms9.length = 256 := by rw [hm9.1, turned]; simp only [List.length_append, List.length_map, List.length_drop, List.length_take]; omega
    clear F1 N1
    have hMu : ∀ b ∈ ms9, IntMulOk q b := by
      intro b hb
      rw [hm9.1, turned] at hb
      have hq : (p, q) ∈ ts := List.mem_of_getElem? hts
      rcases List.mem_append.mp hb with h | h
      · obtain ⟨x, hx, rfl⟩ := List.mem_map.mp h
        exact (hM _ hq x (List.mem_of_mem_drop hx)).2
      · exact (hM _ hq b (List.mem_of_mem_take h)).1
    k_steps
    unfold Stop
    (rename Fr _ _ _ _ => F1); (rename News _ _ _ _ => N1)
    rename Obj => ocl
    refine' zip_call (k1 := n3) (k2 := 0) (fun a b => a + q * b) rfl rfl F1 N1 ?zm1 ?zm2 hf3 hI9 ?zsz (by decide) rfl (by decide) (by decide) (by decide) rfl rfl ?_ ?_
    case zm1 => kcf_m
    case zm2 => kcf_m
    case zsz => rw [hlen3]; decide
    · intro a ta b tb C oC D us m₂ g tk h E' ha hb hC hx hy F' N'
      have hMl := hMu b hb
      clear F1 N1
      k_steps
    · intro D us h tk F' N' hlt hI'
      clear F1 N1
      k_steps
      k_lt hlt
      (rename Fr _ _ _ _ => F8); (rename News _ _ _ _ => N8)
      refine any_end (D, us.length, us, addTo ns3 q ms9, ocl) F8 N8 ?eN ?eO ?eA ?eK ?eP
      case eN => kcf_all
      case eO => kcf_all
      case eK => kst_all
      case eA => 
        intro p' hp' b hb
        rcases List.mem_cons.mp hb with rfl | hb
        · exact Nat.ne_of_lt (ktn_ltOf hlt p' (List.mem_append_right _ hp'))
        · exact hown p' hp' b (List.mem_cons_of_mem _ hb)
      case eP =>
        refine ⟨hI', ?_, by omega, ⟨_, by assumption⟩, ?_⟩
        · show (addTo ns3 q ms9).length = 256
          rw [addTo, List.length_zipWith, hlen3, hl9]; rfl
        · show addTo ns3 q ms9 = _
          rw [List.take_add_one, hts, hc3, hm9.1]
          exact (plainGo_snoc ns p q _ _).symm
  · rintro ⟨D3, n3, vs3, ns3, oc3⟩ u3 h3 tk3' hp3 F4 N4
    dsimp only at hp3 N4; dsimp only [kstB] at F4
    obtain ⟨hf3, hlen3, hD3, ⟨cv, hcv⟩, hc3⟩ := hp3
    clear F1 N1
    k_steps
    unfold Stop
    (rename Fr _ _ _ _ => F1); (rename News _ _ _ _ => N1)
    refine' LCg.CompSrc.ledger rfl F1 N1 ?cm1 ?cs1 ?_
    case cm1 => kcf_m
    case cs1 => (simp only [List.size_toArray]; (have hb9 := hf3.length); (rw [PySem.sizeLine_eq]); omega)
    intro g'
    refine' kcf_list (fun x => x.fmod 3329) hf3 (fun k' t' I' oI' C' oC' D' m' ys' h' tk' E' hk' hC' hx' F' N' off' ne' hMark' => ?_) ?_
    · (try (simp only [LCg.Off3, and_true] at off'))
      clear F1 N1
      kcf_last
      k_steps
    clear F1 N1
    intro ys hIy
    obtain ⟨ms8, hm8⟩ : ∃ x, Hid2 (x = List.map (fun x => x.fmod 3329) ns3) := ⟨_, ⟨rfl⟩⟩
    rw [← hm8.1] at hIy
    intro D' h' tk' F' N' o1'
    k_steps
    (rename Fr h₀ L _ _ => kF); (rename News h₀ L _ _ => kN)
    have hl8 : ms8.length = 256 := by rw [hm8.1, List.length_map, hlen3]
    have hs8 : Small ms8 := by
      intro x hx
      rw [hm8.1] at hx
      obtain ⟨y, _, rfl⟩ := List.mem_map.mp hx
      exact ⟨fmod_lo y (by decide), fmod_hi y (by decide)⟩
    have he8 : ms8 = plainOf ns ts := by
      rw [hm8.1, hc3, ht.length, List.take_length]
      rfl
    exact hret D' ys ms8 _ _ hIy hl8 hs8 ⟨he8⟩ o1'.2.2.2.2 kF (cb_drop kN (by kcf_all))
theorem plain_spec {w : World} {p : Program} {loose : List Str} {mean : ExcName → Option Value} {mg mb : Str → Option Value}
    {dp un : Nat} {gd : Option (List Code)} {cn : Str} {cs : Scope} {a : Addr} {ccd : Value} {cl : List (Str × Addr)} {outer : List Env} {A₀ : Around} {base h₀ : Heap} {L : Addr} {m : Str → Option Value} {news : List (Addr × Obj)} {s : Shared} {Q E : Value → Shared → Prop}
    {cr ct : Addr} {vs tvs : List Value} {ns : List Int} {ts : List (Int × Int)} {n nt : Nat}
    (B : Below A₀ base outer h₀) (F : Fr h₀ L s.heap m) (X : (Mine.hd.heap_1 w.params).In h₀) (N : News h₀ L s.heap news) (T : Top p loose mean mg mb h₀) (hk : cs.kind = .function)
    (hs : IntsAre vs ns) (hl : ns.length = 256) (ht : TermsAre news tvs ts)
    (hcr : (cr, listOf vs.toArray n) ∈ news) (hct : (ct, listOf tvs.toArray nt) ∈ news)
    (hd : dp + 10 < recursionLimit) (hu : un + 80 < cLine)
    (hM : ∀ pq ∈ ts, ∀ x ∈ ns, IntMulOk pq.2 x ∧ IntMulOk pq.2 (-x))
    (hret : ∀ (D : Addr) (us : List Value) (ms : List Int) h' tk', IntsAre us ms → ms.length = 256 → Small ms → Hid2 (ms = plainOf ns ts) → LCg.Off1 D news → Fr h₀ L h' m → News h₀ L h' ((D, LCg.lst us) :: news) → Q (.ref D) { s with heap := h', toks := tk' }) :
    wpAny (model PySem.Challenge.pw_yi0004_01 w) (ktrTop dp un gd cn cs L a ccd cl outer) (call (.ref 440) [.ref cr, .ref ct]) Q E s :=
  plain_core cr ct vs tvs ns ts n nt B F X T hk hs hl ht (newsCons N hcr (newsCons N hct N)) hd hu hM hret
end
section
theorem pad8 : True := by (w_top off); trivial
local macro_rules | `(tactic| walk_at "pad 0") => `(tactic| skip)
local macro_rules | `(tactic| walk_at "pad 1") => `(tactic| skip)
local macro_rules | `(tactic| walk_at "pad 2") => `(tactic| skip)
local macro_rules | `(tactic| walk_at "pad 3") => `(tactic| skip)
local macro_rules | `(tactic| walk_at "pad 4") => `(tactic| skip)
local macro_rules | `(tactic| walk_at "pad 5") => `(tactic| skip)
local macro_rules | `(tactic| walk_at "pad 6") => `(tactic| skip)
local macro_rules | `(tactic| walk_at "pad 7") => `(tactic| skip)
def draw (ns : List Int) (k : Int) : Int := if k < (ns.length : Int) then ns.getD k.toNat 0 else 200 + 17 * k + 31 * k * k
theorem draw_spec {w : World} {p : Program} {loose : List Str} {mean : ExcName → Option Value} {mg mb : Str → Option Value}
    {dp un : Nat} {gd : Option (List Code)} {cn : Str} {cs : Scope} {a : Addr} {ccd : Value} {cl : List (Str × Addr)} {outer : List Env} {A₀ : Around} {base h₀ : Heap} {L : Addr} {m : Str → Option Value} {news : List (Addr × Obj)} {s : Shared} {Q E : Value → Shared → Prop}
    {l : Addr} {vs : List Value} {ns : List Int} {i : Int} {tk : Tok}
    (B : Below A₀ base outer h₀) (F : Fr h₀ L s.heap m) (X : (Mine.hd.heap_1 w.params).In h₀) (N : News h₀ L s.heap news) (T : Top p loose mean mg mb h₀) (hk : cs.kind = .function)
    (hl : base.IsList l vs.toArray) (hi : IntsAre vs ns) (hfit : ns.length < 2 ^ 62) (h0 : 0 ≤ i) (h1 : i < 2 ^ 20)
    (hd : dp + 1 < recursionLimit) (hu : un + 8 < cLine)
    (hret : ∀ t h' tk', Fr h₀ L h' m → News h₀ L h' news → Q (.int (draw ns i) t) { s with heap := h', toks := tk' }) :
    wpAny (model PySem.Challenge.pw_yi0004_01 w) (ktrTop dp un gd cn cs L a ccd cl outer) (call (.ref 435) [.ref l, .int i tk]) Q E s := by
  refine wpAny_call ?_
  k_dflt (refine' code_def ?k1 ?k2 ?k3 ?k4 ?k5 ?kA ?kF ?kK ?k6 ?k7 ?k8 ?k9 ?kB ?_ ?c2 ?c3 ?c4 ?c5; (case kA => exact rfl); (case kF => exact rfl); (case kK => assumption); (case k1 => k_asm); (case k2 => k_asm); (case k3 => k_asm); (case k4 => k_asm); (case k5 => k_asm); (case k6 => k_is); (case k7 => k_is); (case k8 => ktr_room); (case k9 => first | exact BindsTo.of_eq rfl | exact binds_K (by k_in) rfl (by k_is) rfl rfl rfl); (case c5 => decide); (case kB => exact locs rfl); (case c2 => exact rfl); (case c3 => exact rfl); (case c4 => exact rfl); k_whole; intro g' L' h' FG' F' N' B' X' T'; (try dsimp only); (try k_lift B'); (try k_fold))
  k_steps
  · (rename Fr h₀ L _ _ => kF); (rename News h₀ L _ _ => kN)
    have e : draw ns i = ns.getD i.toNat 0 := by unfold draw; rw [if_pos (by first | assumption | omega)]
    rw [e] at hret
    exact hret _ _ _ kF kN
  · (rename Fr h₀ L _ _ => kF); (rename News h₀ L _ _ => kN)
    have e : draw ns i = 200 + 17 * i + 31 * i * i := by unfold draw; rw [if_neg (by first | assumption | omega)]
    rw [e] at hret
    exact hret _ _ _ kF kN
end
section
section
variable {prog : Program} {w : World} {A : Around} {E : Value → Shared → Prop} {s : Shared} {env : Env} {h₀ : Heap} {x : Str} {body : List Stmt} {Q : Flow → Shared → Prop}
theorem for_rangeG {σ : Type} {r : Addr} {a₀ b₀ : Int} {t₀ u₀ v₀ : Tok} {n : Nat} {m₀ : Str → Option Value} (Led : σ → List (Addr × Obj)) (ps : σ → List (Str × Value)) (P : Nat → σ → Prop) (c₀ : σ)
    (hh : A.handled = none) (hr : IsRange s.heap r a₀ b₀ 1 t₀ u₀ v₀) (hsmall : Builtin.Range.small a₀ b₀ 1 = true) (hn : Builtin.Range.rangeSize a₀ b₀ 1 = (n : Int)) (F : Fr h₀ env.locals s.heap m₀) (N : News h₀ env.locals s.heap (Led c₀)) (hk : ∀ p ∈ ps c₀, m₀ p.1 = some p.2) (hp : P 0 c₀)
    (turn : ∀ (c : σ) (i : Nat) t (u : Str → Option Value) h tk own, i < n → OwnOff own ((Led c).map (·.1)) → P i c →
      Fr h₀ env.locals h (fun y => if y = x then some (.int (a₀ + (i : Int)) t) else kstB u (ps c) y) → News h₀ env.locals h (Led c ++ own) →
      wpAny (model prog w) A (execs body env) (InvPostG h₀ env.locals (AnyS Led ps P (i + 1)) own { s with heap := h, toks := tk } Q) E { s with heap := h, toks := tk })
    (done : ∀ (c : σ) (u : Str → Option Value) h tk, P n c → Fr h₀ env.locals h (kstB u (ps c)) → News h₀ env.locals h (Led c) → Q .next { s with heap := h, toks := tk }) :
    wpAny (model prog w) A (pyIter (.ref r)) (fun it s₂ => LoopAtV prog w A h₀ env x body Q E it s₂) E s := by
  refine wpAny_pyIter_range hr hsmall ?_
  have W : Walks prog w A s.heap.objs.size [s.heap.objs.size] [s.heap.objs.size] n (fun i v => i < n ∧ ∃ t, v = .int (a₀ + i * 1) t)
      (fun i h => IsRangeIter h s.heap.objs.size (a₀ + (i : Nat) * 1) ((n : Int) - (i : Nat)) 1) := (Walks.range hh _ a₀ 1 n).bound
  refine kdr_loop (AnyS Led ps P) W (fun _ h => h) (fun _ h => h) ?_ ?_ ?_ ?_ (by show IsRangeIter _ _ _ _ _; rw [hn]; simpa using Heap.get?_push_size _ rfl) (F.push _) (fun p hp => ⟨Heap.get?_push_of_some _ (N p hp).1, (N p hp).2⟩) ⟨c₀, rfl, hk, hp⟩ ?_ ?_
  · intro i h hi b hb
    rw [List.mem_singleton.mp hb]
    exact ⟨_, hi⟩
  · intro hm
    exact absurd F.ns.lt ((List.mem_singleton.mp hm) ▸ Nat.lt_irrefl _)
  · intro b hb
    rw [List.mem_singleton.mp hb]
    exact next_is_new F
  · intro p hp hI
    exact absurd (Heap.lt_size (N p hp).1) ((List.mem_singleton.mp hI) ▸ Nat.lt_irrefl _)
  · rintro i v m₁ nx h tk own hi ⟨_, t, rfl⟩ hoff ⟨c, rfl, h1, hp'⟩ F₁ N₁
    have e1 : a₀ + (i : Int) * 1 = a₀ + (i : Int) := by omega
    rw [e1] at F₁
    have em := for_em h1
    rw [← em] at F₁
    exact turn c i t m₁ h tk own hi hoff hp' F₁ N₁
  · rintro m₁ nx h tk ⟨c, rfl, h1, hp'⟩ F₁ N₁
    have em := for_em h1
    rw [← em] at F₁
    exact done c m₁ h tk hp' F₁ N₁
end
theorem TermsAre.mono {n1 n2 : List (Addr × Obj)} {vs : List Value} {ts : List (Int × Int)} (h : TermsAre n1 vs ts) (hs : ∀ p ∈ n1, p ∈ n2) : TermsAre n2 vs ts := by
  induction h with
  | nil => exact .nil
  | cons a b c _ ih => exact .cons (hs _ a) b c ih
theorem TermsAre.snoc {news : List (Addr × Obj)} {vs : List Value} {ts : List (Int × Int)} {t : Addr} {p q : Int} {tp tq : Tok} {k : Nat} (h : TermsAre news vs ts) (hm : (t, ({ cls := .type "tuple", data := .seq #[.int p tp, .int q tq] k } : Obj)) ∈ news) (h0 : 0 ≤ p) (h1 : p < 256) : TermsAre news (vs ++ [.ref t]) (ts ++ [(p, q)]) := by
  induction h with
  | nil => exact .cons hm h0 h1 .nil
  | cons a b c _ ih => exact .cons a b c ih
/-! the terms that the script draws, and the second factor that they make -/
def term (ns : List Int) (many : Int) (i : Nat) : Int × Int := ((draw ns (2 + many + 2 * (i : Int))).fmod 256, draw ns (3 + many + 2 * (i : Int)))
def termsOf (ns : List Int) (many : Int) : Nat → List (Int × Int)
  | 0 => []
  | i + 1 => termsOf ns many i ++ [term ns many i]
def bump (l : List Int) (pq : Int × Int) : List Int := l.set pq.1.toNat (l.getD pq.1.toNat 0 + pq.2)
def secOf (ts : List (Int × Int)) : List Int := ts.foldl bump (List.replicate 256 0)
theorem termsOf_len (ns : List Int) (many : Int) : ∀ i, (termsOf ns many i).length = i
  | 0 => rfl
  | i + 1 => by rw [termsOf, List.length_append, termsOf_len]; rfl
theorem bump_len (l : List Int) (pq : Int × Int) : (bump l pq).length = l.length := by simp [bump]
theorem secOf_snoc (ts : List (Int × Int)) (pq : Int × Int) : secOf (ts ++ [pq]) = bump (secOf ts) pq := by simp [secOf]
theorem foldl_bump_len : ∀ (ts : List (Int × Int)) (l : List Int), (ts.foldl bump l).length = l.length
  | [], _ => rfl
  | pq :: r, l => by rw [List.foldl_cons, foldl_bump_len r, bump_len]
theorem secOf_len (ts : List (Int × Int)) : (secOf ts).length = 256 := by rw [secOf, foldl_bump_len]; rfl
end
section
structure LawS where
  k : Nat
  svs : List Value
  kt : Nat
  tvs : List Value
  tups : List (Addr × Obj)
abbrev lawLed (D l : Addr) (rest : List (Addr × Obj)) (c : LawS) : List (Addr × Obj) := (D, listOf c.svs.toArray c.k) :: (l, listOf c.tvs.toArray c.kt) :: (rest ++ c.tups)
abbrev lawPs (D l : Addr) (D1 : Addr) (p7 : Addr × Obj) (b₀ many : Int) (tc tm : Tok) : List (Str × Value) := [(Str.ofString "second", .ref D), (Str.ofString "terms", .ref l), (Str.ofString "first", .ref D1), (Str.ofString "count", .int b₀ tc), (Str.ofString "many", .int many tm), (Str.ofString "ring", .ref p7.1)]
def LawP (D l : Addr) (ns : List Int) (many : Int) (i : Nat) (c : LawS) : Prop :=
  IntsAre c.svs (secOf (termsOf ns many i)) ∧ TermsAre c.tups c.tvs (termsOf ns many i) ∧ ∀ p ∈ c.tups, p.1 ≠ D ∧ p.1 ≠ l
section
variable {prog : Program} {w : World} {A : Around} {E : Value → Shared → Prop} {s : Shared} {env : Env} {h₀ : Heap} {x : Str} {body : List Stmt} {Q : Flow → Shared → Prop}
theorem law_loop {r : Addr} {b₀ : Int} {t₀ u₀ v₀ : Tok} {m₀ : Str → Option Value} {D l : Addr} {svs₀ fvs : List Value} {fs : List Int} {kf : Nat} {D1 : Addr} {p1 p4 p5 p6 p7 p8 p9 p10 : Addr × Obj} {ns : List Int} {many : Int} {tm tc : Tok} (hcn : ¬ ((63 : Nat) : Int) < (ns.length : Int))
    (hh : A.handled = none) (hr : IsRange s.heap r 0 b₀ 1 t₀ u₀ v₀) (hb0 : 0 ≤ b₀) (hb1 : b₀ < 64) (F : Fr h₀ env.locals s.heap m₀) (N : News h₀ env.locals s.heap [(D, listOf svs₀.toArray 0), p1, (l, listOf #[] 0), (D1, listOf fvs.toArray kf), p4, p5, p6, p7, p8, p9, p10]) (hk : ∀ p ∈ lawPs D l D1 p7 b₀ many tc tm, m₀ p.1 = some p.2) (hm0 : 0 ≤ many) (hm1 : many ≤ 256) (hf : IntsAre fvs fs) (hi : IntsAre svs₀ (List.replicate (Int.toNat 256) [(0 : Int)]).flatten)
    (turn : ∀ (M : Int) (tM : Tok) (fs' : List Int) (k : Nat) (svs : List Value) (sec : List Int) (kt : Nat) (tvs : List Value) (ts : List (Int × Int)) (tups : List (Addr × Obj)) (i : Nat) t (u : Str → Option Value) h tk own, Hid2 (M = many ∧ fs' = fs) → 0 ≤ M → M ≤ 256 → IntsAre fvs fs' → i < 64 → IntsAre svs sec → sec.length = 256 → tvs.length = i → TermsAre tups tvs ts → Hid2 (sec = secOf ts ∧ ts = termsOf ns M i) →
      OwnOff own (D :: l :: [D1, p7.1, p8.1, p9.1, p10.1]) → (∀ p ∈ tups ++ own, p.1 ≠ D) → (∀ p ∈ tups ++ own, p.1 ≠ l) → (∀ p ∈ own, ∀ q ∈ tups, p.1 ≠ q.1) →
      Fr h₀ env.locals h (fun y => if y = x then some (.int (0 + (i : Int)) t) else kstB u (lawPs D l D1 p7 b₀ M tc tM) y) → News h₀ env.locals h ((D, listOf svs.toArray k) :: (l, listOf tvs.toArray kt) :: (D1, listOf fvs.toArray kf) :: p7 :: p8 :: p9 :: p10 :: (tups ++ own)) →
      wpAny (model prog w) A (execs body env) (InvPostG h₀ env.locals (AnyS (lawLed D l [(D1, listOf fvs.toArray kf), p7, p8, p9, p10]) (fun _ => lawPs D l D1 p7 b₀ M tc tM) (LawP D l ns M) (i + 1)) own { s with heap := h, toks := tk } Q) E { s with heap := h, toks := tk })
    (done : ∀ (M : Int) (tM : Tok) (fs' : List Int) (k : Nat) (svs : List Value) (sec : List Int) (kt : Nat) (tvs : List Value) (ts : List (Int × Int)) (tups : List (Addr × Obj)) (u : Str → Option Value) h tk, Hid2 (M = many ∧ fs' = fs) → 0 ≤ M → M ≤ 256 → IntsAre fvs fs' → IntsAre svs sec → sec.length = 256 → tvs.length = b₀.toNat → TermsAre tups tvs ts → Hid2 (sec = secOf ts ∧ ts = termsOf ns M b₀.toNat) → (∀ p ∈ tups, p.1 ≠ D ∧ p.1 ≠ l) → Fr h₀ env.locals h (kstB u (lawPs D l D1 p7 b₀ M tc tM)) → News h₀ env.locals h ((D, listOf svs.toArray k) :: (l, listOf tvs.toArray kt) :: (D1, listOf fvs.toArray kf) :: p7 :: p8 :: p9 :: p10 :: tups) → Q .next { s with heap := h, toks := tk }) :
    wpAny (model prog w) A (pyIter (.ref r)) (fun it s₂ => LoopAtV prog w A h₀ env x body Q E it s₂) E s := by
  have hi' : IntsAre svs₀ (List.replicate 256 0) := by
    have e : (List.replicate (Int.toNat 256) [(0 : Int)]).flatten = List.replicate 256 0 := by decide
    rw [e] at hi
    exact hi
  refine for_rangeG (n := b₀.toNat) (lawLed D l [(D1, listOf fvs.toArray kf), p7, p8, p9, p10]) (fun _ => lawPs D l D1 p7 b₀ many tc tm) (LawP D l ns many) ⟨0, svs₀, 0, [], []⟩ hh hr (small_one (by decide) (by decide) (by omega) (by omega)) ?_ F ?_ hk ⟨hi', .nil, fun _ h => nomatch h⟩ ?_ ?_
  · rw [rangeSize_nat]; omega
  · refine cb_drop N ?_
    kcf_all
  · rintro ⟨k, svs, kt, tvs, tups⟩ i t u h tk own hin hown ⟨h1, h2, h3⟩ F' N'
    dsimp only [lawLed] at hown h1 h2 h3 N'
    refine turn many tm fs k svs _ kt tvs _ tups i t u h tk own ⟨rfl, rfl⟩ hm0 hm1 hf (by omega) h1 (secOf_len _) (by rw [h2.length, termsOf_len]) h2 ⟨rfl, rfl⟩ ?_ ?_ ?_ ?_ F' ?_
    · intro p hp b hb
      refine hown p hp b ?_
      simp only [List.map_cons, List.map_append, List.map_nil, List.cons_append, List.nil_append, List.mem_cons, List.mem_append] at hb ⊢
      simp only [List.not_mem_nil, or_false] at hb
      rcases hb with h | h | h | h | h | h | h <;> simp [h]
    · intro p hp
      rcases List.mem_append.mp hp with h | h
      · exact (h3 p h).1
      · exact hown p h D List.mem_cons_self
    · intro p hp
      rcases List.mem_append.mp hp with h | h
      · exact (h3 p h).2
      · exact hown p h l (List.mem_cons_of_mem _ List.mem_cons_self)
    · intro p hp q hq
      refine hown p hp q.1 ?_
      simp only [List.map_cons, List.map_append, List.mem_cons, List.mem_append]
      exact .inr (.inr (.inr (List.mem_map.mpr ⟨q, hq, rfl⟩)))
    · simpa [lawLed] using N'
  · rintro ⟨k, svs, kt, tvs, tups⟩ u h tk ⟨h1, h2, h3⟩ F' N'
    dsimp only [lawLed] at h1 h2 h3 N'
    exact done many tm fs k svs _ kt tvs _ tups u h tk ⟨rfl, rfl⟩ hm0 hm1 hf h1 (secOf_len _) (by rw [h2.length, termsOf_len]) h2 ⟨rfl, rfl⟩ h3 F' (by simpa [lawLed] using N')
theorem law_end {D l T : Addr} {ns : List Int} {many : Int} {ps : List (Str × Value)} {p3 p7 p8 p9 p10 : Addr × Obj} {tups : List (Addr × Obj)} {i k kt kk : Nat} {svs tvs : List Value} {sec' sec : List Int} {ts : List (Int × Int)} {p q : Int} {tp tq : Tok} {L : Addr} {m' : Str → Option Value} {own news' : List (Addr × Obj)} {s₁ : Shared} {h' : Heap} {tk : Nat}
    (F : Fr h₀ L h' m') (N : News h₀ L h' news')
    (hH : Hid2 (sec = secOf ts ∧ ts = termsOf ns many i)) (hT : TermsAre tups tvs ts) (hI : IntsAre svs sec') (hs' : sec' = sec.set p.toNat (sec.getD p.toNat 0 + q))
    (hpq : (p, q) = term ns many i) (h0 : 0 ≤ p) (h1 : p < 256)
    (hown : OwnOff own (D :: l :: [p3.1, p7.1, p8.1, p9.1, p10.1])) (ht : ∀ p ∈ own, ∀ q ∈ tups, p.1 ≠ q.1) (hTo : ∀ p ∈ own, p.1 ≠ T) (hTD : T ≠ D) (hTl : T ≠ l) (haD : ∀ p ∈ tups ++ own, p.1 ≠ D) (hal : ∀ p ∈ tups ++ own, p.1 ≠ l)
    (hn : ∀ z ∈ (T, ({ cls := .type "tuple", data := .seq #[.int p tp, .int q tq] kk } : Obj)) :: (D, listOf svs.toArray k) :: (l, listOf (tvs ++ [Value.ref T]).toArray kt) :: p3 :: p7 :: p8 :: p9 :: p10 :: tups, z ∈ news') (ho : ∀ p ∈ own, p ∈ news') (hk : ∀ p ∈ ps, m' p.1 = some p.2) :
    InvEndG h₀ L (AnyS (lawLed D l [p3, p7, p8, p9, p10]) (fun _ => ps) (LawP D l ns many) (i + 1)) own s₁ { s₁ with heap := h', toks := tk } := by
  refine any_end ⟨k, svs, kt, tvs ++ [.ref T], tups ++ [(T, { cls := .type "tuple", data := .seq #[.int p tp, .int q tq] kk })]⟩ F N ?_ ho ?_ hk ⟨?_, ?_, ?_⟩
  · intro z hz
    refine hn z ?_
    simp only [List.mem_cons, List.mem_append, List.cons_append, List.nil_append, List.not_mem_nil, or_false] at hz
    rcases hz with h | h | h | h | h | h | h | h | h <;> simp [h]
  · intro z hz b hb
    simp only [lawLed, List.map_cons, List.map_append, List.map_nil, List.cons_append, List.nil_append, List.mem_cons, List.mem_append, List.not_mem_nil, or_false] at hb
    rcases hb with h | h | h | h | h | h | h | h | h
    · exact hown z hz b (by simp [h])
    · exact hown z hz b (by simp [h])
    · exact hown z hz b (by simp [h])
    · exact hown z hz b (by simp [h])
    · exact hown z hz b (by simp [h])
    · exact hown z hz b (by simp [h])
    · exact hown z hz b (by simp [h])
    · obtain ⟨y, hy, rfl⟩ := List.mem_map.mp h
      exact ht z hz y hy
    · rw [h]; exact hTo z hz
  · show IntsAre svs (secOf (termsOf ns many i ++ [term ns many i]))
    rw [secOf_snoc, ← hpq, ← hH.1.2, ← hH.1.1]
    rw [hs'] at hI
    exact hI
  · show TermsAre _ _ (termsOf ns many i ++ [term ns many i])
    rw [← hpq, ← hH.1.2]
    exact (hT.mono fun z hz => List.mem_append_left _ hz).snoc (List.mem_append_right _ (List.mem_singleton.mpr rfl)) h0 h1
  · intro z hz
    rcases List.mem_append.mp hz with h | h
    · exact ⟨haD z (List.mem_append_left _ h), hal z (List.mem_append_left _ h)⟩
    · rw [List.mem_singleton.mp h]; exact ⟨hTD, hTl⟩
end
end
section
/-! the transforms' numbers, hidden from the walk -/
def ntt (f : List Int) : List Int := md 256 (tr zetas 7 f)
def intt (f : List Int) : List Int := mf 256 (itr zetas 7 f)
def pw (f g : List Int) : List Int := cm zetas f g 64
theorem md_nth (c : List Int) : ∀ (i j : Nat), (md i c)[j]? = if j < i then (c[j]?).map (fun x => x.fmod 3329) else c[j]?
  | 0, j => by simp [md]
  | i + 1, j => by
    rw [md, List.getElem?_set, md_nth c i j, List.getD_eq_getElem?_getD, md_nth c i i, md_len]
    by_cases h : i = j
    · subst h
      simp only [Nat.lt_irrefl, if_false, if_true, Nat.lt_succ_self]
      by_cases h2 : i < c.length
      · simp [h2]
      · simp [h2]
    · have e : (j < i + 1) = (j < i) := by simp; omega
      simp only [h, if_false, e]
theorem mf_nth (c : List Int) : ∀ (i j : Nat), (mf i c)[j]? = if j < i then (c[j]?).map (fun x => (x * 3303).fmod 3329) else c[j]?
  | 0, j => by simp [mf]
  | i + 1, j => by
    rw [mf, List.getElem?_set, mf_nth c i j, List.getD_eq_getElem?_getD, mf_nth c i i, mf_len]
    by_cases h : i = j
    · subst h
      simp only [Nat.lt_irrefl, if_false, if_true, Nat.lt_succ_self]
      by_cases h2 : i < c.length
      · simp [h2]
      · simp [h2]
    · have e : (j < i + 1) = (j < i) := by simp; omega
      simp only [h, if_false, e]
theorem md_map {c : List Int} (h : c.length ≤ 256) : md 256 c = c.map (fun x => x.fmod 3329) := by
  refine List.ext_getElem? fun j => ?_
  rw [md_nth, List.getElem?_map]
  split
  · rfl
  · rw [List.getElem?_eq_none (by omega)]; rfl
theorem mf_map {c : List Int} (h : c.length ≤ 256) : mf 256 c = c.map (fun x => (x * 3303).fmod 3329) := by
  refine List.ext_getElem? fun j => ?_
  rw [mf_nth, List.getElem?_map]
  split
  · rfl
  · rw [List.getElem?_eq_none (by omega)]; rfl
theorem ntt_len {f : List Int} (h : f.length = 256) : (ntt f).length = 256 := by rw [ntt, md_len, tr_len, h]
theorem intt_len {f : List Int} (h : f.length = 256) : (intt f).length = 256 := by rw [intt, mf_len, itr_len, h]
theorem ntt_small {f : List Int} (h : f.length = 256) : Small (ntt f) := by
  rw [ntt, md_map (by rw [tr_len, h]; exact Nat.le_refl _)]
  intro x hx
  obtain ⟨y, _, rfl⟩ := List.mem_map.mp hx
  exact fmod_small y
theorem tontt2 {w : World} {p : Program} {loose : List Str} {mean : ExcName → Option Value} {mg mb : Str → Option Value}
    {dp un : Nat} {gd : Option (List Code)} {cn : Str} {cs : Scope} {a : Addr} {ccd : Value} {cl : List (Str × Addr)} {outer : List Env} {A₀ : Around} {base h₀ : Heap} {L : Addr} {m : Str → Option Value} {news : List (Addr × Obj)} {s : Shared} {Q E : Value → Shared → Prop}
    {x dx c r dr z : Addr} {tp1 tp2 tq1 tq2 tq3 tq4 tq5 tq6 tq7 : Tok} {vs zs : List Value} {ns : List Int} {n : Nat} {g : Obj → List (Addr × Obj)}
    (B : Below A₀ base outer h₀) (F : Fr h₀ L s.heap m) (X : (Mine.hd.heap_1 w.params).In h₀) (N : News h₀ L s.heap news) (T : Top p loose mean mg mb h₀) (hk : cs.kind = .function)
    (hs : IntsAre vs ns) (hz : IntsAre zs zetas) (hlen : ns.length = 256) (hzc : @Ne Nat c z)
    (U : UpdF c (listOf vs.toArray n) news g) (hx : (x, instObj 350 dx) ∈ news) (hdx : (dx, dictOf [⟨PyData.keyHash w.params (Str.ofString "parent"), .str (Str.ofString "parent") tp1, .ref r⟩, ⟨PyData.keyHash w.params (Str.ofString "coeffs"), .str (Str.ofString "coeffs") tp2, .ref c⟩] 2) ∈ news) (hr : (r, instObj 282 dr) ∈ news) (hdr : (dr, dictOf [⟨PyData.keyHash w.params (Str.ofString "q"), .str (Str.ofString "q") tq1, .int 3329 tq2⟩, ⟨PyData.keyHash w.params (Str.ofString "n"), .str (Str.ofString "n") tq3, .int 256 tq4⟩, ⟨PyData.keyHash w.params (Str.ofString "ntt_zetas"), .str (Str.ofString "ntt_zetas") tq5, .ref z⟩, ⟨PyData.keyHash w.params (Str.ofString "ntt_f"), .str (Str.ofString "ntt_f") tq6, .int 3303 tq7⟩] 4) ∈ news) (hzz : (z, LCg.lst zs) ∈ news)
    (hd : dp + 20 < recursionLimit) (hu : un + 160 < cLine)
    (hret : ∀ (x' dx' : Addr) (ta tb : Tok) (vs' : List Value) (ms : List Int) h' tk', IntsAre vs' ms → ms.length = 256 → Small ms → Hid2 (ms = ntt ns) → AllLt dx' (g (listOf vs'.toArray n)) → @LT.lt Nat _ dx' x' → Fr h₀ L h' m →
      News h₀ L h' ((x', instObj 426 dx') :: (dx', dictOf [⟨PyData.keyHash w.params (Str.ofString "parent"), .str (Str.ofString "parent") ta, .ref r⟩, ⟨PyData.keyHash w.params (Str.ofString "coeffs"), .str (Str.ofString "coeffs") tb, .ref c⟩] 2) :: g (listOf vs'.toArray n)) →
      Q (.ref x') { s with heap := h', toks := tk' }) :
    wpAny (model PySem.Challenge.pw_yi0004_01 w) (ktrTop dp un gd cn cs L a ccd cl outer) (call (.ref 340) [.ref x]) Q E s :=
  tontt_spec B F X N T hk hs hz hlen hzc U hx hdx hr hdr hzz hd hu fun x' dx' ta tb vs' h' tk' q1 q2 q3 F' N' => hret x' dx' ta tb vs' _ h' tk' q1 (ntt_len hlen) (ntt_small hlen) ⟨rfl⟩ q2 q3 F' N'
theorem fromntt2 {w : World} {p : Program} {loose : List Str} {mean : ExcName → Option Value} {mg mb : Str → Option Value}
    {dp un : Nat} {gd : Option (List Code)} {cn : Str} {cs : Scope} {a : Addr} {ccd : Value} {cl : List (Str × Addr)} {outer : List Env} {A₀ : Around} {base h₀ : Heap} {L : Addr} {m : Str → Option Value} {news : List (Addr × Obj)} {s : Shared} {Q E : Value → Shared → Prop}
    {x dx c r dr z : Addr} {tp1 tp2 tq1 tq2 tq3 tq4 tq5 tq6 tq7 : Tok} {vs zs : List Value} {ns : List Int} {n : Nat} {g : Obj → List (Addr × Obj)}
    (B : Below A₀ base outer h₀) (F : Fr h₀ L s.heap m) (X : (Mine.hd.heap_1 w.params).In h₀) (N : News h₀ L s.heap news) (T : Top p loose mean mg mb h₀) (hk : cs.kind = .function)
    (hs : IntsAre vs ns) (hz : IntsAre zs zetas) (hlen : ns.length = 256) (hzc : @Ne Nat c z)
    (U : UpdF c (listOf vs.toArray n) news g) (hx : (x, instObj 426 dx) ∈ news) (hdx : (dx, dictOf [⟨PyData.keyHash w.params (Str.ofString "parent"), .str (Str.ofString "parent") tp1, .ref r⟩, ⟨PyData.keyHash w.params (Str.ofString "coeffs"), .str (Str.ofString "coeffs") tp2, .ref c⟩] 2) ∈ news) (hr : (r, instObj 282 dr) ∈ news) (hdr : (dr, dictOf [⟨PyData.keyHash w.params (Str.ofString "q"), .str (Str.ofString "q") tq1, .int 3329 tq2⟩, ⟨PyData.keyHash w.params (Str.ofString "n"), .str (Str.ofString "n") tq3, .int 256 tq4⟩, ⟨PyData.keyHash w.params (Str.ofString "ntt_zetas"), .str (Str.ofString "ntt_zetas") tq5, .ref z⟩, ⟨PyData.keyHash w.params (Str.ofString "ntt_f"), .str (Str.ofString "ntt_f") tq6, .int 3303 tq7⟩] 4) ∈ news) (hzz : (z, LCg.lst zs) ∈ news)
    (hd : dp + 20 < recursionLimit) (hu : un + 160 < cLine)
    (hret : ∀ (x' dx' : Addr) (ta tb : Tok) (vs' : List Value) (ms : List Int) h' tk', IntsAre vs' ms → ms.length = 256 → Hid2 (ms = intt ns) → AllLt dx' (g (listOf vs'.toArray n)) → @LT.lt Nat _ dx' x' → Fr h₀ L h' m →
      News h₀ L h' ((x', instObj 350 dx') :: (dx', dictOf [⟨PyData.keyHash w.params (Str.ofString "parent"), .str (Str.ofString "parent") ta, .ref r⟩, ⟨PyData.keyHash w.params (Str.ofString "coeffs"), .str (Str.ofString "coeffs") tb, .ref c⟩] 2) :: g (listOf vs'.toArray n)) →
      Q (.ref x') { s with heap := h', toks := tk' }) :
    wpAny (model PySem.Challenge.pw_yi0004_01 w) (ktrTop dp un gd cn cs L a ccd cl outer) (call (.ref 380) [.ref x]) Q E s :=
  fromntt_spec B F X N T hk hs hz hlen hzc U hx hdx hr hdr hzz hd hu fun x' dx' ta tb vs' h' tk' q1 q2 q3 F' N' => hret x' dx' ta tb vs' _ h' tk' q1 (intt_len hlen) ⟨rfl⟩ q2 q3 F' N'
/-! bits -/
open PySem.Builtin.Int (intBits)
theorem draw_bits {ns : List Int} (h : PyData.layable0 (.list (ns.map .int)) = true) {k : Int} (h0 : 0 ≤ k) (h1 : k < 1024) : intBits (draw ns k) ≤ 2 ^ 20 := by
  unfold draw
  split
  · exact bits_getD h
  · refine Nat.le_trans (PySem.intBits_le_64 ?_ ?_) (by decide)
    · have : 0 ≤ 31 * k * k := Int.mul_nonneg (by omega) h0
      omega
    · have : 31 * k * k ≤ 31 * 1024 * 1024 := Int.le_trans (Int.mul_le_mul_of_nonneg_left (Int.le_of_lt h1) (by omega)) (Int.mul_le_mul_of_nonneg_right (by omega) (by decide))
      omega
theorem term_bits {ns : List Int} (h : PyData.layable0 (.list (ns.map .int)) = true) {M : Int} (h0 : 0 ≤ M) (h1 : M ≤ 256) {i : Nat} (hi : i < 64) : intBits (term ns M i).2 ≤ 2 ^ 20 := draw_bits h (by omega) (by omega)
theorem terms_bits {ns : List Int} (h : PyData.layable0 (.list (ns.map .int)) = true) {M : Int} (h0 : 0 ≤ M) (h1 : M ≤ 256) : ∀ (i : Nat), i ≤ 64 → ∀ pq ∈ termsOf ns M i, intBits pq.2 ≤ 2 ^ 20
  | 0, _, _, hp => nomatch hp
  | i + 1, hi, pq, hp => by
    rcases List.mem_append.mp hp with q | q
    · exact terms_bits h h0 h1 i (by omega) pq q
    · rw [List.mem_singleton.mp q]; exact term_bits h h0 h1 (by omega)
theorem bump_bits {l : List Int} {m b : Nat} {pq : Int × Int} (hl : ∀ x ∈ l, intBits x ≤ m) (hm : b ≤ m) (hp : intBits pq.2 ≤ b) : ∀ x ∈ bump l pq, intBits x ≤ m + 1 := by
  intro x hx
  rcases List.mem_or_eq_of_mem_set hx with q | q
  · exact Nat.le_trans (hl x q) (Nat.le_succ _)
  · rw [q]
    have h1 : intBits (l.getD pq.1.toNat 0) ≤ m := getD_of (P := fun x => intBits x ≤ m) hl (by show intBits 0 ≤ m; exact Nat.le_trans (by decide) (Nat.zero_le m)) _
    have h2 := bits_add h1 hp
    rwa [Nat.max_eq_left hm] at h2
theorem fold_bits {b : Nat} : ∀ (ts : List (Int × Int)) (l : List Int) (m : Nat), (∀ x ∈ l, intBits x ≤ m) → b ≤ m → (∀ pq ∈ ts, intBits pq.2 ≤ b) → ∀ x ∈ ts.foldl bump l, intBits x ≤ m + ts.length
  | [], l, m, hl, _, _ => hl
  | pq :: r, l, m, hl, hm, hp => by
    intro x hx
    have := fold_bits r (bump l pq) (m + 1) (bump_bits hl hm (hp pq List.mem_cons_self)) (by omega) (fun q hq => hp q (List.mem_cons_of_mem _ hq)) x hx
    rw [List.length_cons]; omega
theorem sec_bits {ts : List (Int × Int)} (hp : ∀ pq ∈ ts, intBits pq.2 ≤ 2 ^ 20) : ∀ x ∈ secOf ts, intBits x ≤ 2 ^ 20 + ts.length :=
  fold_bits ts _ _ (fun x hx => by rw [(List.mem_replicate.mp hx).2]; decide) (Nat.le_refl _) hp
def firstOf (ns : List Int) (M : Int) : List Int := (rangeKs 0 (M - 0).toNat).map (fun k => draw ns (2 + k)) ++ (List.replicate (256 - M).toNat [(0 : Int)]).flatten
theorem first_bits {ns : List Int} (h : PyData.layable0 (.list (ns.map .int)) = true) {M : Int} (h0 : 0 ≤ M) (h1 : M ≤ 256) : ∀ x ∈ firstOf ns M, intBits x ≤ 2 ^ 20 := by
  intro x hx
  rcases List.mem_append.mp hx with q | q
  · obtain ⟨k, hk, rfl⟩ := List.mem_map.mp q
    have := mem_rangeKs hk
    exact draw_bits h (by omega) (by omega)
  · obtain ⟨l, hl, hx⟩ := List.mem_flatten.mp q
    rw [(List.mem_replicate.mp hl).2] at hx
    rw [List.mem_singleton.mp hx]; decide
theorem first_len {ns : List Int} {M : Int} (h0 : 0 ≤ M) (h1 : M ≤ 256) : (firstOf ns M).length = 256 := by
  have e : ∀ n : Nat, ((List.replicate n [(0 : Int)]).flatten).length = n := fun n => by
    induction n with
    | zero => rfl
    | succ n ih => rw [List.replicate_succ, List.flatten_cons, List.length_append, ih]; simp; omega
  rw [firstOf, List.length_append, List.length_map, rangeKs_length, e]
  omega
theorem mulOk2 {ts : List (Int × Int)} {l : List Int} {m : Nat} (hp : ∀ pq ∈ ts, intBits pq.2 ≤ 2 ^ 20) (hl : ∀ x ∈ l, intBits x ≤ m) (hm : m ≤ 2 ^ 21) : ∀ pq ∈ ts, ∀ x ∈ l, IntMulOk pq.2 x ∧ IntMulOk pq.2 (-x) :=
  fun pq hpq x hx => ⟨mulOk_of_bits (hp pq hpq) (hl x hx) (by omega), mulOk_of_bits (hp pq hpq) (bits_neg (hl x hx)) (by omega)⟩
theorem small_bits {l : List Int} (h : Small l) : ∀ x ∈ l, intBits x ≤ 64 := fun x hx => PySem.intBits_le_64 (by have := h x hx; omega) (by have := h x hx; omega)
section
variable {prog : Program} {w : World} {A : Around} {E : Value → Shared → Prop} {s : Shared} {env : Env} {h₀ : Heap} {x : Str} {body : List Stmt} {Q : Flow → Shared → Prop}
theorem law_loop2 {r : Addr} {b₀ : Int} {t₀ u₀ v₀ : Tok} {m₀ : Str → Option Value} {D l : Addr} {svs₀ fvs : List Value} {kf : Nat} {D1 : Addr} {p1 p4 p5 p6 p7 p8 p9 p10 : Addr × Obj} {ns : List Int} {many : Int} {tm tc : Tok} (hcn : ¬ ((63 : Nat) : Int) < (ns.length : Int))
    (hh : A.handled = none) (hr : IsRange s.heap r 0 b₀ 1 t₀ u₀ v₀) (hb0 : 0 ≤ b₀) (hb1 : b₀ < 64) (F : Fr h₀ env.locals s.heap m₀) (N : News h₀ env.locals s.heap [(D, listOf svs₀.toArray 0), p1, (l, listOf #[] 0), (D1, listOf fvs.toArray kf), p4, p5, p6, p7, p8, p9, p10]) (hk : ∀ p ∈ lawPs D l D1 p7 b₀ many tc tm, m₀ p.1 = some p.2) (hm0 : 0 ≤ many) (hm1 : many ≤ 256) (hf : IntsAre fvs (firstOf ns many)) (hlay : PyData.layable0 (.list (ns.map .int)) = true) (hi : IntsAre svs₀ (List.replicate (Int.toNat 256) [(0 : Int)]).flatten)
    (turn : ∀ (M : Int) (tM : Tok) (fs' : List Int) (k : Nat) (svs : List Value) (sec : List Int) (kt : Nat) (tvs : List Value) (ts : List (Int × Int)) (tups : List (Addr × Obj)) (i : Nat) t (u : Str → Option Value) h tk own, Hid2 (M = many ∧ fs' = firstOf ns many) → 0 ≤ M → M ≤ 256 → IntsAre fvs fs' → i < 64 → IntsAre svs sec → sec.length = 256 → tvs.length = i → TermsAre tups tvs ts → Hid2 (sec = secOf ts ∧ ts = termsOf ns M i) →
      OwnOff own (D :: l :: [D1, p7.1, p8.1, p9.1, p10.1]) → (∀ p ∈ tups ++ own, p.1 ≠ D) → (∀ p ∈ tups ++ own, p.1 ≠ l) → (∀ p ∈ own, ∀ q ∈ tups, p.1 ≠ q.1) →
      Fr h₀ env.locals h (fun y => if y = x then some (.int (0 + (i : Int)) t) else kstB u (lawPs D l D1 p7 b₀ M tc tM) y) → News h₀ env.locals h ((D, listOf svs.toArray k) :: (l, listOf tvs.toArray kt) :: (D1, listOf fvs.toArray kf) :: p7 :: p8 :: p9 :: p10 :: (tups ++ own)) →
      wpAny (model prog w) A (execs body env) (InvPostG h₀ env.locals (AnyS (lawLed D l [(D1, listOf fvs.toArray kf), p7, p8, p9, p10]) (fun _ => lawPs D l D1 p7 b₀ M tc tM) (LawP D l ns M) (i + 1)) own { s with heap := h, toks := tk } Q) E { s with heap := h, toks := tk })
    (done : ∀ (M : Int) (tM : Tok) (fs' : List Int) (k : Nat) (svs : List Value) (sec : List Int) (kt : Nat) (tvs : List Value) (ts : List (Int × Int)) (tups : List (Addr × Obj)) (u : Str → Option Value) h tk, Hid2 (M = many ∧ fs' = firstOf ns many) → 0 ≤ M → M ≤ 256 → IntsAre fvs fs' → IntsAre svs sec → sec.length = 256 → tvs.length = b₀.toNat → TermsAre tups tvs ts → Hid2 (sec = secOf ts ∧ ts = termsOf ns M b₀.toNat) → (∀ p ∈ tups, p.1 ≠ D ∧ p.1 ≠ l) → fs'.length = 256 → (∀ pq ∈ ts, ∀ x ∈ fs', IntMulOk pq.2 x ∧ IntMulOk pq.2 (-x)) → (∀ pq ∈ ts, ∀ x ∈ sec, IntMulOk pq.2 x ∧ IntMulOk pq.2 (-x)) → (∀ l, Small l → ∀ pq ∈ ts, ∀ x ∈ l, IntMulOk pq.2 x ∧ IntMulOk pq.2 (-x)) → Fr h₀ env.locals h (kstB u (lawPs D l D1 p7 b₀ M tc tM)) → News h₀ env.locals h ((D, listOf svs.toArray k) :: (l, listOf tvs.toArray kt) :: (D1, listOf fvs.toArray kf) :: p7 :: p8 :: p9 :: p10 :: tups) → Q .next { s with heap := h, toks := tk }) :
    wpAny (model prog w) A (pyIter (.ref r)) (fun it s₂ => LoopAtV prog w A h₀ env x body Q E it s₂) E s := by
  refine law_loop hcn hh hr hb0 hb1 F N hk hm0 hm1 hf hi turn ?_
  intro M tM fs' k svs sec kt tvs ts tups u h tk q1 q2 q3 q4 q5 q6 q7 q8 q9 q10 F' N'
  have hb : ∀ pq ∈ ts, intBits pq.2 ≤ 2 ^ 20 := by
    rw [q9.1.2]
    exact terms_bits hlay q2 q3 _ (by omega)
  have hlen : ts.length ≤ 64 := by rw [q9.1.2, termsOf_len]; omega
  refine done M tM fs' k svs sec kt tvs ts tups u h tk q1 q2 q3 q4 q5 q6 q7 q8 q9 q10 ?_ ?_ ?_ ?_ F' N'
  · rw [q1.1.2]; exact first_len hm0 hm1
  · rw [q1.1.2]; exact mulOk2 hb (first_bits hlay hm0 hm1) (by decide)
  · refine mulOk2 hb (m := 2 ^ 20 + 64) (fun x hx => ?_) (by decide)
    rw [q9.1.1] at hx
    exact Nat.le_trans (sec_bits hb x hx) (by omega)
  · intro l hl
    exact mulOk2 hb (small_bits hl) (by decide)
end
end
section
/-! congruence -/
def cg (x y : Int) : Prop := ∃ k, x = y + 3329 * k
theorem cg.rfl' (x : Int) : cg x x := ⟨0, by omega⟩
theorem cg.of_eq {x y : Int} (h : x = y) : cg x y := ⟨0, by omega⟩
theorem cg.symm {x y : Int} (h : cg x y) : cg y x := by obtain ⟨k, h⟩ := h; exact ⟨-k, by omega⟩
theorem cg.trans {x y z : Int} (h : cg x y) (h' : cg y z) : cg x z := by obtain ⟨k, h⟩ := h; obtain ⟨j, h'⟩ := h'; exact ⟨k + j, by omega⟩
theorem cg.add {x y u v : Int} (h : cg x y) (h' : cg u v) : cg (x + u) (y + v) := by obtain ⟨k, h⟩ := h; obtain ⟨j, h'⟩ := h'; exact ⟨k + j, by omega⟩
theorem cg.sub {x y u v : Int} (h : cg x y) (h' : cg u v) : cg (x - u) (y - v) := by obtain ⟨k, h⟩ := h; obtain ⟨j, h'⟩ := h'; exact ⟨k - j, by omega⟩
theorem cg.mul {x y u v : Int} (h : cg x y) (h' : cg u v) : cg (x * u) (y * v) := by
  obtain ⟨k, h⟩ := h; obtain ⟨j, h'⟩ := h'
  exact ⟨k * v + y * j + 3329 * k * j, by subst h; subst h'; grind⟩
theorem cg.neg {x y : Int} (h : cg x y) : cg (-x) (-y) := by obtain ⟨k, h⟩ := h; exact ⟨-k, by omega⟩
theorem cg.mulL (z : Int) {x y : Int} (h : cg x y) : cg (z * x) (z * y) := (cg.rfl' z).mul h
theorem cg_fmod (x : Int) : cg (x.fmod 3329) x := ⟨-(x.fdiv 3329), by have := Int.mul_fdiv_add_fmod x 3329; omega⟩
theorem cg_fmod_eq {x y : Int} (h : cg x y) : x.fmod 3329 = y.fmod 3329 := by
  obtain ⟨k, h⟩ := h
  rw [h, Int.add_mul_fmod_self_left]
/-! one layer, in terms of items -/
theorem getD_set' (l : List Int) (i n : Nat) (v : Int) : (l.set i v).getD n 0 = if i = n ∧ n < l.length then v else l.getD n 0 := by
  rw [List.getD_eq_getElem?_getD, List.getElem?_set, List.getD_eq_getElem?_getD]
  by_cases h : i = n
  · subst h
    by_cases h2 : i < l.length
    · simp [h2]
    · simp [h2]
  · simp [h]
theorem bfly_get (z : Int) (l j : Nat) (c : List Int) (hl : 0 < l) (hj : j + l < c.length) (n : Nat) :
    (bfly z l j c).getD n 0 = if n = j then c.getD j 0 + z * c.getD (j + l) 0 else if n = j + l then c.getD j 0 - z * c.getD (j + l) 0 else c.getD n 0 := by
  unfold bfly
  dsimp only
  rw [getD_set', getD_set', getD_set', List.length_set]
  by_cases h : n = j
  · subst h
    have h2 : ¬ n + l = n := by omega
    have h3 : n < c.length := by omega
    rw [if_pos ⟨rfl, h3⟩, if_neg (fun e => h2 e.1), if_pos rfl]
  · have h1 : ¬ j = n := fun e => h e.symm
    by_cases h2 : n = j + l
    · subst h2
      rw [if_neg (fun e => h1 e.1), if_pos ⟨rfl, hj⟩, if_neg h, if_pos rfl]
    · have h3 : ¬ j + l = n := fun e => h2 e.symm
      rw [if_neg (fun e => h1 e.1), if_neg (fun e => h3 e.1), if_neg h, if_neg h2]
theorem blk_get (z : Int) (l st : Nat) (c : List Int) (hl : 0 < l) (hc : st + 2 * l ≤ c.length) : ∀ (m : Nat), m ≤ l → ∀ n, (blk z l st m c).getD n 0 =
    if st ≤ n ∧ n < st + m then c.getD n 0 + z * c.getD (n + l) 0 else if st + l ≤ n ∧ n < st + l + m then c.getD (n - l) 0 - z * c.getD n 0 else c.getD n 0
  | 0, _, n => by
    have h1 : ¬ (st ≤ n ∧ n < st + 0) := by omega
    have h2 : ¬ (st + l ≤ n ∧ n < st + l + 0) := by omega
    rw [if_neg h1, if_neg h2]
    rfl
  | m + 1, hm, n => by
    rw [blk, bfly_get z l (st + m) _ hl (by rw [blk_len]; omega), blk_get z l st c hl hc m (by omega) n, blk_get z l st c hl hc m (by omega) (st + m), blk_get z l st c hl hc m (by omega) (st + m + l)]
    have a1 : ¬ (st ≤ st + m ∧ st + m < st + m) := by omega
    have a2 : ¬ (st + l ≤ st + m ∧ st + m < st + l + m) := by omega
    have a3 : ¬ (st ≤ st + m + l ∧ st + m + l < st + m) := by omega
    have a4 : ¬ (st + l ≤ st + m + l ∧ st + m + l < st + l + m) := by omega
    rw [if_neg a1, if_neg a2, if_neg a3, if_neg a4]
    by_cases h : n = st + m
    · subst h
      rw [if_pos rfl, if_pos (by omega)]
    · rw [if_neg h]
      by_cases h2 : n = st + m + l
      · subst h2
        have a5 : ¬ (st ≤ st + m + l ∧ st + m + l < st + (m + 1)) := by omega
        rw [if_pos rfl, if_neg a5, if_pos (by omega), show st + m + l - l = st + m by omega]
      · rw [if_neg h2]
        by_cases h3 : st ≤ n ∧ n < st + m
        · rw [if_pos h3, if_pos (by omega)]
        · have b1 : ¬ (st ≤ n ∧ n < st + (m + 1)) := by omega
          rw [if_neg h3, if_neg b1]
          by_cases h4 : st + l ≤ n ∧ n < st + l + m
          · rw [if_pos h4, if_pos (by omega)]
          · have b2 : ¬ (st + l ≤ n ∧ n < st + l + (m + 1)) := by omega
            rw [if_neg h4, if_neg b2]
theorem lay_get (zs : List Int) (l : Nat) (c : List Int) (hl : 0 < l) : ∀ (m : Nat), 2 * l * m ≤ c.length →
    (∀ b, b < m → ∀ r, r < l → (lay zs l m c).getD (2 * l * b + r) 0 = c.getD (2 * l * b + r) 0 + zs.getD (128 / l + b) 0 * c.getD (2 * l * b + l + r) 0 ∧
      (lay zs l m c).getD (2 * l * b + l + r) 0 = c.getD (2 * l * b + r) 0 - zs.getD (128 / l + b) 0 * c.getD (2 * l * b + l + r) 0) ∧
    ∀ n, 2 * l * m ≤ n → (lay zs l m c).getD n 0 = c.getD n 0
  | 0, _ => ⟨fun b hb => absurd hb (Nat.not_lt_zero b), fun n _ => rfl⟩
  | m + 1, hc => by
    have e : 2 * l * (m + 1) = 2 * l * m + 2 * l := Nat.mul_succ _ _
    obtain ⟨h1, h2⟩ := lay_get zs l c hl m (by omega)
    have g := blk_get (zs.getD (128 / l + m) 0) l (2 * l * m) (lay zs l m c) hl (by rw [lay_len]; omega) l (Nat.le_refl l)
    constructor
    · intro b hb r hr
      rw [lay, g, g]
      by_cases hbm : b = m
      · subst hbm
        have a1 : ¬ (2 * l * b ≤ 2 * l * b + l + r ∧ 2 * l * b + l + r < 2 * l * b + l) := by omega
        rw [if_pos (by omega), if_neg a1, if_pos (by omega), h2 _ (by omega), h2 _ (by omega), h2 _ (by omega), h2 _ (by omega), show 2 * l * b + l + r - l = 2 * l * b + r by omega, show 2 * l * b + r + l = 2 * l * b + l + r by omega]
        exact ⟨rfl, rfl⟩
      · have hb' : b < m := by omega
        have hx : 2 * l * (b + 1) ≤ 2 * l * m := Nat.mul_le_mul_left _ hb'
        rw [Nat.mul_succ] at hx
        rw [if_neg (by omega), if_neg (by omega), if_neg (by omega), if_neg (by omega)]
        exact h1 b hb' r hr
    · intro n hn
      rw [lay, g, if_neg (by omega), if_neg (by omega)]
      exact h2 n (by omega)
end
section
def Lyr (z : Nat → Int) (l nb : Nat) (F G : Nat → Int) : Prop :=
  ∀ b, b < nb → ∀ r, r < l → G (2 * l * b + r) = F (2 * l * b + r) + z b * F (2 * l * b + l + r) ∧ G (2 * l * b + l + r) = F (2 * l * b + r) - z b * F (2 * l * b + l + r)
theorem lay_split {l nb : Nat} (h : Lay l nb) {n : Nat} (hn : n < 256) : ∃ b, b < nb ∧ ∃ r, r < l ∧ (n = 2 * l * b + r ∨ n = 2 * l * b + l + r) := by
  have he := h.eq
  have hp := h.pos
  have h1 := Nat.div_add_mod n (2 * l)
  have h2 := Nat.mod_lt n (show 0 < 2 * l by omega)
  have h3 : n / (2 * l) < nb := Nat.div_lt_of_lt_mul (by omega)
  by_cases hr : n % (2 * l) < l
  · exact ⟨_, h3, _, hr, .inl h1.symm⟩
  · exact ⟨_, h3, n % (2 * l) - l, by omega, .inr (by omega)⟩
def T (i : Nat) (c : List Int) (n : Nat) : Int := (tr zetas i c).getD n 0
def zt (i b : Nat) : Int := zetas.getD (2 ^ i + b) 0
theorem tr_lyr {i : Nat} (hi : i ≤ 6) {c : List Int} (hc : c.length = 256) : Lyr (zt i) (2 ^ (7 - i)) (2 ^ i) (T i c) (T (i + 1) c) := by
  intro b hb r hr
  have h := Lay.of i (by omega)
  have g := (lay_get zetas (2 ^ (7 - i)) (tr zetas i c) h.pos.1 (2 ^ i) (by rw [tr_len, hc, h.eq]; exact Nat.le_refl _)).1 b hb r hr
  rw [h.div] at g
  exact g
theorem lyr_cg {z : Nat → Int} {l nb : Nat} (h : Lay l nb) {F G F' G' : Nat → Int} (a : Lyr z l nb F G) (a' : Lyr z l nb F' G') (e : ∀ n, n < 256 → cg (F n) (F' n)) : ∀ n, n < 256 → cg (G n) (G' n) := by
  intro n hn
  obtain ⟨b, hb, r, hr, hx⟩ := lay_split h hn
  have hlt := h.lt hb
  rcases hx with rfl | rfl
  · rw [(a b hb r hr).1, (a' b hb r hr).1]
    exact (e _ (by omega)).add ((e _ (by omega)).mulL _)
  · rw [(a b hb r hr).2, (a' b hb r hr).2]
    exact (e _ (by omega)).sub ((e _ (by omega)).mulL _)
theorem lyr_lin {z : Nat → Int} {l nb : Nat} (h : Lay l nb) {q : Int} {F G F' G' F2 G2 : Nat → Int} (a : Lyr z l nb F G) (a' : Lyr z l nb F' G') (a2 : Lyr z l nb F2 G2) (e : ∀ n, n < 256 → F n = F' n + q * F2 n) : ∀ n, n < 256 → G n = G' n + q * G2 n := by
  intro n hn
  obtain ⟨b, hb, r, hr, hx⟩ := lay_split h hn
  have hlt := h.lt hb
  rcases hx with rfl | rfl
  · rw [(a b hb r hr).1, (a' b hb r hr).1, (a2 b hb r hr).1, e _ (by omega), e (2 * l * b + l + r) (by omega)]
    grind
  · rw [(a b hb r hr).2, (a' b hb r hr).2, (a2 b hb r hr).2, e _ (by omega), e (2 * l * b + l + r) (by omega)]
    grind
theorem lyr_zero {z : Nat → Int} {l nb : Nat} (h : Lay l nb) {F G : Nat → Int} (a : Lyr z l nb F G) (e : ∀ n, n < 256 → F n = 0) : ∀ n, n < 256 → G n = 0 := by
  intro n hn
  obtain ⟨b, hb, r, hr, hx⟩ := lay_split h hn
  have hlt := h.lt hb
  rcases hx with rfl | rfl
  · rw [(a b hb r hr).1, e _ (by omega), e (2 * l * b + l + r) (by omega)]; simp
  · rw [(a b hb r hr).2, e _ (by omega), e (2 * l * b + l + r) (by omega)]; simp
theorem T_cg {c d : List Int} (hc : c.length = 256) (hd : d.length = 256) (e : ∀ n, n < 256 → cg (c.getD n 0) (d.getD n 0)) : ∀ i, i ≤ 7 → ∀ n, n < 256 → cg (T i c n) (T i d n)
  | 0, _ => e
  | i + 1, hi => lyr_cg (Lay.of i (by omega)) (tr_lyr (by omega) hc) (tr_lyr (by omega) hd) (T_cg hc hd e i (by omega))
theorem T_lin {q : Int} {c d f : List Int} (hc : c.length = 256) (hd : d.length = 256) (hf : f.length = 256) (e : ∀ n, n < 256 → c.getD n 0 = d.getD n 0 + q * f.getD n 0) : ∀ i, i ≤ 7 → ∀ n, n < 256 → T i c n = T i d n + q * T i f n
  | 0, _ => e
  | i + 1, hi => lyr_lin (Lay.of i (by omega)) (tr_lyr (by omega) hc) (tr_lyr (by omega) hd) (tr_lyr (by omega) hf) (T_lin hc hd hf e i (by omega))
theorem T_zero {c : List Int} (hc : c.length = 256) (e : ∀ n, n < 256 → c.getD n 0 = 0) : ∀ i, i ≤ 7 → ∀ n, n < 256 → T i c n = 0
  | 0, _ => e
  | i + 1, hi => lyr_zero (Lay.of i (by omega)) (tr_lyr (by omega) hc) (T_zero hc e i (by omega))
/-! the one -/
def OneS (s nb : Nat) (F : Nat → Int) : Prop := ∀ b, b < nb → ∀ r, r < s → F (s * b + r) = if r = 0 then 1 else 0
theorem half_split {nb b : Nat} (hb : b < 2 * nb) : ∃ a, a < nb ∧ (b = 2 * a ∨ b = 2 * a + 1) := ⟨b / 2, by omega, by omega⟩
theorem ix0 (l a r : Nat) : l * (2 * a) + r = 2 * l * a + r := by rw [← Nat.mul_assoc, Nat.mul_comm l 2]
theorem ix1 (l a r : Nat) : l * (2 * a + 1) + r = 2 * l * a + l + r := by rw [Nat.mul_add, ← Nat.mul_assoc, Nat.mul_comm l 2, Nat.mul_one]
theorem lyr_one {z : Nat → Int} {l nb : Nat} (hl : 0 < l) {F G : Nat → Int} (a : Lyr z l nb F G) (h : OneS (2 * l) nb F) : OneS l (2 * nb) G := by
  intro b hb r hr
  obtain ⟨c, hc, e | e⟩ := half_split hb
  · subst e
    rw [ix0, (a c hc r hr).1, h c hc r (by omega), Nat.add_assoc, h c hc (l + r) (by omega), if_neg (show ¬ l + r = 0 by omega)]
    simp
  · subst e
    rw [ix1, (a c hc r hr).2, h c hc r (by omega), Nat.add_assoc, h c hc (l + r) (by omega), if_neg (show ¬ l + r = 0 by omega)]
    simp
/-! the turn by one place -/
def XS (s nb : Nat) (γ : Nat → Int) (F G : Nat → Int) : Prop := ∀ b, b < nb → cg (G (s * b)) (γ b * F (s * b + (s - 1))) ∧ ∀ r, r + 1 < s → cg (G (s * b + (r + 1))) (F (s * b + r))
theorem lyr_x {z γ γ' : Nat → Int} {l nb : Nat} (hl : 0 < l) {F G F' G' : Nat → Int} (a : Lyr z l nb F F') (a' : Lyr z l nb G G') (hz : ∀ b, b < nb → cg (z b * z b) (γ b)) (h0 : ∀ b, b < nb → γ' (2 * b) = z b) (h1 : ∀ b, b < nb → γ' (2 * b + 1) = - z b) (h : XS (2 * l) nb γ F G) : XS l (2 * nb) γ' F' G' := by
  have key : ∀ c, c < nb → ∀ r, r + 1 < l → (cg (G' (2 * l * c + (r + 1))) (F' (2 * l * c + r)) ∧ cg (G' (2 * l * c + l + (r + 1))) (F' (2 * l * c + l + r))) := by
    intro c hc r hr
    have x1 := (h c hc).2 r (by omega)
    have x2 := (h c hc).2 (l + r) (by omega)
    rw [show 2 * l * c + (l + r + 1) = 2 * l * c + l + (r + 1) by omega, show 2 * l * c + (l + r) = 2 * l * c + l + r by omega] at x2
    rw [(a c hc r (by omega)).1, (a c hc r (by omega)).2, (a' c hc (r + 1) hr).1, (a' c hc (r + 1) hr).2]
    exact ⟨x1.add (x2.mulL _), x1.sub (x2.mulL _)⟩
  have key0 : ∀ c, c < nb → cg (G' (2 * l * c + 0)) (z c * F' (2 * l * c + (l - 1))) ∧ cg (G' (2 * l * c + l + 0)) (-z c * F' (2 * l * c + l + (l - 1))) := by
    intro c hc
    have x1 := (h c hc).1
    have x2 := (h c hc).2 (l - 1) (by omega)
    rw [show 2 * l * c + (l - 1 + 1) = 2 * l * c + l + 0 by omega] at x2
    rw [show 2 * l * c + (2 * l - 1) = 2 * l * c + l + (l - 1) by omega] at x1
    rw [(a c hc (l - 1) (by omega)).1, (a c hc (l - 1) (by omega)).2, (a' c hc 0 hl).1, (a' c hc 0 hl).2]
    have x3 := x1.trans ((hz c hc).symm.mul (cg.rfl' (F (2 * l * c + l + (l - 1)))))
    refine ⟨(x3.add (x2.mulL (z c))).trans (.of_eq (by grind)), (x3.sub (x2.mulL (z c))).trans (.of_eq (by grind))⟩
  intro b hb
  obtain ⟨c, hc, e | e⟩ := half_split hb
  · subst e
    have q := ix0 l c
    refine ⟨?_, fun r hr => ?_⟩
    · have := (key0 c hc).1
      rw [h0 c hc, q, ← Nat.add_zero (l * (2 * c)), q]
      exact this
    · rw [q, q]; exact (key c hc r hr).1
  · subst e
    have q := ix1 l c
    refine ⟨?_, fun r hr => ?_⟩
    · have := (key0 c hc).2
      rw [h1 c hc, q, ← Nat.add_zero (l * (2 * c + 1)), q]
      exact this
    · rw [q, q]; exact (key c hc r hr).2
end
section
/-! the gammas -/
def gam : Nat → Nat → Int
  | 0, _ => -1
  | i + 1, b => if b % 2 = 0 then zt i (b / 2) else - zt i (b / 2)
theorem zeta_sq : ((List.range 128).all fun k => k == 0 || ((zetas.getD k 0 * zetas.getD k 0 - (if k = 1 then -1 else if k % 2 = 0 then zetas.getD (k / 2) 0 else - zetas.getD (k / 2) 0)) % 3329 == 0)) = true := by decide +kernel
theorem zeta_sq' {k : Nat} (h0 : 0 < k) (h1 : k < 128) : cg (zetas.getD k 0 * zetas.getD k 0) (if k = 1 then -1 else if k % 2 = 0 then zetas.getD (k / 2) 0 else - zetas.getD (k / 2) 0) := by
  have h := List.all_eq_true.mp zeta_sq k (List.mem_range.mpr h1)
  rw [Bool.or_eq_true] at h
  rcases h with h | h
  · exact absurd (by simpa using h) (Nat.ne_of_gt h0)
  · have h := eq_of_beq h
    obtain ⟨j, hj⟩ := Int.dvd_of_emod_eq_zero h
    exact ⟨j, by omega⟩
theorem zt_sq {i b : Nat} (hi : i ≤ 6) (hb : b < 2 ^ i) : cg (zt i b * zt i b) (gam i b) := by
  have h1 : 2 ^ i ≤ 2 ^ 6 := Nat.pow_le_pow_right (by decide) hi
  have h2 : 0 < 2 ^ i := Nat.pow_pos (by decide)
  have h := zeta_sq' (k := 2 ^ i + b) (by omega) (by omega)
  cases i with
  | zero =>
    have : b = 0 := by omega
    subst this
    exact h
  | succ i =>
    have h3 : 0 < 2 ^ i := Nat.pow_pos (by decide)
    have e : 2 ^ (i + 1) = 2 * 2 ^ i := by rw [Nat.pow_succ, Nat.mul_comm]
    rw [if_neg (by omega)] at h
    have e1 : (2 ^ (i + 1) + b) % 2 = b % 2 := by omega
    have e2 : (2 ^ (i + 1) + b) / 2 = 2 ^ i + b / 2 := by omega
    rw [e1, e2] at h
    exact h
theorem pw7 {i : Nat} (hi : i ≤ 6) : 2 ^ (7 - i) = 2 * 2 ^ (7 - (i + 1)) := by
  rw [show 7 - i = (7 - (i + 1)) + 1 by omega, Nat.pow_succ, Nat.mul_comm]
theorem T_one {c : List Int} (hc : c.length = 256) (h : ∀ n, n < 256 → c.getD n 0 = if n = 0 then 1 else 0) : ∀ i, i ≤ 7 → OneS (2 * 2 ^ (7 - i)) (2 ^ i) (T i c)
  | 0, _ => by
    intro b hb r hr
    have : b = 0 := by simpa using hb
    subst this
    have hr' : r < 256 := by simpa using hr
    show c.getD (2 * 2 ^ (7 - 0) * 0 + r) 0 = _
    rw [Nat.mul_zero, Nat.zero_add]
    exact h r hr'
  | i + 1, hi => by
    have q := lyr_one (Lay.of i (by omega)).pos.1 (tr_lyr (by omega) hc) (T_one hc h i (by omega))
    rw [pw7 (by omega)] at q
    rw [Nat.pow_succ 2 i, Nat.mul_comm (2 ^ i) 2]
    exact q
theorem T_x {c d : List Int} (hc : c.length = 256) (hd : d.length = 256) (h : XS 256 1 (fun _ => -1) (fun n => c.getD n 0) (fun n => d.getD n 0)) : ∀ i, i ≤ 7 → XS (2 * 2 ^ (7 - i)) (2 ^ i) (gam i) (T i c) (T i d)
  | 0, _ => h
  | i + 1, hi => by
    have q := lyr_x (γ' := gam (i + 1)) (Lay.of i (by omega)).pos.1 (tr_lyr (by omega) hc) (tr_lyr (by omega) hd) (fun b hb => zt_sq (by omega) hb)
      (fun b hb => by rw [gam, if_pos (by omega), show 2 * b / 2 = b by omega]) (fun b hb => by rw [gam, if_neg (by omega), show (2 * b + 1) / 2 = b by omega]) (T_x hc hd h i (by omega))
    rw [pw7 (by omega)] at q
    rw [Nat.pow_succ 2 i, Nat.mul_comm (2 ^ i) 2]
    exact q
/-! the slots' product -/
def E (c : List Int) (n : Nat) : Int := T 7 c n
def g7 (b : Nat) : Int := gam 7 b
def IsP (A B P : Nat → Int) : Prop := ∀ b, b < 128 → cg (P (2 * b)) (A (2 * b) * B (2 * b) + g7 b * (A (2 * b + 1) * B (2 * b + 1))) ∧ cg (P (2 * b + 1)) (A (2 * b + 1) * B (2 * b) + A (2 * b) * B (2 * b + 1))
def cgF (A B : Nat → Int) : Prop := ∀ n, n < 256 → cg (A n) (B n)
theorem E_x {c d : List Int} (hc : c.length = 256) (hd : d.length = 256) (h0 : d.getD 0 0 = - c.getD 255 0) (h1 : ∀ n, n < 255 → d.getD (n + 1) 0 = c.getD n 0) {b : Nat} (hb : b < 128) : cg (E d (2 * b)) (g7 b * E c (2 * b + 1)) ∧ cg (E d (2 * b + 1)) (E c (2 * b)) := by
  have h : XS 256 1 (fun _ => -1) (fun n => c.getD n 0) (fun n => d.getD n 0) := by
    intro b hb
    have : b = 0 := by omega
    subst this
    refine ⟨.of_eq ?_, fun r hr => .of_eq ?_⟩
    · show d.getD 0 0 = -1 * c.getD 255 0
      rw [h0]; omega
    · show d.getD (256 * 0 + (r + 1)) 0 = c.getD (256 * 0 + r) 0
      rw [Nat.mul_zero, Nat.zero_add, Nat.zero_add]
      exact h1 r (by omega)
  have q := T_x hc hd h 7 (Nat.le_refl _) b hb
  exact ⟨q.1, q.2 0 (by decide)⟩
theorem IsP.symm {A B P : Nat → Int} (h : IsP A B P) : IsP B A P := fun b hb => ⟨(h b hb).1.trans (.of_eq (by grind)), (h b hb).2.trans (.of_eq (by grind))⟩
theorem IsP.uniq {A B P P' : Nat → Int} (h : IsP A B P) (h' : IsP A B P') : cgF P P' := by
  intro n hn
  have hb : n / 2 < 128 := by omega
  have e : n = 2 * (n / 2) ∨ n = 2 * (n / 2) + 1 := by omega
  rcases e with e | e
  · rw [e]; exact (h _ hb).1.trans (h' _ hb).1.symm
  · rw [e]; exact (h _ hb).2.trans (h' _ hb).2.symm
theorem IsP.congr {A B P A' B' P' : Nat → Int} (h : IsP A B P) (a : cgF A A') (b : cgF B B') (p : cgF P P') : IsP A' B' P' := fun k hk =>
  ⟨(p _ (by omega)).symm.trans ((h k hk).1.trans (((a _ (by omega)).mul (b _ (by omega))).add (((a _ (by omega)).mul (b _ (by omega))).mulL _))),
   (p _ (by omega)).symm.trans ((h k hk).2.trans (((a _ (by omega)).mul (b _ (by omega))).add ((a _ (by omega)).mul (b _ (by omega)))))⟩
theorem IsP.assoc {A B C AB BC R : Nat → Int} (h1 : IsP A B AB) (h2 : IsP B C BC) (h3 : IsP AB C R) : IsP A BC R := by
  intro b hb
  obtain ⟨x0, x1⟩ := h1 b hb
  obtain ⟨y0, y1⟩ := h2 b hb
  obtain ⟨z0, z1⟩ := h3 b hb
  constructor
  · refine z0.trans (((x0.mul (cg.rfl' _)).add ((x1.mul (cg.rfl' _)).mulL _)).trans ?_)
    refine cg.trans (.of_eq ?_) (((cg.rfl' (A (2 * b))).mul y0.symm).add (((cg.rfl' (A (2 * b + 1))).mul y1.symm).mulL (g7 b)))
    grind
  · refine z1.trans (((x1.mul (cg.rfl' _)).add (x0.mul (cg.rfl' _))).trans ?_)
    refine cg.trans (.of_eq ?_) (((cg.rfl' (A (2 * b + 1))).mul y0.symm).add ((cg.rfl' (A (2 * b))).mul y1.symm))
    grind
end
section
theorem turned_len {f : List Int} (hf : f.length = 256) {p : Nat} (hp : p ≤ 256) : (turned f p).length = 256 := by
  rw [turned, List.length_append, List.length_map, List.length_drop, List.length_take, hf]; omega
theorem turned_get {f : List Int} (hf : f.length = 256) {p : Nat} (hp : p ≤ 256) (n : Nat) (hn : n < 256) : (turned f p).getD n 0 = if n < p then - f.getD (256 - p + n) 0 else f.getD (n - p) 0 := by
  have hl : ((f.drop (256 - p)).map fun x => -x).length = p := by rw [List.length_map, List.length_drop, hf]; omega
  rw [turned, List.getD_eq_getElem?_getD]
  by_cases h : n < p
  · rw [if_pos h, List.getElem?_append_left (by omega), List.getElem?_map, List.getElem?_drop, List.getD_eq_getElem?_getD]
    have h2 : 256 - p + n < f.length := by omega
    simp [h2]
  · rw [if_neg h, List.getElem?_append_right (by omega), hl, List.getElem?_take, if_pos (by omega), List.getD_eq_getElem?_getD]
def mono (p : Nat) : List Int := (List.replicate 256 (0 : Int)).set p 1
theorem mono_len (p : Nat) : (mono p).length = 256 := by simp [mono]
theorem zeros_get (n : Nat) : (List.replicate 256 (0 : Int)).getD n 0 = 0 := by
  rw [List.getD_eq_getElem?_getD, List.getElem?_replicate]; split <;> rfl
theorem mono_get (p n : Nat) (hn : n < 256) : (mono p).getD n 0 = if n = p then 1 else 0 := by
  rw [mono, getD_set', zeros_get, List.length_replicate]
  by_cases h : n = p
  · rw [if_pos ⟨h.symm, hn⟩, if_pos h]
  · rw [if_neg (fun e => h e.1.symm), if_neg h]
def mulrel (f g out : List Int) : Prop := IsP (E f) (E g) (E out)
theorem mul_mono {f : List Int} (hf : f.length = 256) : ∀ p, p < 256 → mulrel f (mono p) (turned f p)
  | 0, _ => by
    intro b hb
    have h := T_one (mono_len 0) (fun n hn => mono_get 0 n hn) 7 (Nat.le_refl _) b hb
    have h0 : E (mono 0) (2 * b) = 1 := h 0 (by decide)
    have h1 : E (mono 0) (2 * b + 1) = 0 := h 1 (by decide)
    have e : turned f 0 = f := by
      rw [turned, Nat.sub_zero, List.drop_of_length_le (by omega), List.take_of_length_le (by omega)]; rfl
    rw [h0, h1, e]
    exact ⟨.of_eq (by grind), .of_eq (by grind)⟩
  | p + 1, hp => by
    have ih := mul_mono hf p (by omega)
    intro b hb
    have x := E_x (c := turned f p) (d := turned f (p + 1)) (turned_len hf (by omega)) (turned_len hf (by omega))
      (by rw [turned_get hf (by omega) 0 (by omega), turned_get hf (by omega) 255 (by omega), if_pos (by omega), if_neg (by omega), show 256 - (p + 1) + 0 = 255 - p by omega])
      (fun n hn => by
        rw [turned_get hf (by omega) (n + 1) (by omega), turned_get hf (by omega) n (by omega)]
        by_cases h : n < p
        · rw [if_pos (by omega), if_pos h, show 256 - (p + 1) + (n + 1) = 256 - p + n by omega]
        · rw [if_neg (by omega), if_neg h, show n + 1 - (p + 1) = n - p by omega]) hb
    have y := E_x (c := mono p) (d := mono (p + 1)) (mono_len p) (mono_len (p + 1))
      (by rw [mono_get _ _ (by omega), mono_get _ _ (by omega), if_neg (by omega), if_neg (by omega)]; rfl)
      (fun n hn => by
        rw [mono_get _ _ (by omega), mono_get _ _ (by omega)]
        by_cases h : n = p
        · rw [if_pos (by omega), if_pos h]
        · rw [if_neg (by omega), if_neg h]) hb
    obtain ⟨i0, i1⟩ := ih b hb
    obtain ⟨x0, x1⟩ := x
    obtain ⟨y0, y1⟩ := y
    constructor
    · refine x0.trans ((i1.mulL _).trans ?_)
      refine cg.trans (.of_eq ?_) (((y0.symm).mulL (E f (2 * b))).add (((y1.symm).mulL (E f (2 * b + 1))).mulL (g7 b)))
      grind
    · refine x1.trans (i0.trans ?_)
      refine cg.trans (.of_eq ?_) (((y0.symm).mulL (E f (2 * b + 1))).add ((y1.symm).mulL (E f (2 * b))))
      grind
theorem addTo_len {out y : List Int} (q : Int) (h : out.length = 256) (hy : y.length = 256) : (addTo out q y).length = 256 := by rw [addTo, List.length_zipWith, h, hy]; rfl
theorem addTo_get {out y : List Int} (q : Int) (h : out.length = 256) (hy : y.length = 256) (n : Nat) (hn : n < 256) : (addTo out q y).getD n 0 = out.getD n 0 + q * y.getD n 0 := by
  rw [addTo, List.getD_eq_getElem?_getD, List.getElem?_zipWith, List.getD_eq_getElem?_getD, List.getD_eq_getElem?_getD, List.getElem?_eq_getElem (by omega), List.getElem?_eq_getElem (by omega)]
  rfl
theorem bump_get {g : List Int} (hg : g.length = 256) {p q : Int} (h0 : 0 ≤ p) (h1 : p < 256) (n : Nat) (hn : n < 256) : (bump g (p, q)).getD n 0 = g.getD n 0 + q * (mono p.toNat).getD n 0 := by
  show (g.set p.toNat (g.getD p.toNat 0 + q)).getD n 0 = _
  rw [getD_set', mono_get _ _ hn, hg]
  by_cases h : n = p.toNat
  · subst h
    rw [if_pos ⟨rfl, hn⟩, if_pos rfl]; omega
  · rw [if_neg (fun e => h e.1.symm), if_neg h]; omega
theorem mul_step {f g out : List Int} (hf : f.length = 256) (hg : g.length = 256) (ho : out.length = 256) {p q : Int} (h0 : 0 ≤ p) (h1 : p < 256) (h : mulrel f g out) : mulrel f (bump g (p, q)) (addTo out q (turned f p.toNat)) := by
  have hm := mul_mono hf p.toNat (by omega)
  have ht := turned_len hf (p := p.toNat) (by omega)
  have eg := T_lin (by rw [bump_len, hg]) hg (mono_len p.toNat) (bump_get (q := q) hg h0 h1) 7 (Nat.le_refl _)
  have eo := T_lin (addTo_len q ho ht) ho ht (addTo_get q ho ht) 7 (Nat.le_refl _)
  intro b hb
  obtain ⟨a0, a1⟩ := h b hb
  obtain ⟨b0, b1⟩ := hm b hb
  unfold E at *
  rw [eg _ (by omega), eg _ (by omega), eo _ (by omega), eo _ (by omega)]
  exact ⟨(a0.add (b0.mulL q)).trans (.of_eq (by grind)), (a1.add (b1.mulL q)).trans (.of_eq (by grind))⟩
def TsOk (ts : List (Int × Int)) : Prop := ∀ pq ∈ ts, 0 ≤ pq.1 ∧ pq.1 < 256
theorem mul_go {f : List Int} (hf : f.length = 256) (ts : List (Int × Int)) : ∀ (g out : List Int), TsOk ts → g.length = 256 → out.length = 256 → mulrel f g out → mulrel f (ts.foldl bump g) (plainGo f out ts) ∧ (plainGo f out ts).length = 256 := by
  induction ts with
  | nil => intro g out _ _ ho h; exact ⟨h, ho⟩
  | cons pq r ih =>
    intro g out ht hg ho h
    obtain ⟨p, q⟩ := pq
    have hp := ht (p, q) List.mem_cons_self
    obtain ⟨hp0, hp1⟩ : 0 ≤ p ∧ p < 256 := hp
    have hl := addTo_len q ho (turned_len hf (p := p.toNat) (by omega))
    have hb : (bump g (p, q)).length = 256 := by rw [bump_len, hg]
    have h2 := mul_step (q := q) hf hg ho hp0 hp1 h
    rw [List.foldl_cons, plainGo]
    exact ih _ _ (fun x hx => ht x (List.mem_cons_of_mem _ hx)) hb hl h2
theorem mul_plain {f : List Int} (hf : f.length = 256) {ts : List (Int × Int)} (ht : TsOk ts) : mulrel f (secOf ts) (plainGo f (List.replicate 256 0) ts) ∧ (plainGo f (List.replicate 256 0) ts).length = 256 := by
  refine mul_go hf ts _ _ ht List.length_replicate List.length_replicate ?_
  have z := T_zero (c := List.replicate 256 0) List.length_replicate (fun n _ => zeros_get n) 7 (Nat.le_refl _)
  intro b hb
  unfold E
  rw [z _ (by omega), z _ (by omega)]
  exact ⟨.of_eq (by grind), .of_eq (by grind)⟩
end
section
theorem ibfly_get (z : Int) (l j : Nat) (c : List Int) (hl : 0 < l) (hj : j + l < c.length) (n : Nat) :
    (ibfly z l j c).getD n 0 = if n = j then c.getD j 0 + c.getD (j + l) 0 else if n = j + l then z * (c.getD (j + l) 0 - c.getD j 0) else c.getD n 0 := by
  unfold ibfly
  dsimp only
  have h1 : ¬ j = j + l := by omega
  have h2 : ¬ j + l = j := by omega
  have hjc : j < c.length := by omega
  by_cases h : n = j
  · subst h
    simp only [getD_set', List.length_set, h1, h2, false_and, true_and, if_false, hj, hjc, if_true]
  · have h3 : ¬ j = n := fun e => h e.symm
    by_cases h4 : n = j + l
    · subst h4
      simp only [getD_set', List.length_set, h1, h2, false_and, true_and, if_false, hj, hjc, if_true]
    · have h5 : ¬ j + l = n := fun e => h4 e.symm
      simp only [getD_set', List.length_set, h, h3, h4, h5, false_and, if_false]
theorem iblk_get (z : Int) (l st : Nat) (c : List Int) (hl : 0 < l) (hc : st + 2 * l ≤ c.length) : ∀ (m : Nat), m ≤ l → ∀ n, (iblk z l st m c).getD n 0 =
    if st ≤ n ∧ n < st + m then c.getD n 0 + c.getD (n + l) 0 else if st + l ≤ n ∧ n < st + l + m then z * (c.getD n 0 - c.getD (n - l) 0) else c.getD n 0
  | 0, _, n => by
    have h1 : ¬ (st ≤ n ∧ n < st + 0) := by omega
    have h2 : ¬ (st + l ≤ n ∧ n < st + l + 0) := by omega
    rw [if_neg h1, if_neg h2]
    rfl
  | m + 1, hm, n => by
    rw [iblk, ibfly_get z l (st + m) _ hl (by rw [iblk_len]; omega), iblk_get z l st c hl hc m (by omega) n, iblk_get z l st c hl hc m (by omega) (st + m), iblk_get z l st c hl hc m (by omega) (st + m + l)]
    have a1 : ¬ (st ≤ st + m ∧ st + m < st + m) := by omega
    have a2 : ¬ (st + l ≤ st + m ∧ st + m < st + l + m) := by omega
    have a3 : ¬ (st ≤ st + m + l ∧ st + m + l < st + m) := by omega
    have a4 : ¬ (st + l ≤ st + m + l ∧ st + m + l < st + l + m) := by omega
    rw [if_neg a1, if_neg a2, if_neg a3, if_neg a4]
    by_cases h : n = st + m
    · subst h
      rw [if_pos rfl, if_pos (by omega)]
    · rw [if_neg h]
      by_cases h2 : n = st + m + l
      · subst h2
        have a5 : ¬ (st ≤ st + m + l ∧ st + m + l < st + (m + 1)) := by omega
        rw [if_pos rfl, if_neg a5, if_pos (by omega), show st + m + l - l = st + m by omega]
      · rw [if_neg h2]
        by_cases h3 : st ≤ n ∧ n < st + m
        · rw [if_pos h3, if_pos (by omega)]
        · have b1 : ¬ (st ≤ n ∧ n < st + (m + 1)) := by omega
          rw [if_neg h3, if_neg b1]
          by_cases h4 : st + l ≤ n ∧ n < st + l + m
          · rw [if_pos h4, if_pos (by omega)]
          · have b2 : ¬ (st + l ≤ n ∧ n < st + l + (m + 1)) := by omega
            rw [if_neg h4, if_neg b2]
theorem ilay_get (zs : List Int) (l nb : Nat) (c : List Int) (hl : 0 < l) : ∀ (m : Nat), 2 * l * m ≤ c.length →
    (∀ b, b < m → ∀ r, r < l → (ilay zs l nb m c).getD (2 * l * b + r) 0 = c.getD (2 * l * b + r) 0 + c.getD (2 * l * b + l + r) 0 ∧
      (ilay zs l nb m c).getD (2 * l * b + l + r) 0 = zs.getD (2 * nb - 1 - b) 0 * (c.getD (2 * l * b + l + r) 0 - c.getD (2 * l * b + r) 0)) ∧
    ∀ n, 2 * l * m ≤ n → (ilay zs l nb m c).getD n 0 = c.getD n 0
  | 0, _ => ⟨fun b hb => absurd hb (Nat.not_lt_zero b), fun n _ => rfl⟩
  | m + 1, hc => by
    have e : 2 * l * (m + 1) = 2 * l * m + 2 * l := Nat.mul_succ _ _
    obtain ⟨h1, h2⟩ := ilay_get zs l nb c hl m (by omega)
    have g := iblk_get (zs.getD (2 * nb - 1 - m) 0) l (2 * l * m) (ilay zs l nb m c) hl (by rw [ilay_len]; omega) l (Nat.le_refl l)
    constructor
    · intro b hb r hr
      rw [ilay, g, g]
      by_cases hbm : b = m
      · subst hbm
        have a1 : ¬ (2 * l * b ≤ 2 * l * b + l + r ∧ 2 * l * b + l + r < 2 * l * b + l) := by omega
        rw [if_pos (by omega), if_neg a1, if_pos (by omega), h2 _ (by omega), h2 _ (by omega), h2 _ (by omega), h2 _ (by omega), show 2 * l * b + l + r - l = 2 * l * b + r by omega, show 2 * l * b + r + l = 2 * l * b + l + r by omega]
        exact ⟨rfl, rfl⟩
      · have hb' : b < m := by omega
        have hx : 2 * l * (b + 1) ≤ 2 * l * m := Nat.mul_le_mul_left _ hb'
        rw [Nat.mul_succ] at hx
        rw [if_neg (by omega), if_neg (by omega), if_neg (by omega), if_neg (by omega)]
        exact h1 b hb' r hr
    · intro n hn
      rw [ilay, g, if_neg (by omega), if_neg (by omega)]
      exact h2 n (by omega)
theorem zeta_inv : ((List.range 7).all fun i => (List.range (2 ^ i)).all fun b => (zetas.getD (2 * 2 ^ i - 1 - b) 0 * zetas.getD (2 ^ i + b) 0 + 1) % 3329 == 0) = true := by decide +kernel
theorem zeta_inv' {i b : Nat} (hi : i ≤ 6) (hb : b < 2 ^ i) : cg (zetas.getD (2 * 2 ^ i - 1 - b) 0 * zt i b) (-1) := by
  have h := List.all_eq_true.mp (List.all_eq_true.mp zeta_inv i (List.mem_range.mpr (by omega))) b (List.mem_range.mpr hb)
  obtain ⟨j, hj⟩ := Int.dvd_of_emod_eq_zero (eq_of_beq h)
  exact ⟨j, by unfold zt; omega⟩
def inv2 : Nat → Int
  | 0 => 1
  | j + 1 => 2 * inv2 j
theorem itr_inv {A h : List Int} (hA : A.length = 256) (hh : h.length = 256) (e : cgF (fun n => A.getD n 0) (E h)) : ∀ j, j ≤ 7 → ∀ n, n < 256 → cg ((itr zetas j A).getD n 0) (inv2 j * T (7 - j) h n)
  | 0, _ => fun n hn => by
    show cg (A.getD n 0) (1 * T 7 h n)
    rw [Int.one_mul]; exact e n hn
  | j + 1, hj => by
    have ih := itr_inv hA hh e j (by omega)
    have L := Lay.of (6 - j) (by omega)
    have e7 : 7 - (6 - j) = j + 1 := by omega
    rw [e7] at L
    have t := tr_lyr (i := 6 - j) (by omega) hh
    rw [e7, show 6 - j + 1 = 7 - j by omega] at t
    have g := (ilay_get zetas (2 ^ (j + 1)) (2 ^ (6 - j)) (itr zetas j A) L.pos.1 (2 ^ (6 - j)) (by rw [itr_len, hA, L.eq]; exact Nat.le_refl _)).1
    intro n hn
    obtain ⟨b, hb, r, hr, hx⟩ := lay_split L hn
    have hlt := L.lt hb
    have hz := zeta_inv' (i := 6 - j) (by omega) hb
    have q0 := ih (2 * 2 ^ (j + 1) * b + r) (by omega)
    have q1 := ih (2 * 2 ^ (j + 1) * b + 2 ^ (j + 1) + r) (by omega)
    rw [(t b hb r hr).1] at q0
    rw [(t b hb r hr).2] at q1
    rw [itr, show 7 - (j + 1) = 6 - j by omega, inv2]
    rcases hx with rfl | rfl
    · rw [(g b hb r hr).1]
      exact (q0.add q1).trans (.of_eq (by grind))
    · rw [(g b hb r hr).2]
      refine ((q1.sub q0).mulL _).trans ?_
      have w := (hz.mul (cg.rfl' (inv2 j * T (6 - j) h (2 * 2 ^ (j + 1) * b + 2 ^ (j + 1) + r)))).mulL (-2)
      refine cg.trans (.of_eq ?_) (w.trans (.of_eq ?_))
      · grind
      · grind
theorem mf_of {c h : List Int} (hc : c.length = 256) (hh : h.length = 256) (q : ∀ n, n < 256 → cg (c.getD n 0) (128 * h.getD n 0)) : mf 256 c = h.map fun x => x.fmod 3329 := by
  rw [mf_map (by rw [hc]; exact Nat.le_refl _)]
  refine List.ext_getElem (by rw [List.length_map, List.length_map, hc, hh]) fun n h1 h2 => ?_
  rw [List.getElem_map, List.getElem_map]
  have hn : n < 256 := by rw [List.length_map, hh] at h2; exact h2
  have r := q n hn
  rw [List.getD_eq_getElem?_getD, List.getD_eq_getElem?_getD, List.getElem?_eq_getElem (by omega), List.getElem?_eq_getElem (by omega), Option.getD_some, Option.getD_some] at r
  refine cg_fmod_eq ?_
  exact (r.mul (cg.rfl' 3303)).trans ⟨127 * h[n], by omega⟩
theorem T_nil (h : List Int) (n : Nat) : T 0 h n = h.getD n 0 := rfl
theorem inv2_7 : inv2 7 = 128 := by decide
theorem intt_of {A h : List Int} (hA : A.length = 256) (hh : h.length = 256) (e : cgF (fun n => A.getD n 0) (E h)) : intt A = h.map fun x => x.fmod 3329 := by
  unfold intt
  refine mf_of (by rw [itr_len, hA]) hh fun n hn => ?_
  have q := itr_inv hA hh e 7 (Nat.le_refl _) n hn
  rw [Nat.sub_self, T_nil, inv2_7] at q
  exact q
theorem md_cg {c : List Int} (hc : c.length = 256) (n : Nat) (hn : n < 256) : cg ((md 256 c).getD n 0) (c.getD n 0) := by
  rw [List.getD_eq_getElem?_getD, md_nth, if_pos hn, List.getD_eq_getElem?_getD, List.getElem?_eq_getElem (by omega)]
  exact cg_fmod _
theorem ntt_cg {f : List Int} (hf : f.length = 256) : cgF (fun n => (ntt f).getD n 0) (E f) := by
  unfold E T ntt
  intro n hn
  exact md_cg (by rw [tr_len, hf]) n hn
theorem cm_get (zs f g : List Int) : ∀ m i, i < m → ∀ k, k < 4 → (cm zs f g m).getD (4 * i + k) 0 =
    [bm0 (f.getD (4 * i) 0) (f.getD (4 * i + 1) 0) (g.getD (4 * i) 0) (g.getD (4 * i + 1) 0) (zs.getD (64 + i) 0), bm1 (f.getD (4 * i) 0) (f.getD (4 * i + 1) 0) (g.getD (4 * i) 0) (g.getD (4 * i + 1) 0),
      bm0 (f.getD (4 * i + 2) 0) (f.getD (4 * i + 3) 0) (g.getD (4 * i + 2) 0) (g.getD (4 * i + 3) 0) (-(zs.getD (64 + i) 0)), bm1 (f.getD (4 * i + 2) 0) (f.getD (4 * i + 3) 0) (g.getD (4 * i + 2) 0) (g.getD (4 * i + 3) 0)].getD k 0
  | 0, i, h => absurd h (Nat.not_lt_zero i)
  | m + 1, i, h => by
    intro k hk
    rw [cm, List.getD_eq_getElem?_getD]
    by_cases hi : i = m
    · subst hi
      rw [List.getElem?_append_right (by rw [cm_len]; omega), cm_len, show 4 * i + k - 4 * i = k by omega, ← List.getD_eq_getElem?_getD]
    · rw [List.getElem?_append_left (by rw [cm_len]; omega), ← List.getD_eq_getElem?_getD]
      exact cm_get zs f g m i (by omega) k hk
theorem pw_len (A B : List Int) : (pw A B).length = 256 := cm_len _ _ _ _
theorem pw_isP (A B : List Int) : IsP (fun n => A.getD n 0) (fun n => B.getD n 0) (fun n => (pw A B).getD n 0) := by
  intro b hb
  show cg ((pw A B).getD (2 * b) 0) (A.getD (2 * b) 0 * B.getD (2 * b) 0 + g7 b * (A.getD (2 * b + 1) 0 * B.getD (2 * b + 1) 0)) ∧ cg ((pw A B).getD (2 * b + 1) 0) (A.getD (2 * b + 1) 0 * B.getD (2 * b) 0 + A.getD (2 * b) 0 * B.getD (2 * b + 1) 0)
  obtain ⟨i, hi, e | e⟩ := half_split (nb := 64) (b := b) (by omega)
  · subst e
    have hg : g7 (2 * i) = zetas.getD (64 + i) 0 := by
      show gam 7 (2 * i) = _
      rw [gam, if_pos (by omega), show 2 * i / 2 = i by omega]; rfl
    rw [hg, show 2 * (2 * i) = 4 * i by omega]
    unfold pw
    have c0 := cm_get zetas A B 64 i hi 0 (by decide)
    rw [Nat.add_zero] at c0
    rw [c0, cm_get zetas A B 64 i hi 1 (by decide)]
    refine ⟨(cg_fmod _).trans (.of_eq ?_), (cg_fmod _).trans (.of_eq ?_)⟩
    · show A.getD (4 * i) 0 * B.getD (4 * i) 0 + zetas.getD (64 + i) 0 * A.getD (4 * i + 1) 0 * B.getD (4 * i + 1) 0 = _
      rw [Int.mul_assoc]
    · rfl
  · subst e
    have hg : g7 (2 * i + 1) = - zetas.getD (64 + i) 0 := by
      show gam 7 (2 * i + 1) = _
      rw [gam, if_neg (by omega), show (2 * i + 1) / 2 = i by omega]; rfl
    rw [hg, show 2 * (2 * i + 1) = 4 * i + 2 by omega, show 4 * i + 2 + 1 = 4 * i + 3 by omega]
    unfold pw
    rw [cm_get zetas A B 64 i hi 2 (by decide), cm_get zetas A B 64 i hi 3 (by decide)]
    refine ⟨(cg_fmod _).trans (.of_eq ?_), (cg_fmod _).trans (.of_eq ?_)⟩
    · show A.getD (4 * i + 2) 0 * B.getD (4 * i + 2) 0 + -zetas.getD (64 + i) 0 * A.getD (4 * i + 3) 0 * B.getD (4 * i + 3) 0 = _
      rw [Int.mul_assoc]
    · rfl
/-! the laws -/
theorem cgF.symm {A B : Nat → Int} (h : cgF A B) : cgF B A := fun n hn => (h n hn).symm
theorem cgF.trans {A B C : Nat → Int} (h : cgF A B) (h' : cgF B C) : cgF A C := fun n hn => (h n hn).trans (h' n hn)
theorem cgF.rfl' (A : Nat → Int) : cgF A A := fun n _ => cg.rfl' _
/-- a factor that is right up to the number by which all is taken, times the terms' factor -/
theorem law_mul {f A : List Int} (hf : f.length = 256) {ts : List (Int × Int)} (ht : TsOk ts) (hA : cgF (fun n => A.getD n 0) (E f)) : cgF (fun n => (pw A (ntt (secOf ts))).getD n 0) (E (plainGo f (List.replicate 256 0) ts)) :=
  ((pw_isP A (ntt (secOf ts))).congr hA (ntt_cg (secOf_len ts)) (cgF.rfl' _)).uniq (mul_plain hf ht).1
theorem plain_len {f : List Int} (hf : f.length = 256) {ts : List (Int × Int)} (ht : TsOk ts) : (plainOf f ts).length = 256 := by rw [plainOf, List.length_map]; exact (mul_plain hf ht).2
theorem plain_cg {f : List Int} (hf : f.length = 256) {ts : List (Int × Int)} (ht : TsOk ts) : cgF (E (plainGo f (List.replicate 256 0) ts)) (E (plainOf f ts)) := by
  refine T_cg (mul_plain hf ht).2 (plain_len hf ht) (fun n hn => ?_) 7 (Nat.le_refl _)
  rw [plainOf, List.getD_eq_getElem?_getD, List.getD_eq_getElem?_getD, List.getElem?_map, List.getElem?_eq_getElem (by rw [(mul_plain hf ht).2]; exact hn)]
  exact (cg_fmod _).symm
theorem law_once {f : List Int} (hf : f.length = 256) {ts : List (Int × Int)} (ht : TsOk ts) : intt (pw (ntt f) (ntt (secOf ts))) = plainOf f ts :=
  intt_of (pw_len _ _) (mul_plain hf ht).2 (law_mul hf ht (ntt_cg hf))
theorem law_other {f : List Int} (hf : f.length = 256) {ts : List (Int × Int)} (ht : TsOk ts) : intt (pw (ntt (secOf ts)) (ntt f)) = plainOf f ts :=
  intt_of (pw_len _ _) (mul_plain hf ht).2 (((pw_isP (ntt (secOf ts)) (ntt f)).symm.congr (ntt_cg hf) (ntt_cg (secOf_len ts)) (cgF.rfl' _)).uniq (mul_plain hf ht).1)
theorem law_left {f : List Int} (hf : f.length = 256) {ts : List (Int × Int)} (ht : TsOk ts) : intt (pw (pw (ntt f) (ntt (secOf ts))) (ntt (secOf ts))) = plainOf (plainOf f ts) ts :=
  intt_of (pw_len _ _) (mul_plain (plain_len hf ht) ht).2 (law_mul (plain_len hf ht) ht ((law_mul hf ht (ntt_cg hf)).trans (plain_cg hf ht)))
theorem law_right {f : List Int} (hf : f.length = 256) {ts : List (Int × Int)} (ht : TsOk ts) : intt (pw (ntt f) (pw (ntt (secOf ts)) (ntt (secOf ts)))) = plainOf (plainOf f ts) ts := by
  refine intt_of (pw_len _ _) (mul_plain (plain_len hf ht) ht).2 ?_
  have h3 := ((pw_isP (pw (ntt f) (ntt (secOf ts))) (ntt (secOf ts))).congr (cgF.rfl' _) (cgF.rfl' _) (cgF.rfl' _))
  have a := IsP.assoc (pw_isP (ntt f) (ntt (secOf ts))) (pw_isP (ntt (secOf ts)) (ntt (secOf ts))) h3
  exact ((pw_isP (ntt f) (pw (ntt (secOf ts)) (ntt (secOf ts)))).uniq a).trans (law_mul (plain_len hf ht) ht ((law_mul hf ht (ntt_cg hf)).trans (plain_cg hf ht)))
theorem law_back {f : List Int} (hf : f.length = 256) : intt (ntt f) = f.map fun x => x.fmod 3329 := intt_of (ntt_len hf) hf (ntt_cg hf)
end
section
theorem TermsAre.ok {n : List (Addr × Obj)} {vs : List Value} {ts : List (Int × Int)} (h : TermsAre n vs ts) : TsOk ts := by
  induction h with
  | nil => intro x hx; cases hx
  | cons _ h0 h1 _ ih =>
    intro x hx
    rcases List.mem_cons.mp hx with rfl | hx
    · exact ⟨h0, h1⟩
    · exact ih x hx
section
variable {n : List (Addr × Obj)} {tvs : List Value} {ts : List (Int × Int)} {X : Prop} {A B C C1 f g P P2 R : List Int}
theorem eq_once (hR : Hid2 (R = intt C)) (hC : Hid2 (C = cm zetas A B 64)) (hA : Hid2 (A = ntt f)) (hB : Hid2 (B = ntt g)) (hg : Hid2 (g = secOf ts ∧ X)) (hP : Hid2 (P = plainOf f ts)) (hf : f.length = 256) (ht : TermsAre n tvs ts) : R = P := by
  rw [hR.1, hC.1, hA.1, hB.1, hg.1.1, hP.1]; exact law_once hf ht.ok
theorem eq_other (hR : Hid2 (R = intt C)) (hC : Hid2 (C = cm zetas B A 64)) (hA : Hid2 (A = ntt f)) (hB : Hid2 (B = ntt g)) (hg : Hid2 (g = secOf ts ∧ X)) (hP : Hid2 (P = plainOf f ts)) (hf : f.length = 256) (ht : TermsAre n tvs ts) : R = P := by
  rw [hR.1, hC.1, hA.1, hB.1, hg.1.1, hP.1]; exact law_other hf ht.ok
theorem eq_square (hR : Hid2 (R = intt C)) (hC : Hid2 (C = cm zetas B B 64)) (hB : Hid2 (B = ntt g)) (hg : Hid2 (g = secOf ts ∧ X)) (hP : Hid2 (P = plainOf g ts)) (ht : TermsAre n tvs ts) : R = P := by
  rw [hR.1, hC.1, hB.1, hP.1, hg.1.1]; exact law_once (secOf_len ts) ht.ok
theorem eq_left (hR : Hid2 (R = intt C)) (hC : Hid2 (C = cm zetas C1 B 64)) (hC1 : Hid2 (C1 = cm zetas A B 64)) (hA : Hid2 (A = ntt f)) (hB : Hid2 (B = ntt g)) (hg : Hid2 (g = secOf ts ∧ X)) (hP2 : Hid2 (P2 = plainOf P ts)) (hP : Hid2 (P = plainOf f ts)) (hf : f.length = 256) (ht : TermsAre n tvs ts) : R = P2 := by
  rw [hR.1, hC.1, hC1.1, hA.1, hB.1, hg.1.1, hP2.1, hP.1]; exact law_left hf ht.ok
theorem eq_right (hR : Hid2 (R = intt C)) (hC : Hid2 (C = cm zetas A C1 64)) (hC1 : Hid2 (C1 = cm zetas B B 64)) (hA : Hid2 (A = ntt f)) (hB : Hid2 (B = ntt g)) (hg : Hid2 (g = secOf ts ∧ X)) (hP2 : Hid2 (P2 = plainOf P ts)) (hP : Hid2 (P = plainOf f ts)) (hf : f.length = 256) (ht : TermsAre n tvs ts) : R = P2 := by
  rw [hR.1, hC.1, hC1.1, hA.1, hB.1, hg.1.1, hP2.1, hP.1]; exact law_right hf ht.ok
theorem eq_back (hR : Hid2 (R = intt A)) (hA : Hid2 (A = ntt f)) (hf : f.length = 256) : R = f.map fun x => x.fmod 3329 := by
  rw [hR.1, hA.1]; exact law_back hf
end
section
open PySem.Calls PyProof.V PySem.Spec
variable {prog : Program} {w : World} {A : Around} {E : Value → Shared → Prop} {s : Shared} {a b : Addr} {xs ys : List Value} {ns ms : List Int} {Q : Value → Shared → Prop}
theorem cmp_ne (ha : s.heap.IsList a xs.toArray) (hb : s.heap.IsList b ys.toArray) (hi : IntsAre xs ns) (hj : IntsAre ys ms) (hu : A.units + 64 < cLine) (e : ns = ms) (h : Q (.bool false) s) :
    wpAny (model prog w) A (compareOp .NotEq (.ref a) (.ref b)) Q E s := ke_ne_ints ha hb hi hj hu (by rw [decide_eq_true e]; exact h)
theorem cmp_eq (ha : s.heap.IsList a xs.toArray) (hb : s.heap.IsList b ys.toArray) (hi : IntsAre xs ns) (hj : IntsAre ys ms) (hu : A.units + 64 < cLine) (e : ns = ms) (h : Q (.bool true) s) :
    wpAny (model prog w) A (compareOp .Eq (.ref a) (.ref b)) Q E s := ke_eq_ints ha hb hi hj hu (by rw [decide_eq_true e]; exact h)
end
end
section
theorem pad9 : True := by (w_top off); trivial
/-! the ledger's newest addresses lie apart from all the others: one fact in the place of many -/
def NodA : Nat → List Addr → Prop
  | 0, _ => True
  | _ + 1, [] => True
  | k + 1, a :: r => (∀ b ∈ r, @Ne Nat b a) ∧ NodA k r
theorem NodA.ofNews {h₀ h : Heap} {L : Addr} {news : List (Addr × Obj)} (_ : News h₀ L h news) : NodA 0 (news.map Prod.fst) := trivial
theorem NodA.drop1 {k : Nat} {a : Addr} {as : List Addr} (h : NodA (k + 1) (a :: as)) : NodA k as := h.2
theorem NodA.drop2 {k : Nat} {a b : Addr} {as : List Addr} (h : NodA (k + 2) (a :: b :: as)) : NodA k as := h.2.2
inductive UpdN (d : Addr) (o : Obj) : Nat → List (Addr × Obj) → (Obj → List (Addr × Obj)) → Prop
  | head {k r} : UpdN d o (k + 1) ((d, o) :: r) (fun o' => (d, o') :: r)
  | tail {k p r g} : UpdN d o k r g → UpdN d o (k + 1) (p :: r) (fun o' => p :: g o')
theorem UpdN.mem {d : Addr} {o : Obj} {k : Nat} {l : List (Addr × Obj)} {g : Obj → List (Addr × Obj)} (h : UpdN d o k l g) : (d, o) ∈ l := by
  induction h with
  | head => exact .head _
  | tail _ ih => exact .tail _ ih
theorem UpdN.updF {d : Addr} {o : Obj} {k : Nat} {l : List (Addr × Obj)} {g : Obj → List (Addr × Obj)} (h : UpdN d o k l g) : ∀ (_ : NodA k (l.map Prod.fst)), UpdF d o l g := by
  induction h with
  | head => exact fun n => .head fun p hp => n.1 _ (List.mem_map.mpr ⟨p, hp, rfl⟩)
  | tail r ih => exact fun n => .tail (fun e => n.1 _ (List.mem_map.mpr ⟨_, r.mem, rfl⟩) e.symm) (ih n.2)
theorem UpdN.addr {d : Addr} {o : Obj} {k : Nat} {l : List (Addr × Obj)} {g : Obj → List (Addr × Obj)} (h : UpdN d o k l g) (o' : Obj) : (g o').map Prod.fst = l.map Prod.fst := by
  induction h with
  | head => rfl
  | tail _ ih => simp only [List.map_cons, ih]
theorem UpdF.apart {d z : Addr} {o o' oz : Obj} {l : List (Addr × Obj)} {g : Obj → List (Addr × Obj)} (U : UpdF d o l g) (h : (z, oz) ∈ g o') (hne : oz ≠ o') : @Ne Nat d z := by
  obtain ⟨pre, post, rfl, hg, h1, h2⟩ := U.split
  rw [hg] at h
  intro e
  rcases List.mem_append.mp h with q | q
  · exact h1 _ q e.symm
  · rcases List.mem_cons.mp q with q | q
    · exact hne (Prod.mk.inj q).2
    · exact h2 _ q e.symm
theorem NodA.cons {k : Nat} {as : List Addr} {l : List (Addr × Obj)} {d : Addr} (h : NodA k as) (a : ∀ p ∈ l, p.1 < d) (e : l.map Prod.fst = as) : NodA (k + 1) (d :: as) := by
  subst e
  refine ⟨fun b hb => ?_, h⟩
  obtain ⟨p, hp, rfl⟩ := List.mem_map.mp hb
  exact Nat.ne_of_lt (a p hp)
theorem NodA.consA {k : Nat} {as : List Addr} {l : List (Addr × Obj)} {d : Addr} (h : NodA k as) (a : AllLt d l) (e : l.map Prod.fst = as) : NodA (k + 1) (d :: as) := h.cons (ktn_ltOf a) e
theorem NodA.cons1 {k : Nat} {as : List Addr} {l : List (Addr × Obj)} {d : Addr} (h : NodA k as) (a : LCg.Off1 d l) (e : l.map Prod.fst = as) : NodA (k + 1) (d :: as) := by
  subst e
  refine ⟨?_, h⟩
  clear h
  induction l with
  | nil => exact fun b hb => nomatch hb
  | cons p r ih =>
    intro b hb
    rcases List.mem_cons.mp hb with rfl | hb
    · exact a.1
    · exact ih a.2 b hb
theorem NodA.cons2 {k : Nat} {as : List Addr} {l : List (Addr × Obj)} {d x : Addr} (h : NodA k as) (a : AllLt d l) (b : @LT.lt Nat _ d x) (e : l.map Prod.fst = as) : NodA (k + 2) (x :: d :: as) := by
  subst e
  refine ⟨fun c hc => ?_, h.consA a rfl⟩
  rcases List.mem_cons.mp hc with rfl | hc
  · exact Nat.ne_of_lt b
  · obtain ⟨p, hp, rfl⟩ := List.mem_map.mp hc
    exact Nat.ne_of_lt (Nat.lt_trans (ktn_ltOf a p hp) b)
theorem NodA.cons3 {k : Nat} {as : List Addr} {l : List (Addr × Obj)} {d x y : Addr} (h : NodA k as) (a : AllLt d l) (b : @LT.lt Nat _ d x) (c : @LT.lt Nat _ x y) (e : l.map Prod.fst = as) : NodA (k + 3) (y :: x :: d :: as) := by
  subst e
  refine ⟨fun q hq => ?_, h.cons2 a b rfl⟩
  rcases List.mem_cons.mp hq with rfl | hq
  · exact Nat.ne_of_lt c
  · rcases List.mem_cons.mp hq with rfl | hq
    · exact Nat.ne_of_lt (Nat.lt_trans b c)
    · obtain ⟨p, hp, rfl⟩ := List.mem_map.mp hq
      exact Nat.ne_of_lt (Nat.lt_trans (ktn_ltOf a p hp) (Nat.lt_trans b c))
theorem lst_ne (zs : List Value) : LCg.lst zs ≠ instObj 0 0 := by intro e; cases e
local macro_rules | `(tactic| walk_at "callWith ref") => `(tactic| (k_here; k_dflt (refine' callWith_objKW (K := Mine.hd.heap_1 _) ?kX ?kI ?kp ?ka ?_; (case kX => k_in); (case kI => k_inst); (case kp | ka => rfl))))
local macro_rules | `(tactic| walk_at "call ref") => `(tactic| (k_here; (with_reducible show wpAny _ _ (call (Value.ref 423) _) _ _ _); k_dflt (refine' mul_spec ?k1 ?k2 ?k3 ?k4 ?k5 ?kK ?ka ?kb ?kc ?kd ?ke ?kp ?kq ?kc1 ?kc2 ?kx ?kdx ?ky ?kdy ?kr ?kdr ?kz ?kf ?kg ?_; (case k1 | k2 | k3 | k4 | k5 => k_asm); (case kK => first | exact rfl | assumption); (case kx | kdx | ky | kdy | kr | kdr | kz | kc1 | kc2 => k_mem); (case ka | kb | kc | kd | ke | kp | kq => assumption); (case kf => ktr_room); (case kg => ktr_units)); intro x9 dx9 D9 t1 t2 us9 ms9 k9 h9 tk9 hI9 hL9 hS9 hH9 l1 l2 l3 F9 N9; (try k_lt l1); (try dsimp only [PySem.W.CmpBack]); (try dsimp only); (try k_fold); (try k_sweep)))
theorem imul_spec {w : World} {p : Program} {loose : List Str} {mean : ExcName → Option Value} {mg mb : Str → Option Value}
    {dp un : Nat} {gd : Option (List Code)} {cn : Str} {cs : Scope} {a : Addr} {ccd : Value} {cl : List (Str × Addr)} {outer : List Env} {A₀ : Around} {base h₀ : Heap} {L : Addr} {m : Str → Option Value} {news : List (Addr × Obj)} {s : Shared} {Q E : Value → Shared → Prop}
    {x dx y dy r dr r2 z c1 c2 : Addr} {tp1 tp2 ty1 ty2 tq1 tq2 tq3 tq4 tq5 tq6 tq7 : Tok} {vs1 vs2 zs : List Value} {ns1 ns2 : List Int} {n1 n2 : Nat}
    (B : Below A₀ base outer h₀) (F : Fr h₀ L s.heap m) (X : (Mine.hd.heap_1 w.params).In h₀) (N : News h₀ L s.heap news) (T : Top p loose mean mg mb h₀) (hk : cs.kind = .function)
    (hs1 : IntsAre vs1 ns1) (hs2 : IntsAre vs2 ns2) (hz : IntsAre zs zetas) (hl1 : ns1.length = 256) (hl2 : ns2.length = 256) (hm1 : Small ns1) (hm2 : Small ns2)
    (hc1 : (c1, listOf vs1.toArray n1) ∈ news) (hc2 : (c2, listOf vs2.toArray n2) ∈ news) (hx : (x, instObj 426 dx) ∈ news) (hdx : (dx, dictOf [⟨PyData.keyHash w.params (Str.ofString "parent"), .str (Str.ofString "parent") tp1, .ref r⟩, ⟨PyData.keyHash w.params (Str.ofString "coeffs"), .str (Str.ofString "coeffs") tp2, .ref c1⟩] 2) ∈ news) (hy : (y, instObj 426 dy) ∈ news) (hdy : (dy, dictOf [⟨PyData.keyHash w.params (Str.ofString "parent"), .str (Str.ofString "parent") ty1, .ref r2⟩, ⟨PyData.keyHash w.params (Str.ofString "coeffs"), .str (Str.ofString "coeffs") ty2, .ref c2⟩] 2) ∈ news) (hr : (r, instObj 282 dr) ∈ news) (hdr : (dr, dictOf [⟨PyData.keyHash w.params (Str.ofString "q"), .str (Str.ofString "q") tq1, .int 3329 tq2⟩, ⟨PyData.keyHash w.params (Str.ofString "n"), .str (Str.ofString "n") tq3, .int 256 tq4⟩, ⟨PyData.keyHash w.params (Str.ofString "ntt_zetas"), .str (Str.ofString "ntt_zetas") tq5, .ref z⟩, ⟨PyData.keyHash w.params (Str.ofString "ntt_f"), .str (Str.ofString "ntt_f") tq6, .int 3303 tq7⟩] 4) ∈ news) (hzz : (z, LCg.lst zs) ∈ news)
    (hd : dp + 40 < recursionLimit) (hu : un + 320 < cLine)
    (hret : ∀ (x' dx' D : Addr) (ta tb : Tok) (us : List Value) (ms : List Int) (k : Nat) h' tk', IntsAre us ms → ms.length = 256 → Small ms → Hid2 (ms = cm zetas ns1 ns2 64) → AllLt D news → @LT.lt Nat _ D dx' → @LT.lt Nat _ dx' x' → Fr h₀ L h' m →
      News h₀ L h' ((x', instObj 426 dx') :: (dx', dictOf [⟨PyData.keyHash w.params (Str.ofString "parent"), .str (Str.ofString "parent") ta, .ref r⟩, ⟨PyData.keyHash w.params (Str.ofString "coeffs"), .str (Str.ofString "coeffs") tb, .ref D⟩] 2) :: (D, listOf us.toArray k) :: news) → Q (.ref x') { s with heap := h', toks := tk' }) :
    wpAny (model PySem.Challenge.pw_yi0004_01 w) (ktrTop dp un gd cn cs L a ccd cl outer) (call (.ref 198) [.ref x, .ref y]) Q E s := by
  have N0 := (newsCons N hc1 (newsCons N hc2 (newsCons N hx (newsCons N hdx (newsCons N hy (newsCons N hdy (newsCons N hr (newsCons N hdr (newsCons N hzz N)))))))))
  clear N hc1 hc2 hx hdx hy hdy hr hdr hzz
  refine wpAny_call ?_
  k_dflt (refine' code_def ?k1 ?k2 ?k3 ?k4 ?k5 ?kA ?kF ?kK ?k6 ?k7 ?k8 ?k9 ?kB ?_ ?c2 ?c3 ?c4 ?c5; (case kA => exact rfl); (case kF => exact rfl); (case kK => assumption); (case k1 => k_asm); (case k2 => k_asm); (case k3 => k_asm); (case k4 => k_asm); (case k5 => k_asm); (case k6 => k_is); (case k7 => k_is); (case k8 => ktr_room); (case k9 => first | exact BindsTo.of_eq rfl | exact binds_K (by k_in) rfl (by k_is) rfl rfl rfl); (case c5 => decide); (case kB => exact locs rfl); (case c2 => exact rfl); (case c3 => exact rfl); (case c4 => exact rfl); k_whole; intro g' L' h' FG' F' N' B' X' T'; (try dsimp only); (try k_lift B'); (try k_fold))
  k_steps
  (rename Fr h₀ L _ _ => kF); (rename News h₀ L _ _ => kN); (rename Hid2 _ => hH)
  refine' hret _ _ _ _ _ _ _ _ _ _ (by assumption) (by assumption) (by assumption) hH ?o1 ?o2 ?o3 kF (cb_drop kN ?o4)
  case o4 => kcf_all
  case o1 => assumption
  case o2 => assumption
  case o3 => assumption
end
section
theorem tontt3 {w : World} {p : Program} {loose : List Str} {mean : ExcName → Option Value} {mg mb : Str → Option Value}
    {dp un : Nat} {gd : Option (List Code)} {cn : Str} {cs : Scope} {a : Addr} {ccd : Value} {cl : List (Str × Addr)} {outer : List Env} {A₀ : Around} {base h₀ : Heap} {L : Addr} {m : Str → Option Value} {news : List (Addr × Obj)} {s : Shared} {Q E : Value → Shared → Prop}
    {x dx c r dr z : Addr} {tp1 tp2 tq1 tq2 tq3 tq4 tq5 tq6 tq7 : Tok} {vs zs : List Value} {ns : List Int} {n k : Nat} {g : Obj → List (Addr × Obj)} {as : List Addr}
    (B : Below A₀ base outer h₀) (F : Fr h₀ L s.heap m) (X : (Mine.hd.heap_1 w.params).In h₀) (N : News h₀ L s.heap news) (T : Top p loose mean mg mb h₀) (hk : cs.kind = .function)
    (hs : IntsAre vs ns) (hz : IntsAre zs zetas) (hlen : ns.length = 256)
    (hx : (x, instObj 350 dx) ∈ news) (hdx : (dx, dictOf [⟨PyData.keyHash w.params (Str.ofString "parent"), .str (Str.ofString "parent") tp1, .ref r⟩, ⟨PyData.keyHash w.params (Str.ofString "coeffs"), .str (Str.ofString "coeffs") tp2, .ref c⟩] 2) ∈ news) (hr : (r, instObj 282 dr) ∈ news) (hdr : (dr, dictOf [⟨PyData.keyHash w.params (Str.ofString "q"), .str (Str.ofString "q") tq1, .int 3329 tq2⟩, ⟨PyData.keyHash w.params (Str.ofString "n"), .str (Str.ofString "n") tq3, .int 256 tq4⟩, ⟨PyData.keyHash w.params (Str.ofString "ntt_zetas"), .str (Str.ofString "ntt_zetas") tq5, .ref z⟩, ⟨PyData.keyHash w.params (Str.ofString "ntt_f"), .str (Str.ofString "ntt_f") tq6, .int 3303 tq7⟩] 4) ∈ news) (hzz : (z, LCg.lst zs) ∈ news)
    (hN : NodA k as) (e : news.map Prod.fst = as) (U : UpdN c (listOf vs.toArray n) k news g) (hzc : (z, LCg.lst zs) ∈ g (instObj 0 0))
    (hd : dp + 20 < recursionLimit) (hu : un + 160 < cLine)
    (hret : ∀ (x' dx' : Addr) (ta tb : Tok) (vs' : List Value) (ms : List Int) h' tk', IntsAre vs' ms → ms.length = 256 → Small ms → Hid2 (ms = ntt ns) → NodA (k + 2) (x' :: dx' :: as) → Fr h₀ L h' m →
      News h₀ L h' ((x', instObj 426 dx') :: (dx', dictOf [⟨PyData.keyHash w.params (Str.ofString "parent"), .str (Str.ofString "parent") ta, .ref r⟩, ⟨PyData.keyHash w.params (Str.ofString "coeffs"), .str (Str.ofString "coeffs") tb, .ref c⟩] 2) :: g (listOf vs'.toArray n)) →
      Q (.ref x') { s with heap := h', toks := tk' }) :
    wpAny (model PySem.Challenge.pw_yi0004_01 w) (ktrTop dp un gd cn cs L a ccd cl outer) (call (.ref 340) [.ref x]) Q E s := by
  subst e
  have U' := U.updF hN
  exact tontt2 B F X N T hk hs hz hlen (UpdF.apart U' hzc (lst_ne zs)) U' hx hdx hr hdr hzz hd hu fun x' dx' ta tb vs' ms h' tk' q1 q2 q3 q4 q5 q6 F' N' => hret x' dx' ta tb vs' ms h' tk' q1 q2 q3 q4 (hN.cons2 q5 q6 (U.addr _)) F' N'
theorem fromntt3 {w : World} {p : Program} {loose : List Str} {mean : ExcName → Option Value} {mg mb : Str → Option Value}
    {dp un : Nat} {gd : Option (List Code)} {cn : Str} {cs : Scope} {a : Addr} {ccd : Value} {cl : List (Str × Addr)} {outer : List Env} {A₀ : Around} {base h₀ : Heap} {L : Addr} {m : Str → Option Value} {news : List (Addr × Obj)} {s : Shared} {Q E : Value → Shared → Prop}
    {x dx c r dr z : Addr} {tp1 tp2 tq1 tq2 tq3 tq4 tq5 tq6 tq7 : Tok} {vs zs : List Value} {ns : List Int} {n k : Nat} {g : Obj → List (Addr × Obj)} {as : List Addr}
    (B : Below A₀ base outer h₀) (F : Fr h₀ L s.heap m) (X : (Mine.hd.heap_1 w.params).In h₀) (N : News h₀ L s.heap news) (T : Top p loose mean mg mb h₀) (hk : cs.kind = .function)
    (hs : IntsAre vs ns) (hz : IntsAre zs zetas) (hlen : ns.length = 256)
    (hx : (x, instObj 426 dx) ∈ news) (hdx : (dx, dictOf [⟨PyData.keyHash w.params (Str.ofString "parent"), .str (Str.ofString "parent") tp1, .ref r⟩, ⟨PyData.keyHash w.params (Str.ofString "coeffs"), .str (Str.ofString "coeffs") tp2, .ref c⟩] 2) ∈ news) (hr : (r, instObj 282 dr) ∈ news) (hdr : (dr, dictOf [⟨PyData.keyHash w.params (Str.ofString "q"), .str (Str.ofString "q") tq1, .int 3329 tq2⟩, ⟨PyData.keyHash w.params (Str.ofString "n"), .str (Str.ofString "n") tq3, .int 256 tq4⟩, ⟨PyData.keyHash w.params (Str.ofString "ntt_zetas"), .str (Str.ofString "ntt_zetas") tq5, .ref z⟩, ⟨PyData.keyHash w.params (Str.ofString "ntt_f"), .str (Str.ofString "ntt_f") tq6, .int 3303 tq7⟩] 4) ∈ news) (hzz : (z, LCg.lst zs) ∈ news)
    (hN : NodA k as) (e : news.map Prod.fst = as) (U : UpdN c (listOf vs.toArray n) k news g) (hzc : (z, LCg.lst zs) ∈ g (instObj 0 0))
    (hd : dp + 20 < recursionLimit) (hu : un + 160 < cLine)
    (hret : ∀ (x' dx' : Addr) (ta tb : Tok) (vs' : List Value) (ms : List Int) h' tk', IntsAre vs' ms → ms.length = 256 → Hid2 (ms = intt ns) → NodA (k + 2) (x' :: dx' :: as) → Fr h₀ L h' m →
      News h₀ L h' ((x', instObj 350 dx') :: (dx', dictOf [⟨PyData.keyHash w.params (Str.ofString "parent"), .str (Str.ofString "parent") ta, .ref r⟩, ⟨PyData.keyHash w.params (Str.ofString "coeffs"), .str (Str.ofString "coeffs") tb, .ref c⟩] 2) :: g (listOf vs'.toArray n)) →
      Q (.ref x') { s with heap := h', toks := tk' }) :
    wpAny (model PySem.Challenge.pw_yi0004_01 w) (ktrTop dp un gd cn cs L a ccd cl outer) (call (.ref 380) [.ref x]) Q E s := by
  subst e
  have U' := U.updF hN
  exact fromntt2 B F X N T hk hs hz hlen (UpdF.apart U' hzc (lst_ne zs)) U' hx hdx hr hdr hzz hd hu fun x' dx' ta tb vs' ms h' tk' q1 q2 q4 q5 q6 F' N' => hret x' dx' ta tb vs' ms h' tk' q1 q2 q4 (hN.cons2 q5 q6 (U.addr _)) F' N'
theorem mul3 {w : World} {p : Program} {loose : List Str} {mean : ExcName → Option Value} {mg mb : Str → Option Value}
    {dp un : Nat} {gd : Option (List Code)} {cn : Str} {cs : Scope} {a : Addr} {ccd : Value} {cl : List (Str × Addr)} {outer : List Env} {A₀ : Around} {base h₀ : Heap} {L : Addr} {m : Str → Option Value} {news : List (Addr × Obj)} {s : Shared} {Q E : Value → Shared → Prop}
    {x dx y dy r dr r2 z c1 c2 : Addr} {tp1 tp2 ty1 ty2 tq1 tq2 tq3 tq4 tq5 tq6 tq7 : Tok} {vs1 vs2 zs : List Value} {ns1 ns2 : List Int} {n1 n2 k0 : Nat} {as : List Addr}
    (B : Below A₀ base outer h₀) (F : Fr h₀ L s.heap m) (X : (Mine.hd.heap_1 w.params).In h₀) (N : News h₀ L s.heap news) (T : Top p loose mean mg mb h₀) (hk : cs.kind = .function)
    (hs1 : IntsAre vs1 ns1) (hs2 : IntsAre vs2 ns2) (hz : IntsAre zs zetas) (hl1 : ns1.length = 256) (hl2 : ns2.length = 256) (hm1 : Small ns1) (hm2 : Small ns2)
    (hc1 : (c1, listOf vs1.toArray n1) ∈ news) (hc2 : (c2, listOf vs2.toArray n2) ∈ news) (hx : (x, instObj 426 dx) ∈ news) (hdx : (dx, dictOf [⟨PyData.keyHash w.params (Str.ofString "parent"), .str (Str.ofString "parent") tp1, .ref r⟩, ⟨PyData.keyHash w.params (Str.ofString "coeffs"), .str (Str.ofString "coeffs") tp2, .ref c1⟩] 2) ∈ news) (hy : (y, instObj 426 dy) ∈ news) (hdy : (dy, dictOf [⟨PyData.keyHash w.params (Str.ofString "parent"), .str (Str.ofString "parent") ty1, .ref r2⟩, ⟨PyData.keyHash w.params (Str.ofString "coeffs"), .str (Str.ofString "coeffs") ty2, .ref c2⟩] 2) ∈ news) (hr : (r, instObj 282 dr) ∈ news) (hdr : (dr, dictOf [⟨PyData.keyHash w.params (Str.ofString "q"), .str (Str.ofString "q") tq1, .int 3329 tq2⟩, ⟨PyData.keyHash w.params (Str.ofString "n"), .str (Str.ofString "n") tq3, .int 256 tq4⟩, ⟨PyData.keyHash w.params (Str.ofString "ntt_zetas"), .str (Str.ofString "ntt_zetas") tq5, .ref z⟩, ⟨PyData.keyHash w.params (Str.ofString "ntt_f"), .str (Str.ofString "ntt_f") tq6, .int 3303 tq7⟩] 4) ∈ news) (hzz : (z, LCg.lst zs) ∈ news)
    (hN : NodA k0 as) (e : news.map Prod.fst = as)
    (hd : dp + 30 < recursionLimit) (hu : un + 240 < cLine)
    (hret : ∀ (x' dx' D : Addr) (ta tb : Tok) (us : List Value) (ms : List Int) (k : Nat) h' tk', IntsAre us ms → ms.length = 256 → Small ms → Hid2 (ms = cm zetas ns1 ns2 64) → NodA (k0 + 3) (x' :: dx' :: D :: as) → Fr h₀ L h' m →
      News h₀ L h' ((x', instObj 426 dx') :: (dx', dictOf [⟨PyData.keyHash w.params (Str.ofString "parent"), .str (Str.ofString "parent") ta, .ref r⟩, ⟨PyData.keyHash w.params (Str.ofString "coeffs"), .str (Str.ofString "coeffs") tb, .ref D⟩] 2) :: (D, listOf us.toArray k) :: news) → Q (.ref x') { s with heap := h', toks := tk' }) :
    wpAny (model PySem.Challenge.pw_yi0004_01 w) (ktrTop dp un gd cn cs L a ccd cl outer) (call (.ref 423) [.ref x, .ref y]) Q E s := by
  subst e
  exact mul_spec B F X N T hk hs1 hs2 hz hl1 hl2 hm1 hm2 hc1 hc2 hx hdx hy hdy hr hdr hzz hd hu fun x' dx' D ta tb us ms k h' tk' q1 q2 q3 q4 q5 q6 q7 F' N' => hret x' dx' D ta tb us ms k h' tk' q1 q2 q3 q4 (hN.cons3 q5 q6 q7 rfl) F' N'
theorem imul3 {w : World} {p : Program} {loose : List Str} {mean : ExcName → Option Value} {mg mb : Str → Option Value}
    {dp un : Nat} {gd : Option (List Code)} {cn : Str} {cs : Scope} {a : Addr} {ccd : Value} {cl : List (Str × Addr)} {outer : List Env} {A₀ : Around} {base h₀ : Heap} {L : Addr} {m : Str → Option Value} {news : List (Addr × Obj)} {s : Shared} {Q E : Value → Shared → Prop}
    {x dx y dy r dr r2 z c1 c2 : Addr} {tp1 tp2 ty1 ty2 tq1 tq2 tq3 tq4 tq5 tq6 tq7 : Tok} {vs1 vs2 zs : List Value} {ns1 ns2 : List Int} {n1 n2 k0 : Nat} {as : List Addr}
    (B : Below A₀ base outer h₀) (F : Fr h₀ L s.heap m) (X : (Mine.hd.heap_1 w.params).In h₀) (N : News h₀ L s.heap news) (T : Top p loose mean mg mb h₀) (hk : cs.kind = .function)
    (hs1 : IntsAre vs1 ns1) (hs2 : IntsAre vs2 ns2) (hz : IntsAre zs zetas) (hl1 : ns1.length = 256) (hl2 : ns2.length = 256) (hm1 : Small ns1) (hm2 : Small ns2)
    (hc1 : (c1, listOf vs1.toArray n1) ∈ news) (hc2 : (c2, listOf vs2.toArray n2) ∈ news) (hx : (x, instObj 426 dx) ∈ news) (hdx : (dx, dictOf [⟨PyData.keyHash w.params (Str.ofString "parent"), .str (Str.ofString "parent") tp1, .ref r⟩, ⟨PyData.keyHash w.params (Str.ofString "coeffs"), .str (Str.ofString "coeffs") tp2, .ref c1⟩] 2) ∈ news) (hy : (y, instObj 426 dy) ∈ news) (hdy : (dy, dictOf [⟨PyData.keyHash w.params (Str.ofString "parent"), .str (Str.ofString "parent") ty1, .ref r2⟩, ⟨PyData.keyHash w.params (Str.ofString "coeffs"), .str (Str.ofString "coeffs") ty2, .ref c2⟩] 2) ∈ news) (hr : (r, instObj 282 dr) ∈ news) (hdr : (dr, dictOf [⟨PyData.keyHash w.params (Str.ofString "q"), .str (Str.ofString "q") tq1, .int 3329 tq2⟩, ⟨PyData.keyHash w.params (Str.ofString "n"), .str (Str.ofString "n") tq3, .int 256 tq4⟩, ⟨PyData.keyHash w.params (Str.ofString "ntt_zetas"), .str (Str.ofString "ntt_zetas") tq5, .ref z⟩, ⟨PyData.keyHash w.params (Str.ofString "ntt_f"), .str (Str.ofString "ntt_f") tq6, .int 3303 tq7⟩] 4) ∈ news) (hzz : (z, LCg.lst zs) ∈ news)
    (hN : NodA k0 as) (e : news.map Prod.fst = as)
    (hd : dp + 40 < recursionLimit) (hu : un + 320 < cLine)
    (hret : ∀ (x' dx' D : Addr) (ta tb : Tok) (us : List Value) (ms : List Int) (k : Nat) h' tk', IntsAre us ms → ms.length = 256 → Small ms → Hid2 (ms = cm zetas ns1 ns2 64) → NodA (k0 + 3) (x' :: dx' :: D :: as) → Fr h₀ L h' m →
      News h₀ L h' ((x', instObj 426 dx') :: (dx', dictOf [⟨PyData.keyHash w.params (Str.ofString "parent"), .str (Str.ofString "parent") ta, .ref r⟩, ⟨PyData.keyHash w.params (Str.ofString "coeffs"), .str (Str.ofString "coeffs") tb, .ref D⟩] 2) :: (D, listOf us.toArray k) :: news) → Q (.ref x') { s with heap := h', toks := tk' }) :
    wpAny (model PySem.Challenge.pw_yi0004_01 w) (ktrTop dp un gd cn cs L a ccd cl outer) (call (.ref 198) [.ref x, .ref y]) Q E s := by
  subst e
  exact imul_spec B F X N T hk hs1 hs2 hz hl1 hl2 hm1 hm2 hc1 hc2 hx hdx hy hdy hr hdr hzz hd hu fun x' dx' D ta tb us ms k h' tk' q1 q2 q3 q4 q5 q6 q7 F' N' => hret x' dx' D ta tb us ms k h' tk' q1 q2 q3 q4 (hN.cons3 q5 q6 q7 rfl) F' N'
theorem nttmul3 {w : World} {p : Program} {loose : List Str} {mean : ExcName → Option Value} {mg mb : Str → Option Value}
    {dp un : Nat} {gd : Option (List Code)} {cn : Str} {cs : Scope} {a : Addr} {ccd : Value} {cl : List (Str × Addr)} {outer : List Env} {A₀ : Around} {base h₀ : Heap} {L : Addr} {m : Str → Option Value} {news : List (Addr × Obj)} {s : Shared} {Q E : Value → Shared → Prop}
    {x dx y dy r dr r2 z c1 c2 : Addr} {tp1 tp2 ty1 ty2 tq1 tq2 tq3 tq4 tq5 tq6 tq7 : Tok} {vs1 vs2 zs : List Value} {ns1 ns2 : List Int} {n1 n2 k0 : Nat} {as : List Addr}
    (B : Below A₀ base outer h₀) (F : Fr h₀ L s.heap m) (X : (Mine.hd.heap_1 w.params).In h₀) (N : News h₀ L s.heap news) (T : Top p loose mean mg mb h₀) (hk : cs.kind = .function)
    (hs1 : IntsAre vs1 ns1) (hs2 : IntsAre vs2 ns2) (hz : IntsAre zs zetas) (hl1 : ns1.length = 256) (hl2 : ns2.length = 256) (hm1 : Small ns1) (hm2 : Small ns2)
    (hc1 : (c1, listOf vs1.toArray n1) ∈ news) (hc2 : (c2, listOf vs2.toArray n2) ∈ news) (hx : (x, instObj 426 dx) ∈ news) (hdx : (dx, dictOf [⟨PyData.keyHash w.params (Str.ofString "parent"), .str (Str.ofString "parent") tp1, .ref r⟩, ⟨PyData.keyHash w.params (Str.ofString "coeffs"), .str (Str.ofString "coeffs") tp2, .ref c1⟩] 2) ∈ news) (hy : (y, instObj 426 dy) ∈ news) (hdy : (dy, dictOf [⟨PyData.keyHash w.params (Str.ofString "parent"), .str (Str.ofString "parent") ty1, .ref r2⟩, ⟨PyData.keyHash w.params (Str.ofString "coeffs"), .str (Str.ofString "coeffs") ty2, .ref c2⟩] 2) ∈ news) (hr : (r, instObj 282 dr) ∈ news) (hdr : (dr, dictOf [⟨PyData.keyHash w.params (Str.ofString "q"), .str (Str.ofString "q") tq1, .int 3329 tq2⟩, ⟨PyData.keyHash w.params (Str.ofString "n"), .str (Str.ofString "n") tq3, .int 256 tq4⟩, ⟨PyData.keyHash w.params (Str.ofString "ntt_zetas"), .str (Str.ofString "ntt_zetas") tq5, .ref z⟩, ⟨PyData.keyHash w.params (Str.ofString "ntt_f"), .str (Str.ofString "ntt_f") tq6, .int 3303 tq7⟩] 4) ∈ news) (hzz : (z, LCg.lst zs) ∈ news)
    (hN : NodA k0 as) (e : news.map Prod.fst = as)
    (hd : dp + 20 < recursionLimit) (hu : un + 160 < cLine)
    (hret : ∀ (D : Addr) (us : List Value) (ms : List Int) (k : Nat) h' tk', IntsAre us ms → ms.length = 256 → Small ms → Hid2 (ms = cm zetas ns1 ns2 64) → NodA (k0 + 1) (D :: as) → Fr h₀ L h' m → News h₀ L h' ((D, listOf us.toArray k) :: news) → Q (.ref D) { s with heap := h', toks := tk' }) :
    wpAny (model PySem.Challenge.pw_yi0004_01 w) (ktrTop dp un gd cn cs L a ccd cl outer) (call (.ref 404) [.ref x, .ref y]) Q E s := by
  subst e
  exact nttmul_spec B F X N T hk hs1 hs2 hz hl1 hl2 hm1 hm2 hc1 hc2 hx hdx hy hdy hr hdr hzz hd hu fun D us ms k h' tk' q1 q2 q3 q4 q5 F' N' => hret D us ms k h' tk' q1 q2 q3 q4 (hN.consA q5 rfl) F' N'
theorem ringcall3 {w : World} {p : Program} {loose : List Str} {mean : ExcName → Option Value} {mg mb : Str → Option Value}
    {dp un : Nat} {gd : Option (List Code)} {cn : Str} {cs : Scope} {a : Addr} {ccd : Value} {cl : List (Str × Addr)} {outer : List Env} {A₀ : Around} {base h₀ : Heap} {L : Addr} {m : Str → Option Value} {news : List (Addr × Obj)} {s : Shared} {Q E : Value → Shared → Prop}
    {c r dr z : Addr} {tq1 tq2 tq3 tq4 tq5 tq6 tq7 : Tok} {vs : List Value} {ns : List Int} {n k : Nat} {as : List Addr}
    (B : Below A₀ base outer h₀) (F : Fr h₀ L s.heap m) (X : (Mine.hd.heap_1 w.params).In h₀) (N : News h₀ L s.heap news) (T : Top p loose mean mg mb h₀) (hk : cs.kind = .function)
    (hs : IntsAre vs ns) (hlen : ns.length = 256) (hc : (c, listOf vs.toArray n) ∈ news) (hr : (r, instObj 282 dr) ∈ news) (hdr : (dr, dictOf [⟨PyData.keyHash w.params (Str.ofString "q"), .str (Str.ofString "q") tq1, .int 3329 tq2⟩, ⟨PyData.keyHash w.params (Str.ofString "n"), .str (Str.ofString "n") tq3, .int 256 tq4⟩, ⟨PyData.keyHash w.params (Str.ofString "ntt_zetas"), .str (Str.ofString "ntt_zetas") tq5, .ref z⟩, ⟨PyData.keyHash w.params (Str.ofString "ntt_f"), .str (Str.ofString "ntt_f") tq6, .int 3303 tq7⟩] 4) ∈ news)
    (hN : NodA k as) (e : news.map Prod.fst = as)
    (hd : dp + 10 < recursionLimit) (hu : un + 80 < cLine)
    (hret : ∀ (x dx : Addr) (tp1 tp2 : Tok) h' tk', NodA (k + 2) (x :: dx :: as) → Fr h₀ L h' m → News h₀ L h' ((x, instObj 350 dx) :: (dx, dictOf [⟨PyData.keyHash w.params (Str.ofString "parent"), .str (Str.ofString "parent") tp1, .ref r⟩, ⟨PyData.keyHash w.params (Str.ofString "coeffs"), .str (Str.ofString "coeffs") tp2, .ref c⟩] 2) :: news) → Q (.ref x) { s with heap := h', toks := tk' }) :
    wpAny (model PySem.Challenge.pw_yi0004_01 w) (ktrTop dp un gd cn cs L a ccd cl outer) (call (.ref r) [.ref c] []) Q E s := by
  subst e
  exact ringcall_spec B F X N T hk hs hlen hc hr hdr hd hu fun x dx ta tb h' tk' q1 q2 F' N' => hret x dx ta tb h' tk' (hN.cons2 q1 q2 rfl) F' N'
theorem ringcallT3 {w : World} {p : Program} {loose : List Str} {mean : ExcName → Option Value} {mg mb : Str → Option Value}
    {dp un : Nat} {gd : Option (List Code)} {cn : Str} {cs : Scope} {a : Addr} {ccd : Value} {cl : List (Str × Addr)} {outer : List Env} {A₀ : Around} {base h₀ : Heap} {L : Addr} {m : Str → Option Value} {news : List (Addr × Obj)} {s : Shared} {Q E : Value → Shared → Prop}
    {c r dr z : Addr} {tq1 tq2 tq3 tq4 tq5 tq6 tq7 : Tok} {vs : List Value} {ns : List Int} {n k : Nat} {as : List Addr}
    (B : Below A₀ base outer h₀) (F : Fr h₀ L s.heap m) (X : (Mine.hd.heap_1 w.params).In h₀) (N : News h₀ L s.heap news) (T : Top p loose mean mg mb h₀) (hk : cs.kind = .function)
    (hs : IntsAre vs ns) (hlen : ns.length = 256) (hc : (c, listOf vs.toArray n) ∈ news) (hr : (r, instObj 282 dr) ∈ news) (hdr : (dr, dictOf [⟨PyData.keyHash w.params (Str.ofString "q"), .str (Str.ofString "q") tq1, .int 3329 tq2⟩, ⟨PyData.keyHash w.params (Str.ofString "n"), .str (Str.ofString "n") tq3, .int 256 tq4⟩, ⟨PyData.keyHash w.params (Str.ofString "ntt_zetas"), .str (Str.ofString "ntt_zetas") tq5, .ref z⟩, ⟨PyData.keyHash w.params (Str.ofString "ntt_f"), .str (Str.ofString "ntt_f") tq6, .int 3303 tq7⟩] 4) ∈ news)
    (hN : NodA k as) (e : news.map Prod.fst = as)
    (hd : dp + 10 < recursionLimit) (hu : un + 80 < cLine)
    (hret : ∀ (x dx : Addr) (tp1 tp2 : Tok) h' tk', NodA (k + 2) (x :: dx :: as) → Fr h₀ L h' m → News h₀ L h' ((x, instObj 426 dx) :: (dx, dictOf [⟨PyData.keyHash w.params (Str.ofString "parent"), .str (Str.ofString "parent") tp1, .ref r⟩, ⟨PyData.keyHash w.params (Str.ofString "coeffs"), .str (Str.ofString "coeffs") tp2, .ref c⟩] 2) :: news) → Q (.ref x) { s with heap := h', toks := tk' }) :
    wpAny (model PySem.Challenge.pw_yi0004_01 w) (ktrTop dp un gd cn cs L a ccd cl outer) (call (.ref r) [.ref c] [(Str.ofString "is_ntt", .bool true)]) Q E s := by
  subst e
  exact ringcallT_spec B F X N T hk hs hlen hc hr hdr hd hu fun x dx ta tb h' tk' q1 q2 F' N' => hret x dx ta tb h' tk' (hN.cons2 q1 q2 rfl) F' N'
theorem plain3 {w : World} {p : Program} {loose : List Str} {mean : ExcName → Option Value} {mg mb : Str → Option Value}
    {dp un : Nat} {gd : Option (List Code)} {cn : Str} {cs : Scope} {a : Addr} {ccd : Value} {cl : List (Str × Addr)} {outer : List Env} {A₀ : Around} {base h₀ : Heap} {L : Addr} {m : Str → Option Value} {news : List (Addr × Obj)} {s : Shared} {Q E : Value → Shared → Prop}
    {cr ct : Addr} {vs tvs : List Value} {ns : List Int} {ts : List (Int × Int)} {n nt k : Nat} {as : List Addr}
    (B : Below A₀ base outer h₀) (F : Fr h₀ L s.heap m) (X : (Mine.hd.heap_1 w.params).In h₀) (N : News h₀ L s.heap news) (T : Top p loose mean mg mb h₀) (hk : cs.kind = .function)
    (hs : IntsAre vs ns) (hl : ns.length = 256) (ht : TermsAre news tvs ts)
    (hcr : (cr, listOf vs.toArray n) ∈ news) (hct : (ct, listOf tvs.toArray nt) ∈ news)
    (hN : NodA k as) (e : news.map Prod.fst = as)
    (hd : dp + 10 < recursionLimit) (hu : un + 80 < cLine)
    (hM : ∀ pq ∈ ts, ∀ x ∈ ns, IntMulOk pq.2 x ∧ IntMulOk pq.2 (-x))
    (hret : ∀ (D : Addr) (us : List Value) (ms : List Int) h' tk', IntsAre us ms → ms.length = 256 → Small ms → Hid2 (ms = plainOf ns ts) → NodA (k + 1) (D :: as) → Fr h₀ L h' m → News h₀ L h' ((D, LCg.lst us) :: news) → Q (.ref D) { s with heap := h', toks := tk' }) :
    wpAny (model PySem.Challenge.pw_yi0004_01 w) (ktrTop dp un gd cn cs L a ccd cl outer) (call (.ref 440) [.ref cr, .ref ct]) Q E s := by
  subst e
  exact plain_spec B F X N T hk hs hl ht hcr hct hd hu hM fun D us ms h' tk' q1 q2 q3 q4 q5 F' N' => hret D us ms h' tk' q1 q2 q3 q4 (hN.cons1 q5 rfl) F' N'
theorem carried_back {ys : List Value} {f : List Int} (h : PyProof.Rows.CarriedAll ys (List.map (fun a => PyData.int (a.fmod 3329)) (List.filter (fun _ => true) f))) : IntsAre ys (f.map fun x => x.fmod 3329) := by
  have e : List.filter (fun _ => true) f = f := List.filter_eq_self.mpr fun _ _ => rfl
  rw [e] at h
  exact h.intsOf
/-! the turns of the two loops over a list that is written out -/
section
variable {h₀ : Heap} {L I : Addr} {it : Obj} {rest : (Str → Option Value) → List (Addr × Obj) → Prop} {s₁ : Shared} {h' : Heap} {tk : Nat} {m' : Str → Option Value}
theorem unr1 {l : List (Addr × Obj)} {as : List Addr} {k : Nat} (F : Fr h₀ L h' m') (N : News h₀ L h' ((I, it) :: l)) (hN : NodA (k + 1) as) (e : ((I, it) :: l).map Prod.fst = as) (r : rest m' l) : UnrEnd h₀ L s₁ I it rest { s₁ with heap := h', toks := tk } := by
  subst e
  exact UnrEnd.intro F N l (fun p hp => hp) (fun p hp => hN.1 _ (List.mem_map.mpr ⟨p, hp, rfl⟩)) r
theorem unr3 {a b : Addr × Obj} {l : List (Addr × Obj)} {as : List Addr} {k : Nat} (F : Fr h₀ L h' m') (N : News h₀ L h' (a :: b :: (I, it) :: l)) (hN : NodA (k + 3) as) (e : (a :: b :: (I, it) :: l).map Prod.fst = as) (r : rest m' l) : UnrEnd h₀ L s₁ I it rest { s₁ with heap := h', toks := tk } := by
  subst e
  exact UnrEnd.intro F N l (fun p hp => .tail _ (.tail _ hp)) (fun p hp => hN.2.2.1 _ (List.mem_map.mpr ⟨p, hp, rfl⟩)) r
end
end
section
theorem pad10 : True := by (w_top off); trivial
local macro_rules | `(tactic| walk_at "pad 0") => `(tactic| skip)
local macro_rules | `(tactic| walk_at "pad 1") => `(tactic| skip)
local macro_rules | `(tactic| walk_at "pad 2") => `(tactic| skip)
local macro_rules | `(tactic| k_qdec) => `(tactic| first | with_reducible exact nk0 | with_reducible exact nk1)
local macro_rules | `(tactic| k_lt $h:ident) => `(tactic| first | ((with_reducible rename NodA _ _ => hN9); k_dflt (replace hN9 := NodA.cons hN9 $h (by rfl)); (try clear $h)) | ((try replace $h := allLt_of $h); (try simp only [AllLt, and_true] at $h:ident); (repeat (have := And.left $h; replace $h := And.right $h))))
local macro_rules | `(tactic| k_in) => `(tactic| first | with_reducible assumption | exact Frag.In.keeps (by with_reducible assumption) (Fr.keep (by with_reducible assumption)))
local macro_rules | `(tactic| walk_at "call ref") => `(tactic| (k_here; (with_reducible show wpAny _ _ (call (Value.ref 435) _) _ _ _); k_dflt (refine' draw_spec ?k1 ?k2 ?k3 ?k4 ?k5 ?kK ?ka ?kb ?kc ?kd ?ke ?kf ?kg ?_; (case k1 | k2 | k3 | k4 | k5 => k_asm); (case kK => first | exact rfl | assumption); (case ka | kb => assumption); (case kc | kd => omega); (case ke => first | ((repeat (with_reducible rename _ ∧ _ => hz9); clear hz9); omega) | omega); (case kf => ktr_room); (case kg => ktr_units)); intro t9 h9 tk9 F9 N9; (try dsimp only); (try k_fold); (try k_sweep)))
local macro_rules | `(tactic| walk_at "call ref") => `(tactic| (k_here; (with_reducible show wpAny _ _ (call (Value.ref 282) _) _ _ _); k_dflt (refine' ring_spec ?k1 ?k2 ?k3 ?k4 ?k5 ?kK ?kf ?kg ?_; (case k1 | k2 | k3 | k4 | k5 => k_asm); (case kK => first | exact rfl | assumption); (case kf => ktr_room); (case kg => ktr_units)); intro x9 dx9 z9 t1 t2 t3 t4 t5 t6 t7 ys9 h9 tk9 hI9 l1 hdx9 o1 hxz hdz F9 N9; (try simp only [LCg.Off1, and_true] at o1); (try k_lt l1); (try dsimp only [PySem.W.CmpBack]); (try dsimp only); (try k_fold); (try k_sweep)))
local macro_rules | `(tactic| walk_at "pyIter ref") => `(tactic| ((with_reducible show wpAny _ _ (pyIter (Value.ref _)) (fun it s₂ => LoopAtV _ _ _ _ _ _ _ _ _ it s₂) _ _); (with_reducible rename NodA _ _ => hN9); (rename Fr _ _ _ _ => lF'); (rename News _ _ _ _ => lN'); (with_unfolding_all (refine' iter_listUnr ?kh lF' lN' ?km ?kc ?kd ?_; (case km => k_mem); (case kh | kc | kd => exact rfl))); clear lF'; intro i' l1; k_dflt (replace hN9 := NodA.cons hN9 l1 (by rfl)); (try clear l1 lN')))
local macro_rules | `(tactic| walk_at "pyIter ref") => `(tactic| ((with_reducible show wpAny _ _ _ (fun it s₂ => LoopAtV _ _ _ _ _ (PySem.Str.ofString "t") _ _ _ it s₂) _ _); refine stop ?_))
local macro_rules | `(tactic| walk_at "ListRest") => `(tactic| ((with_reducible show ListRest _ _ _ _ _ _ _ _ _ _ _ _ [] _ _); (with_unfolding_all refine ListRest.zero (fun h' tk' F' N' => ?_)); (with_reducible rename NodA _ _ => hN9); k_dflt (replace hN9 := NodA.drop1 hN9); (try k_sweep)))
local macro_rules | `(tactic| walk_at "ListRest") => `(tactic| ((with_reducible show ListRest _ _ _ _ _ _ _ _ _ _ _ _ (_ :: _) _ _); (with_unfolding_all (refine' ListRest.succ ?_)); intro it' h' tk' hit' F' N'; clear hit'; (revert F' N'; intro F' N')))
local macro_rules | `(tactic| walk_at "UnrEnd") => `(tactic| ((with_reducible rename NodA _ _ => hN9); (rename Fr _ _ _ _ => lF'); (rename News _ _ _ _ => lN'); k_dflt (first | (refine unr1 lF' lN' hN9 (by rfl) ?_; refine ⟨by k_mem, ?_⟩) | (refine unr3 lF' lN' hN9 (by rfl) ?_; (replace hN9 := NodA.drop2 hN9); refine ⟨by k_mem, ?_⟩)); (try clear lF' lN')))
local macro_rules | `(tactic| walk_at "callWith ref") => `(tactic| (k_here; k_dflt (refine' callWith_objKW (K := Mine.hd.heap_1 _) ?kX ?kI ?kp ?ka ?_; (case kX => k_in); (case kI => k_inst); (case kp | ka => rfl))))
local macro_rules | `(tactic| walk_at "call ref") => `(tactic| (k_here; k_dflt (show wpAny _ _ (call (Value.ref _) [Value.ref _] [(PySem.Str.ofString "is_ntt", Value.bool true)]) _ _ _); (with_reducible rename NodA _ _ => hN9); k_dflt (refine' ringcallT3 ?k1 ?k2 ?k3 ?k4 ?k5 ?kK ?ka ?kb ?kc ?kr ?kdr ?kN ?ke ?kf ?kg ?_; (case k1 | k2 | k3 | k4 | k5 => k_asm); (case kK => first | exact rfl | assumption); (case kr | kdr | kc => k_mem); (case ka | kb => assumption); (case kN => exact hN9); (case ke => rfl); (case kf => ktr_room); (case kg => ktr_units)); clear hN9; intro x9 dx9 t1 t2 h9 tk9 hN8 F9 N9; (try dsimp only [PySem.W.CmpBack]); (try dsimp only); (try k_fold); (try k_sweep)))
local macro_rules | `(tactic| walk_at "call ref") => `(tactic| (k_here; (with_reducible show wpAny _ _ (call (Value.ref 440) _) _ _ _); (with_reducible rename NodA _ _ => hN9); k_dflt (refine' plain3 ?k1 ?k2 ?k3 ?k4 ?k5 ?kK ?ka ?kb ?kc ?kd ?kt ?kN ?ke ?kf ?kg ?kh ?_; (case k1 | k2 | k3 | k4 | k5 => k_asm); (case kK => first | exact rfl | assumption); (case kd | kt => k_mem); (case ka | kb => assumption); (case kc => exact TermsAre.mono (by assumption) (by kcf_all)); (case kN => exact hN9); (case ke => rfl); (case kf => ktr_room); (case kg => ktr_units); (case kh => first | assumption | exact (by assumption : ∀ l : List Int, Small l → ∀ pq ∈ _, ∀ x ∈ l, IntMulOk (Prod.snd pq) x ∧ IntMulOk (Prod.snd pq) (-x)) _ (by assumption))); clear hN9; intro D9 us9 ms9 h9 tk9 hI9 hL9 hS9 hH9 hN8 F9 N9; (try dsimp only); (try k_fold); (try k_sweep)))
local macro_rules | `(tactic| walk_at "call ref") => `(tactic| (k_here; (with_reducible show wpAny _ _ (call (Value.ref 340) _) _ _ _); (with_reducible rename NodA _ _ => hN9); k_dflt (refine' tontt3 ?k1 ?k2 ?k3 ?k4 ?k5 ?kK ?ka ?kb ?kc ?kx ?kdx ?kr ?kdr ?kz ?kN ?ke ?kU ?kzc ?kf ?kg ?_; (case k1 | k2 | k3 | k4 | k5 => k_asm); (case kK => first | exact rfl | assumption); (case kx | kdx | kr | kdr | kz => k_mem); (case kN => exact hN9); (case ke => rfl); (case kU => (repeat' (first | exact UpdN.head | refine' UpdN.tail ?_))); (case kzc => ((try dsimp only); k_mem)); (case ka | kb | kc => assumption); (case kf => ktr_room); (case kg => ktr_units)); clear hN9; intro x9 dx9 t1 t2 vs9 ms9 h9 tk9 hI9 hL9 hS9 hH9 hN8 F9 N9; (try dsimp only at N9); (try dsimp only [PySem.W.CmpBack]); (try dsimp only); (try k_fold); (try k_sweep)))
local macro_rules | `(tactic| walk_at "call ref") => `(tactic| (k_here; (with_reducible show wpAny _ _ (call (Value.ref 380) _) _ _ _); (with_reducible rename NodA _ _ => hN9); k_dflt (refine' fromntt3 ?k1 ?k2 ?k3 ?k4 ?k5 ?kK ?ka ?kb ?kc ?kx ?kdx ?kr ?kdr ?kz ?kN ?ke ?kU ?kzc ?kf ?kg ?_; (case k1 | k2 | k3 | k4 | k5 => k_asm); (case kK => first | exact rfl | assumption); (case kx | kdx | kr | kdr | kz => k_mem); (case kN => exact hN9); (case ke => rfl); (case kU => (repeat' (first | exact UpdN.head | refine' UpdN.tail ?_))); (case kzc => ((try dsimp only); k_mem)); (case ka | kb | kc => assumption); (case kf => ktr_room); (case kg => ktr_units)); clear hN9; intro x9 dx9 t1 t2 vs9 ms9 h9 tk9 hI9 hL9 hH9 hN8 F9 N9; (try dsimp only at N9); (try dsimp only [PySem.W.CmpBack]); (try dsimp only); (try k_fold); (try k_sweep)))
local macro_rules | `(tactic| walk_at "call ref") => `(tactic| (k_here; (with_reducible show wpAny _ _ (call (Value.ref 423) _) _ _ _); (with_reducible rename NodA _ _ => hN9); k_dflt (refine' mul3 ?k1 ?k2 ?k3 ?k4 ?k5 ?kK ?ka ?kb ?kc ?kd ?ki ?kp ?kq ?kc1 ?kc2 ?kx ?kdx ?ky ?kdy ?kr ?kdr ?kz ?kN ?ke ?kf ?kg ?_; (case k1 | k2 | k3 | k4 | k5 => k_asm); (case kK => first | exact rfl | assumption); (case kx | kdx | ky | kdy | kr | kdr | kz | kc1 | kc2 => k_mem); (case ka | kb | kc | kd | ki | kp | kq => assumption); (case kN => exact hN9); (case ke => rfl); (case kf => ktr_room); (case kg => ktr_units)); clear hN9; intro x9 dx9 D9 t1 t2 us9 ms9 k9 h9 tk9 hI9 hL9 hS9 hH9 hN8 F9 N9; (try dsimp only [PySem.W.CmpBack]); (try dsimp only); (try k_fold); (try k_sweep)))
local macro_rules | `(tactic| walk_at "call ref") => `(tactic| (k_here; (with_reducible show wpAny _ _ (call (Value.ref 198) _) _ _ _); (with_reducible rename NodA _ _ => hN9); k_dflt (refine' imul3 ?k1 ?k2 ?k3 ?k4 ?k5 ?kK ?ka ?kb ?kc ?kd ?ki ?kp ?kq ?kc1 ?kc2 ?kx ?kdx ?ky ?kdy ?kr ?kdr ?kz ?kN ?ke ?kf ?kg ?_; (case k1 | k2 | k3 | k4 | k5 => k_asm); (case kK => first | exact rfl | assumption); (case kx | kdx | ky | kdy | kr | kdr | kz | kc1 | kc2 => k_mem); (case ka | kb | kc | kd | ki | kp | kq => assumption); (case kN => exact hN9); (case ke => rfl); (case kf => ktr_room); (case kg => ktr_units)); clear hN9; intro x9 dx9 D9 t1 t2 us9 ms9 k9 h9 tk9 hI9 hL9 hS9 hH9 hN8 F9 N9; (try dsimp only [PySem.W.CmpBack]); (try dsimp only); (try k_fold); (try k_sweep)))
local macro_rules | `(tactic| walk_at "call ref") => `(tactic| (k_here; (with_reducible show wpAny _ _ (call (Value.ref 404) _) _ _ _); (with_reducible rename NodA _ _ => hN9); k_dflt (refine' nttmul3 ?k1 ?k2 ?k3 ?k4 ?k5 ?kK ?ka ?kb ?kc ?kd ?ki ?kp ?kq ?kc1 ?kc2 ?kx ?kdx ?ky ?kdy ?kr ?kdr ?kz ?kN ?ke ?kf ?kg ?_; (case k1 | k2 | k3 | k4 | k5 => k_asm); (case kK => first | exact rfl | assumption); (case kx | kdx | ky | kdy | kr | kdr | kz | kc1 | kc2 => k_mem); (case ka | kb | kc | kd | ki | kp | kq => assumption); (case kN => exact hN9); (case ke => rfl); (case kf => ktr_room); (case kg => ktr_units)); clear hN9; intro D9 us9 ms9 k9 h9 tk9 hI9 hL9 hS9 hH9 hN8 F9 N9; (try dsimp only [PySem.W.CmpBack]); (try dsimp only); (try k_fold); (try k_sweep)))
local macro_rules | `(tactic| walk_at "call ref") => `(tactic| (k_here; (try dsimp only [List.nil_append, List.cons_append]); (with_reducible show wpAny _ _ (call (Value.ref _) [Value.ref _] []) _ _ _); (with_reducible rename NodA _ _ => hN9); k_dflt (refine' ringcall3 ?k1 ?k2 ?k3 ?k4 ?k5 ?kK ?ka ?kb ?kc ?kr ?kdr ?kN ?ke ?kf ?kg ?_; (case k1 | k2 | k3 | k4 | k5 => k_asm); (case kK => first | exact rfl | assumption); (case kr | kdr | kc => k_mem); (case ka | kb => assumption); (case kN => exact hN9); (case ke => rfl); (case kf => ktr_room); (case kg => ktr_units)); clear hN9; intro x9 dx9 t1 t2 h9 tk9 hN8 F9 N9; (try dsimp only [PySem.W.CmpBack]); (try dsimp only); (try k_fold); (try k_sweep)))
local macro_rules | `(tactic| walk_at "compareOp NotEq ref ref") => `(tactic| (k_here; k_dflt (refine' cmp_ne ?ha ?hb ?hi ?hj ?hu ?he ?_; (case ha | hb => is_list); (case hi => assumption); (case hj => first | assumption | exact carried_back (by with_reducible assumption)); (case hu => first | ke_room | ktr_units); (case he => first | (apply eq_once <;> with_reducible assumption) | (apply eq_other <;> with_reducible assumption) | (apply eq_left <;> with_reducible assumption) | (apply eq_right <;> with_reducible assumption) | (apply eq_square <;> with_reducible assumption) | (apply eq_back <;> with_reducible assumption)))))
local macro_rules | `(tactic| walk_at "compareOp Eq ref ref") => `(tactic| (k_here; k_dflt (refine' cmp_eq ?ha ?hb ?hi ?hj ?hu ?he ?_; (case ha | hb => is_list); (case hi => assumption); (case hj => first | assumption | exact carried_back (by with_reducible assumption)); (case hu => first | ke_room | ktr_units); (case he => first | (apply eq_once <;> with_reducible assumption) | (apply eq_other <;> with_reducible assumption) | (apply eq_left <;> with_reducible assumption) | (apply eq_right <;> with_reducible assumption) | (apply eq_square <;> with_reducible assumption) | (apply eq_back <;> with_reducible assumption)))))
set_option maxHeartbeats 40000000 in
theorem main : PySem.Challenge.rw_yi0004_01.Holds := Mine.hd (by
  w_strict (
    k_go0
    (all_goals try k_fold)
    k_steps
    unfold Stop
    (rename Fr _ _ _ _ => F1); (rename News _ _ _ _ => N1); (rename IsRange _ _ _ _ _ _ _ _ => R1)
    rename IntsAre (List.flatten (List.replicate (Int.toNat 256) _)) _ => hz0
    rename ¬ _ < ((List.length _ : Nat) : Int) => hcn
    rename IntsAre _ (List.map _ _ ++ _) => hfi
    rename PyData.layable0 (PyData.list (List.map PyData.int _)) = true => hlay
    refine' law_loop2 hcn rfl R1 ?c1 ?c2 F1 N1 ?c3 ?c4 ?c5 hfi hlay hz0 ?_ ?_
    case c3 => kst_all
    case c1 => k_fmods; omega
    case c2 => k_fmods; omega
    case c4 => omega
    case c5 => omega
    · clear F1 N1 R1 hz0 hfi
      (repeat (with_reducible rename Fr _ _ _ _ => hx); clear hx)
      (repeat (with_reducible rename IntsAre (List.flatten _) _ => hx); clear hx)
      intro M tM fs k svs sec kt tvs ts tups i t u h tk own hMH hM0 hM1 hfs hi64 hsec hsl htl hte hH hown haD hal hot F' N'
      k_steps
      (rename Fr _ _ _ _ => F8); (rename News _ _ _ _ => N8); (rename IntsAre (List.set _ _ _) _ => hI8)
      obtain ⟨D9, hD9⟩ : ∃ D, D = headAddr N8 := ⟨_, rfl⟩
      dsimp only [headAddr] at hD9
      subst hD9
      (with_reducible rename AllLt _ _ => hlt9)
      simp only [List.push_toArray] at N8
      refine' law_end F8 N8 hH hte hI8 rfl ?pq ?h0 ?h1 hown hot ?hTo ?hTD ?hTl haD hal ?hn ?ho ?hk
      case hk => kst_all
      case hn => kcf_all
      case ho => kcf_all
      case hTo => exact fun p hp => Nat.ne_of_lt (ktn_ltOf hlt9 p (List.mem_append_right _ hp))
      case hTD => k_ne
      case hTl => k_ne
      case pq => rw [term, Int.zero_add]
      case h0 => exact Int.fmod_nonneg_of_pos _ (by decide)
      case h1 => exact Int.fmod_lt_of_pos _ (by decide)
    · clear F1 N1 R1 hz0 hfi
      (repeat (with_reducible rename Fr _ _ _ _ => hx); clear hx)
      (repeat (with_reducible rename IntsAre (List.flatten _) _ => hx); clear hx)
      (repeat (with_reducible rename IntsAre _ (List.map _ _) => hx); clear hx)
      (repeat (with_reducible rename List.length _ = _ => hx); clear hx)
      (repeat (with_reducible rename Array.size _ = _ => hx); clear hx)
      (repeat (with_reducible rename _ < _ → _ = _ => hx); clear hx)
      (repeat (with_reducible rename _ ≤ _ → _ = _ => hx); clear hx)
      intro M tM fs k svs sec kt tvs ts tups u h tk hMH hM0 hM1 hfs hsec hsl htl hte hH htu hfl hMf hMs hMp F' N'
      (repeat (with_reducible rename @LT.lt Nat _ _ _ => hx); clear hx)
      (repeat (with_reducible rename (@Ne Nat _ _ ∧ _) => hx); clear hx)
      (repeat (with_reducible rename @Ne Nat _ _ => hx); clear hx)
      have hN8 := NodA.ofNews N'
      simp only [List.map_cons] at hN8
      k_steps
      all_goals (try k_data)))
end
end Mine
theorem PySem.Challenge.cw_yi0004_01_holds : PySem.Challenge.rw_yi0004_01.Holds :=
  Mine.main
