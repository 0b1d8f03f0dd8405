import PyProof.Rows.All
import Wide.All
import OpenK.AllK
import Wide.FinOn
import Lean
import PySem.Challenge.RW_yi0009_01
set_option Elab.async false
set_option linter.all false
set_option maxRecDepth 100000
set_option maxHeartbeats 8000000
section -- H1
open PySem PySem.W PyProof.Rows
namespace Mine
noncomputable def vw : Program := PySem.W.view PySem.Challenge.pw_yi0009_01 [0, 2, 3, 5, 6, 7, 9, 10, 11, 12]
abbrev pp : Program := (OpenLaw.row PySem.Challenge.rw_yi0009_01).prog
theorem said_ok : OpenLaw.wellSaid PySem.Challenge.rw_yi0009_01 = true := by
  rw [PySem.W.Fast.te9446332074065402090]
  kernel_rfl
/-- the top's run over a tree of objects, written with the library's quick twins -/
noncomputable def runT (tb : String → Option Builtin) (p : Program) (w : World) (n₀ : Nat) (ann : Option Value) : Nat → SharedT → Thread → Option SharedT
  | 0, _, _ => none
  | n + 1, s, t => match through t with
    | true => some s
    | false => match PySem.W.Fast.tw6613529449190102663 n₀ ann t with
      | false => none
      | true => match PySem.W.Fast.tw10156331382660048174 (PySem.W.Fast.tw11892475500146522536 tb) p w s t with
        | some (s', t') => runT tb p w n₀ ann n s' t'
        | none => none
theorem runT_of {tb : String → Option Builtin} {p : Program} {w : World} {n₀ : Nat} {ann : Option Value} : ∀ {n : Nat} {s s' : SharedT} {t : Thread}, runT tb p w n₀ ann n s t = some s' → topRun tb p w n₀ ann n s.abs t = some s'.abs
  | 0, _, _, _, h => by cases h
  | n + 1, s, s', t, h => by
    unfold runT at h
    rw [← PySem.W.Fast.te6613529449190102663, ← PySem.W.Fast.te10156331382660048174, ← PySem.W.Fast.te11892475500146522536] at h
    unfold topRun
    cases he : through t with
    | true => rw [he] at h; cases h; rfl
    | false =>
      rw [he] at h
      cases hk : stepOk n₀ ann t with
      | false => rw [hk] at h; cases h
      | true =>
        rw [hk] at h
        cases hs : stepT (denote tb) p w s t with
        | none => rw [hs] at h; cases h
        | some r => obtain ⟨s₂, t₂⟩ := r; rw [hs] at h; rw [stepT_spec hs]; exact runT_of h
noncomputable def bootT (P : Params) : BT := .node (boot_o_0 P) (.node (boot_o_1 P) (.node (boot_o_3 P) (.node (boot_o_7 P) .nil .nil) .nil) (.node (boot_o_5 P) (.node (boot_o_9 P) .nil .nil) .nil)) (.node (boot_o_2 P) (.node (boot_o_4 P) (.node (boot_o_8 P) .nil .nil) .nil) (.node (boot_o_6 P) (.node (boot_o_10 P) .nil .nil) .nil))
noncomputable def bootS (T : Params → BT) (w : World) (os : OsState) : SharedT := ⟨T w.params, 11, {}, #[], boot_drawn, boot_toks, os⟩
theorem boot_abs (w : World) (os : OsState) : (bootS bootT w os).abs = ⟨boot_heap w.params, Array.mk [], boot_drawn, boot_toks, os⟩ := by kernel_rfl
noncomputable def endsOk (p : Program) (H : Heap) (s₁ : Shared) : Bool := staticsOk (importedModules p.main.body) H s₁.heap && namesBound p s₁.heap && gensDone s₁ && laidKept H s₁.heap
noncomputable def runQ (p : Program) (H : Params → Heap) (T : Params → BT) (w : World) (os : OsState) : Option SharedT := runT PySem.W.Fast.tw14364793385576792824 p w 11 (PySem.W.Fast.tw8920871248978507458 (H w.params) mainGlobals "__annotations__") 6308 (bootS T w os) (topStub p)
theorem run_of {α : Type} {g : Shared → α} {a : World → α} (h : ∀ w os, (runQ pp boot_heap bootT w os).map (fun s => (endsOk pp (boot_heap w.params) s.abs, g s.abs)) = some (true, a w)) (w : World) (os : OsState) : (topFrom treeTable pp w 6308 ⟨boot_heap w.params, Array.mk [], boot_drawn, boot_toks, os⟩).map g = some (a w) := by
  obtain ⟨s, e, e1⟩ := Option.map_eq_some_iff.mp (h w os)
  obtain ⟨e1, e2⟩ := Prod.mk.inj e1
  have hr := runT_of e
  rw [boot_abs, ← PySem.W.Fast.te14364793385576792824, ← PySem.W.Fast.te8920871248978507458] at hr
  unfold topFrom
  have k1 : (Heap.isNs (boot_heap w.params) mainGlobals && (Array.mk ([] : List GenState)).size == 0) = true := by kernel_rfl
  have k2 : (boot_heap w.params).objs.size = 11 := by kernel_rfl
  simp only [k1, k2]
  rw [hr, Option.bind_some]
  unfold endsOk at e1
  simp only [e1, Option.map_some, e2]
theorem left_of {α : Type} {g : Shared → α} {a : World → α} (h : ∀ w os, (topFrom treeTable pp w 6308 ⟨boot_heap w.params, Array.mk [], boot_drawn, boot_toks, os⟩).map g = some (a w)) (w : World) : (openEnds treeTable pp w 6308).map g = some (a w) := by
  have b := boot_open (p := pp) (N := 6308) (by kernel_rfl) (by decide) (fun s => by kernel_rfl) w
  obtain ⟨⟨hp, gs, d, k, os⟩, e, e'⟩ := Option.map_eq_some_iff.mp b
  have e2 : (hp, gs, d, k) = (boot_heap w.params, Array.mk [], boot_drawn, boot_toks) := e'
  cases e2
  have h2 := h w os
  unfold openEnds
  rw [e, Option.bind_some]
  exact h2
theorem left_seen {α : Type} {Yf : Shared → α} {Ya : World → α} (h : ∀ w os, (runQ pp boot_heap bootT w os).map (fun s => (endsOk pp (boot_heap w.params) s.abs, openSeen vw [Str.ofString "PolynomialRing", Str.ofString "PolynomialNTT"] (importedModules pp.main.body) (fun s => xlAt vw [] s && recOk (RowW.records (OpenRow.toRowW (OpenLaw.row PySem.Challenge.rw_yi0009_01))) s) true s.abs, Yf s.abs)) = some (true, openGood vw [Str.ofString "PolynomialRing", Str.ofString "PolynomialNTT"], Ya w)) : LeftO (OpenLaw.row PySem.Challenge.rw_yi0009_01).prog vw [Str.ofString "PolynomialRing", Str.ofString "PolynomialNTT"] (fun s => xlAt vw [] s && recOk (RowW.records (OpenRow.toRowW (OpenLaw.row PySem.Challenge.rw_yi0009_01))) s) Yf Ya 6308 := fun w =>
  left_of (g := fun s => (openSeen vw [Str.ofString "PolynomialRing", Str.ofString "PolynomialNTT"] (importedModules pp.main.body) (fun s => xlAt vw [] s && recOk (RowW.records (OpenRow.toRowW (OpenLaw.row PySem.Challenge.rw_yi0009_01))) s) true s, Yf s)) (a := fun w => (openGood vw [Str.ofString "PolynomialRing", Str.ofString "PolynomialNTT"], Ya w)) (run_of fun w os => h w os) w
local macro_rules | `(tactic| o_law) => `(tactic| refine holds_law Mine.said_ok fun _ => ?_)
set_option hygiene false in
local macro_rules | `(tactic| o_head $H) => `(tactic| (refine holds_open (q := Mine.vw) (loose := [PySem.Str.ofString "PolynomialRing", PySem.Str.ofString "PolynomialNTT"]) (Xt := fun s => xlAt Mine.vw [] s && recOk (RowW.records (OpenRow.toRowW (OpenLaw.row PySem.Challenge.rw_yi0009_01))) s) (XP := XL Mine.vw []) (Yf := Hook.obs $H) (Ya := Hook.val $H) (YP := Hook.says $H) (N := 6308) ?hl (Hook.of $H) (Hook.keeps $H) (fun s e => xl_of s (Bool.and_eq_true_iff.mp e).1) XL.keeps (by rfl) (by rfl) (by rfl) (fun s e => recFacts_of (Bool.and_eq_true_iff.mp e).2) (by rfl) (by first | assumption | decide +kernel) (by decide +kernel) ⟨rfl, rfl, rfl, rfl, rfl, by decide +kernel⟩ ?hw ?hc; (case hl => (refine Mine.left_seen ?hh; intro w os; kernel_rfl))))
open_top hd for PySem.Challenge.rw_yi0009_01
end Mine
end
section -- P1
open PySem PySem.W PyProof.Rows PySem.Calls PySem.NumText
namespace Mine
section
variable {prog : Program} {w : World} {A : Around} {E : Value → Shared → Prop} {s : Shared}
theorem call_int_2 {x b : Value} {S : PySem.Spec} {Q : Value → Shared → Prop} (g : Meets (Builtin.«int.__new__» ⟨[.type "int", x, b], []⟩) S) (h : S A.in1 (wants (fun obj s₁ => s₁.TypeIs obj "int" ∧ Q obj s₁) E) s) :
    wpAny (model prog w) A (call (.type "int") [x, b]) Q E s :=
  callType_new F.called_int F.newNe_int (by kernel_rfl) (by kernel_rfl) (fun obj => by unfold argsOk; kernel_rfl) F.entry_int_new g h
end
theorem wp_text2 {M : Model} {A : Around} {E : Value → Shared → Prop} {s : Shared} {Q : Value → Shared → Prop} {v : Value} {text : List Nat} {n : Int}
    (hs : (text.takeWhile (· != 0)).length ≤ 640) (hr : (int_private% "readNumeral") 0 2 (text.takeWhile (· != 0)) = (int_private% "Numeral.value") n)
    (ha : ((text.takeWhile (· != 0)).length == text.length) = true) (h : Q (.int n s.toks) { s with toks := s.toks + 1 }) :
    wpAny M A ((int_private% "intFromText") v text 2) Q E s := by
  obtain ⟨hp, g, d, tk, os⟩ := s
  repeat (any_goals (first
    | assumption
    | (with_reducible refine wpAny_ite_true (decide_eq_true hs) ?_)
    | (with_reducible refine wpAny_ite_true (decide_eq_true ha) ?_)
    | wp_step))
  all_goals (try rw [hr])
  all_goals (try dsimp only)
  repeat (any_goals (first
    | assumption
    | (with_reducible refine wpAny_ite_true (decide_eq_true hs) ?_)
    | (with_reducible refine wpAny_ite_true (decide_eq_true ha) ?_)
    | wp_step))
theorem gives_text2 {x : PySem.Str} {u u2 : Tok} {n : Int} (hs : (numSeenOf x).length ≤ 640) (hr : (int_private% "readNumeral") 0 2 (numSeenOf x) = (int_private% "Numeral.value") n) (ha : ((numSeenOf x).length == (numTextOf x).length) = true) : Gives (Builtin.«int.__new__» ⟨[.type "int", .str x u, .int 2 u2], []⟩) (.int n) :=
  .of_wp fun M A E s Q h => by
    obtain ⟨hp, g, d, tk, os⟩ := s
    have f1 := F.conv_sub_int
    have f2 := F.madeHere_int
    have f3 := KIN.str_int
    have f4 := KIN.str_idx
    have f5 := KIN.str_trunc
    have f6 : typeOf (.str x u) = pure (.type "str") := rfl
    have hk := KIN.Hid.mk (And.intro hs (And.intro hr ha))
    clear hs hr ha
    repeat (any_goals (first
      | assumption
      | ((with_reducible show wpAny _ _ ((int_private% "intFromText") _ _ _) _ _ _); refine wp_text2 hk.out.1 hk.out.2.1 hk.out.2.2 ?_)
      | wp_step))
    all_goals first | exact ⟨_, rfl, h⟩ | skip
end Mine
end
section -- P2
open PySem PySem.W PyProof.Rows PySem.Calls PySem.NumText
namespace Mine
theorem entry_pow : entryFor table "pow" = some Builtin.«pow» := entryFor_of_fast (by kernel_rfl)
theorem kind_pow : builtinKind "pow" = none := by decide +kernel
theorem plain_pow : plainId "pow" = true := by decide +kernel
theorem lk_int_pow : typeLookup (.type "int") "__pow__" = pure (some (.builtin "int.__pow__")) := by rw [typeLookup_type, builtinLookup_eq_fast]; kernel_rfl
theorem cast_int {Q : Value → Shared → Prop} {x y : Int} {t : Tok} {s : Shared} (e : x = y) (h : Q (.int y t) s) : Q (.int x t) s := e ▸ h
section
variable {prog : Program} {w : World} {A : Around} {E : Value → Shared → Prop} {s : Shared}
theorem int_pow3 {b e m : Int} {t u v : Tok} {Q : Value → Shared → Prop} (he : 0 ≤ e) (hm : 1 < m) 
   (h : ∀ tk, Q (.int (Builtin.powMod (b % ((m.natAbs : Nat) : Int)).toNat e.natAbs m.natAbs) tk) { s with toks := tk + 1 }) :
    wpAny (model prog w) A (call (.builtin "int.__pow__") [.int b t, .int e u, .int m v]) (fun v s' => v ≠ .notImplemented ∧ Q v s') E s := by
  refine wpAny_call_entry PyProof.Rows.slot_int_pow (typeIs_int s b t) PyProof.Rows.entry_int_pow ?_ (by unfold argsOk; kernel_rfl)
  have n1 : (m == 0) = false := by simp; omega
  have n2 : (m.natAbs == 1) = false := by simp; omega
  have n3 : ¬ (e < 0) := by omega
  have n4 : ¬ (m < 0) := by omega
  obtain ⟨hp, g, d, tk, os⟩ := s
  repeat (any_goals (first | assumption | wp_step))
  refine ⟨_, rfl, by simp, ?_⟩
  have e1 : (decide (m < 0) && ((Builtin.powMod (b % ↑m.natAbs).toNat e.natAbs m.natAbs : Nat) : Int) != 0) = false := by simp [n4]
  rw [e1]
  exact h tk
theorem int_pow_inv {t u v : Tok} {Q : Value → Shared → Prop} 
   (h : ∀ tk, Q (.int 3303 tk) { s with toks := tk + 1 }) :
    wpAny (model prog w) A (call (.builtin "int.__pow__") [.int 128 t, .int (-1) u, .int 3329 v]) (fun v s' => v ≠ .notImplemented ∧ Q v s') E s := by
  refine wpAny_call_entry PyProof.Rows.slot_int_pow (typeIs_int s 128 t) PyProof.Rows.entry_int_pow ?_ (by unfold argsOk; kernel_rfl)
  obtain ⟨hp, g, d, tk, os⟩ := s
  repeat (any_goals (first | assumption | wp_step))
  refine ⟨_, rfl, by simp, ?_⟩
  refine cast_int ?_ (h tk)
  decide +kernel
theorem pow_call_inv {t u v : Tok} {Q : Value → Shared → Prop}
   (h : ∀ tk, Q (.int 3303 tk) { s with toks := tk + 1 }) :
    wpAny (model prog w) A (call (.builtin "int.__pow__") ([.int 128 t] ++ [.int (-1) u, (some (Value.int 3329 v)).getD Value.none])) Q E s :=
  wpAny_mono (int_pow_inv h) (fun _ _ h => h.2) fun _ _ h => h
theorem pow_call {b e m : Int} {t u v : Tok} {Q : Value → Shared → Prop} (he : 0 ≤ e) (hm : 1 < m) 
   (h : ∀ tk, Q (.int (Builtin.powMod (b % ((m.natAbs : Nat) : Int)).toNat e.natAbs m.natAbs) tk) { s with toks := tk + 1 }) :
    wpAny (model prog w) A (call (.builtin "int.__pow__") ([.int b t] ++ [.int e u, (some (Value.int m v)).getD Value.none])) Q E s :=
  wpAny_mono (int_pow3 he hm h) (fun _ _ h => h.2) fun _ _ h => h
theorem pow3 {b e m : Int} {t u v : Tok} {Q : Value → Shared → Prop} (he : 0 ≤ e) (hm : 1 < m) 
   (h : ∀ tk, Q (.int (Builtin.powMod (b % ((m.natAbs : Nat) : Int)).toNat e.natAbs m.natAbs) tk) { s with toks := tk + 1 }) :
    wpAny (model prog w) A (call (.builtin "pow") [.int b t, .int e u, .int m v]) Q E s := by
  refine Calls.call_function_entry kind_pow plain_pow entry_pow (by unfold argsOk; kernel_rfl) ?_
  unfold Builtin.«pow»
  have f1 : typeOf (.int b t) = pure (.type "int") := rfl
  have f2 := lk_int_pow
  have f3 : bindSpecial (.builtin "int.__pow__") (.int b t) = pure (.builtin "int.__pow__", [.int b t]) := PyProof.Rows.slot_int_pow.bind _
  obtain ⟨hp, g, d, tk, os⟩ := s
  repeat (any_goals (first | assumption | (with_reducible refine pow_call he hm ?_; intro tk') | wp_step))
  exact ⟨_, rfl, h tk'⟩
theorem pow_inv {t u v : Tok} {Q : Value → Shared → Prop}
   (h : ∀ tk, Q (.int 3303 tk) { s with toks := tk + 1 }) :
    wpAny (model prog w) A (call (.builtin "pow") [.int 128 t, .int (-1) u, .int 3329 v]) Q E s := by
  refine Calls.call_function_entry kind_pow plain_pow entry_pow (by unfold argsOk; kernel_rfl) ?_
  unfold Builtin.«pow»
  have f1 : typeOf (.int 128 t) = pure (.type "int") := rfl
  have f2 := lk_int_pow
  have f3 : bindSpecial (.builtin "int.__pow__") (.int 128 t) = pure (.builtin "int.__pow__", [.int 128 t]) := PyProof.Rows.slot_int_pow.bind _
  obtain ⟨hp, g, d, tk, os⟩ := s
  repeat (any_goals (first | assumption | (with_reducible refine pow_call_inv ?_; intro tk') | wp_step))
  exact ⟨_, rfl, h tk'⟩
end
end Mine
end
section -- P3
open PySem PySem.W PyProof.Rows PySem.Calls PySem.NumText
namespace Mine
def brL : List Int := [0, 64, 32, 96, 16, 80, 48, 112, 8, 72, 40, 104, 24, 88, 56, 120, 4, 68, 36, 100, 20, 84, 52, 116, 12, 76, 44, 108, 28, 92, 60, 124, 2, 66, 34, 98, 18, 82, 50, 114, 10, 74, 42, 106, 26, 90, 58, 122, 6, 70, 38, 102, 22, 86, 54, 118, 14, 78, 46, 110, 30, 94, 62, 126, 1, 65, 33, 97, 17, 81, 49, 113, 9, 73, 41, 105, 25, 89, 57, 121, 5, 69, 37, 101, 21, 85, 53, 117, 13, 77, 45, 109, 29, 93, 61, 125, 3, 67, 35, 99, 19, 83, 51, 115, 11, 75, 43, 107, 27, 91, 59, 123, 7, 71, 39, 103, 23, 87, 55, 119, 15, 79, 47, 111, 31, 95, 63, 127]
@[irreducible] def zs : List Int := [1, 1729, 2580, 3289, 2642, 630, 1897, 848, 1062, 1919, 193, 797, 2786, 3260, 569, 1746, 296, 2447, 1339, 1476, 3046, 56, 2240, 1333, 1426, 2094, 535, 2882, 2393, 2879, 1974, 821, 289, 331, 3253, 1756, 1197, 2304, 2277, 2055, 650, 1977, 2513, 632, 2865, 33, 1320, 1915, 2319, 1435, 807, 452, 1438, 2868, 1534, 2402, 2647, 2617, 1481, 648, 2474, 3110, 1227, 910, 17, 2761, 583, 2649, 1637, 723, 2288, 1100, 1409, 2662, 3281, 233, 756, 2156, 3015, 3050, 1703, 1651, 2789, 1789, 1847, 952, 1461, 2687, 939, 2308, 2437, 2388, 733, 2337, 268, 641, 1584, 2298, 2037, 3220, 375, 2549, 2090, 1645, 1063, 319, 2773, 757, 2099, 561, 2466, 2594, 2804, 1092, 403, 1026, 1143, 2150, 2775, 886, 1722, 1212, 1874, 1029, 2110, 2935, 885, 2154]
def brZ (k : Int) : Int := brL.getD k.toNat 0
def brT (k : Int) : Str := Txt.sliceBy (Txt.zfill (Txt.slice (PySem.baseText "0b" 2 k) (some 2) none) 7) none none (-1, 0)
def okB (x : Str) (v : Int) : Bool :=
  (sign ((numSeenOf x).dropWhile blank)).1 == false && (based 2 (sign ((numSeenOf x).dropWhile blank)).2).1 == 2 && (based 2 (sign ((numSeenOf x).dropWhile blank)).2).2.1 == false &&
  (match digits? 2 (((based 2 (sign ((numSeenOf x).dropWhile blank)).2).2.2.reverse.dropWhile blank).reverse) with
   | some ds => ((ds.foldl (fun acc d => acc * 2 + d) 0 : Nat) : Int) == v
   | none => false) && (numSeenOf x).length == (numTextOf x).length && decide ((numSeenOf x).length ≤ 640)
theorem read_ok {x : Str} {v : Int} (h : okB x v = true) : (int_private% "readNumeral") 0 2 (numSeenOf x) = (int_private% "Numeral.value") v ∧ ((numSeenOf x).length == (numTextOf x).length) = true ∧ (numSeenOf x).length ≤ 640 := by
  unfold okB at h
  simp only [Bool.and_eq_true, decide_eq_true_eq, beq_iff_eq] at h
  obtain ⟨⟨⟨⟨⟨h1, h2⟩, h3⟩, h4⟩, h5⟩, h6⟩ := h
  refine ⟨?_, by simpa using h5, h6⟩
  refine (readNumeral_eq 0 2 _).trans ?_
  rw [h1, h2, h3]
  cases hd : digits? 2 (((based 2 (sign ((numSeenOf x).dropWhile blank)).2).2.2.reverse.dropWhile blank).reverse) with
  | none => rw [hd] at h4; exact absurd h4 (by simp)
  | some ds =>
    rw [hd] at h4
    have h4 : ((ds.foldl (fun acc d => acc * 2 + d) 0 : Nat) : Int) = v := by simpa using h4
    subst h4
    rfl
theorem br_all : ∀ k : Fin 128, okB (brT (k.val : Int)) (brZ (k.val : Int)) = true := by decide +kernel
theorem br_len : ∀ k : Fin 128, (Txt.zfill (Txt.slice (PySem.baseText "0b" 2 (k.val : Int)) (some 2) none) 7).length ≤ 640 := by decide +kernel
section
variable {prog : Program} {w : World} {A : Around} {E : Value → Shared → Prop} {s : Shared}
theorem fin_of {P : Int → Prop} {n : Nat} (h : ∀ k : Fin n, P (k.val : Int)) {k : Int} (h0 : 0 ≤ k) (h1 : k < (n : Int)) : P k := by
  have e := h ⟨k.toNat, by omega⟩
  have e2 : ((k.toNat : Nat) : Int) = k := by omega
  simpa [e2] using e
theorem br_int {k : Int} {t u uk : Tok} {Q : Value → Shared → Prop} (h0 : 0 ≤ k) (h1 : k < 128) (h : ∀ tk, Q (.int (brZ k) tk) { s with toks := tk + 1 }) :
    wpAny (model prog w) A (call (.type "int") [.str (Txt.sliceBy (Txt.zfill (Txt.slice (PySem.baseText "0b" 2 k) (some 2) none) 7) none none (-1, uk)) t, .int 2 u]) Q E s := by
  have e : Txt.sliceBy (Txt.zfill (Txt.slice (PySem.baseText "0b" 2 k) (some 2) none) 7) none none (-1, uk) = brT k := rfl
  rw [e]
  have r := read_ok (fin_of (P := fun k => okB (brT k) (brZ k) = true) br_all h0 h1)
  exact call_int_2 (gives_text2 r.2.2 r.1 r.2.1).meets (show (Made.int (brZ k)).post _ s from ⟨rfl, h _⟩)
end
end Mine
end
section -- R1
open PySem PySem.W PyProof.Rows PySem.Calls
namespace Mine
/-- the end of a turn: a state of the same make -/
def TurnEnd {σ : Type} (h₀ : Heap) (L : Addr) (s : Shared) (ps : σ → List (Str × Value)) (led : σ → List (Addr × Obj)) (P : σ → Prop) (s₃ : Shared) : Prop :=
  ∃ (c : σ) (h : Heap) (tk : Nat) (m : Str → Option Value) (news : List (Addr × Obj)), s₃ = { s with heap := h, toks := tk } ∧ Fr h₀ L h m ∧ News h₀ L h news ∧ (∀ p ∈ led c, p ∈ news) ∧ (∀ p ∈ ps c, m p.1 = some p.2) ∧ P c
theorem TurnEnd.intro {σ : Type} {h₀ : Heap} {L : Addr} {s : Shared} {ps : σ → List (Str × Value)} {led : σ → List (Addr × Obj)} {P : σ → Prop} (c : σ) {h : Heap} {tk : Nat} {m : Str → Option Value} {news : List (Addr × Obj)}
    (F : Fr h₀ L h m) (N : News h₀ L h news) (hl : ∀ p ∈ led c, p ∈ news) (hm : ∀ p ∈ ps c, m p.1 = some p.2) (hp : P c) : TurnEnd h₀ L s ps led P { s with heap := h, toks := tk } := ⟨c, h, tk, m, news, rfl, F, N, hl, hm, hp⟩
theorem kst_frame {h₀ h : Heap} {L : Addr} {m : Str → Option Value} {ps : List (Str × Value)} (F : Fr h₀ L h m) (hm : ∀ p ∈ ps, m p.1 = some p.2) : Fr h₀ L h (kstB m ps) := by
  have e : kstB m ps = m := by
    funext z
    exact kstB_eq hm fun _ => rfl
  rw [e]; exact F
theorem my_callWithKW {M : Model} {A : Around} {E : Value → Shared → Prop} {s : Shared} {K : Frag} {env : Env} {pos : Pos} {x C : Addr} {ox : Obj} {od : Option Obj} {first : List Value} {Q : Value → Shared → Prop} {f : Addr} {e : Expr} {rest : List Expr} {kws : List Keyword}
    (_X : K.In s.heap) (_I : InstAt s.heap x ox C od) (hd : ox.data = .plain) (_hs : findIn K (.ref C) "__call__" = some (some (.ref f))) (hall : (backToKw pos (keywordEach kws env)).all (·.1.isSome) = true)
    (h : wpAny M A (spliced (backTo pos (starEach (e :: rest) env))) (fun vs s₁ => wpAny M A (evalAll ((backToKw pos (keywordEach kws env)).map (·.2)))
      (fun ks s₂ => kco_P K x C ox od s₂.heap ∧ wpAny M A (call (.ref x) (first ++ vs) (((backToKw pos (keywordEach kws env)).filterMap (·.1)).zip ks)) Q E s₂) E s₁) E s)
    (hplain : ((backTo pos (starEach (e :: rest) env)).any (·.1) || (backToKw pos (keywordEach kws env)).any (·.1.isNone)) = false := by rfl) (he : starEach (e :: rest) env = (false, eval e env) :: starEach rest env := by rfl) :
    wpAny M A (callWith pos (.ref x) first (backTo pos (starEach (e :: rest) env)) (backToKw pos (keywordEach kws env))) Q E s :=
  kco_callWith_of hplain hd (evalArgs_kw2 hall h he)
section
variable {prog : Program} {w : World} {A : Around} {E : Value → Shared → Prop} {Q : Flow → Shared → Prop} {s : Shared} {env : Env} {h₀ : Heap} {L : Addr}
theorem my_while {σ : Type} {test : Expr} {body : List Stmt} {pos : Pos} {m₀ : Str → Option Value} (ps : σ → List (Str × Value)) (led : σ → List (Addr × Obj)) (P : σ → Prop) (μ : σ → Nat) (c₀ : σ)
    (F : Fr h₀ L s.heap m₀) (N : News h₀ L s.heap (led c₀)) (hk : ∀ p ∈ ps c₀, m₀ p.1 = some p.2) (hp : P c₀)
    (turn : ∀ (c : σ) (u : Str → Option Value) h tk, P c → Fr h₀ L h (kstB u (ps c)) → News h₀ L h (led c) →
      wpAny (model prog w) A (isTrue test env (eval test env)) (fun b s₂ =>
        if b = true then wpAny (model prog w) A (execs body env) (fun f s₃ => match f with | .ret v => Q (.ret v) s₃ | .brk => Q .next s₃ | _ => TurnEnd h₀ L s ps led (fun c' => P c' ∧ μ c' < μ c) s₃) E s₂ else Q .next s₂) E { s with heap := h, toks := tk })
    (hE : PassesOwn (model prog w) A env E := by passes_own) :
    wpAny (model prog w) A (exec (.While test body [] pos) env) Q E s := by
  refine While_inv2 (fun n m nx => ∃ c : σ, nx = led c ∧ μ c = n ∧ (∀ p ∈ ps c, m p.1 = some p.2) ∧ P c) F N ⟨c₀, rfl, rfl, hk, hp⟩ ?_ hE
  rintro n m₁ nx h tk F₁ N₁ ⟨c, rfl, rfl, h1, hp'⟩
  refine wpAny_mono (turn c m₁ h tk hp' (kst_frame F₁ h1) N₁) (fun b s₂ p => ?_) fun _ _ x => x
  cases b with
  | false => simpa using p
  | true =>
    simp only [if_true] at p ⊢
    refine wpAny_mono p (fun f s₃ q => ?_) fun _ _ x => x
    cases f with
    | ret v => exact q
    | brk => exact q
    | next =>
      obtain ⟨c', h', tk', m', news', rfl, F', N', hn, hk9, hp9, hm9⟩ := q
      exact ⟨h', tk', m', led c', μ c', rfl, F', fun p hp => N' p (hn p hp), hm9, c', rfl, rfl, hk9, hp9⟩
    | cont =>
      obtain ⟨c', h', tk', m', news', rfl, F', N', hn, hk9, hp9, hm9⟩ := q
      exact ⟨h', tk', m', led c', μ c', rfl, F', fun p hp => N' p (hn p hp), hm9, c', rfl, rfl, hk9, hp9⟩
theorem my_range {σ : Type} {x : Str} {body : List Stmt} {r : Addr} {a₀ b₀ : Int} {t₀ u₀ v₀ : Tok} {n : Nat} {m₀ : Str → Option Value} (ps : σ → List (Str × Value)) (led : σ → List (Addr × Obj)) (P : Nat → σ → Prop) (c₀ : σ)
    (hadr : ∀ c, (led c).map (·.1) = (led c₀).map (·.1))
    (hh : A.handled = none) (hr : IsRange s.heap r a₀ b₀ 1 t₀ u₀ v₀) (hsmall : Builtin.Range.small a₀ b₀ 1 = true) (hn : Builtin.Range.rangeSize a₀ b₀ 1 = (n : Int)) (F : Fr h₀ env.locals s.heap m₀) (N : News h₀ env.locals s.heap (led c₀)) (hk : ∀ p ∈ ps c₀, m₀ p.1 = some p.2) (hp : P 0 c₀)
    (turn : ∀ (i : Nat) (c : σ) t (u : Str → Option Value) h tk own, i < n → OwnOff own ((led c₀).map (·.1)) → P i c →
      Fr h₀ env.locals h (fun y => if y = x then some (.int (a₀ + (i : Int)) t) else kstB u (ps c) y) → News h₀ env.locals h (led c ++ own) →
      wpAny (model prog w) A (execs body env) (fun f s₃ => match f with | .ret v => Q (.ret v) s₃ | .brk => Q .next s₃ | _ => TurnEnd h₀ env.locals { s with heap := h, toks := tk } ps (fun c => led c ++ own) (P (i + 1)) s₃) E { s with heap := h, toks := tk })
    (done : ∀ (c : σ) (u : Str → Option Value) h tk, P n c → Fr h₀ env.locals h (kstB u (ps c)) → News h₀ env.locals h (led c) → Q .next { s with heap := h, toks := tk }) :
    wpAny (model prog w) A (pyIter (.ref r)) (fun it s₂ => LoopAtV prog w A h₀ env x body Q E it s₂) E s := by
  refine wpAny_pyIter_range hr hsmall ?_
  have W : Walks prog w A s.heap.objs.size [s.heap.objs.size] [s.heap.objs.size] n (fun i v => i < n ∧ ∃ t, v = .int (a₀ + i * 1) t)
      (fun i h => IsRangeIter h s.heap.objs.size (a₀ + (i : Nat) * 1) ((n : Int) - (i : Nat)) 1) := (Walks.range hh _ a₀ 1 n).bound
  refine loop_invN (fun i m nx => ∃ c : σ, nx = led c ∧ (∀ p ∈ ps c, m p.1 = some p.2) ∧ P i c) W ?_ ?_ ?_ ?_ (by show IsRangeIter _ _ _ _ _; rw [hn]; simpa using Heap.get?_push_size _ rfl) (F.push _) (fun p hp => ⟨Heap.get?_push_of_some _ (N p hp).1, (N p hp).2⟩) ⟨c₀, rfl, hk, hp⟩ ?_ ?_
  · intro hm
    exact absurd F.ns.lt ((List.mem_singleton.mp hm) ▸ Nat.lt_irrefl _)
  · intro b hb
    rw [List.mem_singleton.mp hb]
    exact next_is_new F
  · intro p hp hI
    exact absurd (Heap.lt_size (N p hp).1) ((List.mem_singleton.mp hI) ▸ Nat.lt_irrefl _)
  · intro p hp hI
    exact absurd (Heap.lt_size (N p hp).1) ((List.mem_singleton.mp hI) ▸ Nat.lt_irrefl _)
  · rintro i v m₁ nx h tk own hi ⟨_, t, rfl⟩ _ hoff ⟨c, rfl, h1, hp'⟩ F₁ N₁
    have e1 : a₀ + (i : Int) * 1 = a₀ + (i : Int) := by omega
    rw [e1] at F₁
    have F₂ : Fr h₀ env.locals h (fun y => if y = x then some (.int (a₀ + (i : Int)) t) else kstB m₁ (ps c) y) := by
      have e : kstB m₁ (ps c) = m₁ := by
        funext z
        exact kstB_eq h1 fun _ => rfl
      rw [e]; exact F₁
    refine wpAny_mono (turn i c t m₁ h tk own hi hoff hp' F₂ N₁) (fun f s₃ q => ?_) fun _ _ x => x
    have fin : TurnEnd h₀ env.locals { s with heap := h, toks := tk } ps (fun c => led c ++ own) (P (i + 1)) s₃ → InvEndN h₀ env.locals (fun m nx => ∃ c : σ, nx = led c ∧ (∀ p ∈ ps c, m p.1 = some p.2) ∧ P (i + 1) c) own ((led c₀).map (·.1)) { s with heap := h, toks := tk } s₃ := by
      rintro ⟨c', h', tk', m', news', rfl, F', N', hl, hm, hp9⟩
      exact InvEndN.intro F' N' ⟨c', rfl, hm, hp9⟩ (hadr c') (fun p hp => hl p (List.mem_append_left _ hp)) (fun p hp => hl p (List.mem_append_right _ hp))
    cases f with
    | ret v => exact q
    | brk => exact q
    | next => exact fin q
    | cont => exact fin q
  · rintro m₁ nx h tk ⟨c, rfl, h1, hp'⟩ F₁ N₁
    exact done c m₁ h tk hp' (kst_frame F₁ h1) N₁
end
end Mine
end
section -- N1
open PySem PySem.W PyProof.Rows PySem.Calls
namespace Mine
abbrev polyD (w : World) (r cl : Addr) (t1 t2 : Tok) : List DictEntry := [⟨PyData.keyHash w.params (PySem.Str.ofString "parent"), .str (PySem.Str.ofString "parent") t1, .ref r⟩, ⟨PyData.keyHash w.params (PySem.Str.ofString "coeffs"), .str (PySem.Str.ofString "coeffs") t2, .ref cl⟩]
abbrev ringD (w : World) (zl : Addr) (t1 t2 t3 t4 t5 t6 t7 : Tok) : List DictEntry := [⟨PyData.keyHash w.params (PySem.Str.ofString "q"), .str (PySem.Str.ofString "q") t1, .int 3329 t2⟩, ⟨PyData.keyHash w.params (PySem.Str.ofString "n"), .str (PySem.Str.ofString "n") t3, .int 256 t4⟩, ⟨PyData.keyHash w.params (PySem.Str.ofString "ntt_zetas"), .str (PySem.Str.ofString "ntt_zetas") t5, .ref zl⟩, ⟨PyData.keyHash w.params (PySem.Str.ofString "ntt_f"), .str (PySem.Str.ofString "ntt_f") t6, .int 3303 t7⟩]
/-- what a polynomial's methods read: the object, its dict, the ring, its dict, its zetas -/
structure Has (w : World) (R : List (Addr × Obj)) (C x dx cl r dr zl : Addr) (zvs : List Value) (nz : Nat) (t1 t2 u1 u2 u3 u4 u5 u6 u7 : Tok) : Prop where
  x : (x, instObj C dx) ∈ R
  dx : (dx, dictOf (polyD w r cl t1 t2) 2) ∈ R
  r : (r, instObj 282 dr) ∈ R
  dr : (dr, dictOf (ringD w zl u1 u2 u3 u4 u5 u6 u7) 4) ∈ R
  z : (zl, listOf zvs.toArray nz) ∈ R
def kI (i : Nat) : Int := ([1, 2, 4, 8, 16, 32, 64, 128] : List Int).getD i 0
def lI (i : Nat) : Int := ([128, 64, 32, 16, 8, 4, 2, 1] : List Int).getD i 0
def bfly (z l : Int) (ns : List Int) (j : Int) : List Int :=
  (ns.set (j + l).toNat (ns.getD j.toNat 0 - z * ns.getD (j + l).toNat 0)).set j.toNat
    ((ns.set (j + l).toNat (ns.getD j.toNat 0 - z * ns.getD (j + l).toNat 0)).getD j.toNat 0 + z * ns.getD (j + l).toNat 0)
def bfl (z l a : Int) (ns : List Int) : Nat → List Int
  | 0 => ns
  | i + 1 => bfly z l (bfl z l a ns i) (a + (i : Int))
def blk (l k : Int) (ns : List Int) : Nat → List Int
  | 0 => ns
  | b + 1 => bfl (zs.getD (k + (b : Int)).toNat 0) l (2 * l * (b : Int)) (blk l k ns b) l.toNat
def layr (ns : List Int) : Nat → List Int
  | 0 => ns
  | i + 1 => blk (lI i) (kI i) (layr ns i) (kI i).toNat
def redl (ns : List Int) : Nat → List Int
  | 0 => ns
  | i + 1 => (redl ns i).set i (((redl ns i).getD i 0).fmod 3329)
@[irreducible] def toNtt (ns : List Int) : List Int := redl (layr ns 7) 256
theorem toNtt_eq (ns : List Int) : toNtt ns = redl (layr ns 7) 256 := by delta toNtt; rfl
theorem len_bfly (z l : Int) (ns : List Int) (j : Int) : (bfly z l ns j).length = ns.length := by unfold bfly; simp
theorem len_bfl (z l a : Int) (ns : List Int) : ∀ i, (bfl z l a ns i).length = ns.length
  | 0 => rfl
  | i + 1 => by rw [bfl, len_bfly, len_bfl z l a ns i]
theorem len_blk (l k : Int) (ns : List Int) : ∀ i, (blk l k ns i).length = ns.length
  | 0 => rfl
  | i + 1 => by rw [blk, len_bfl, len_blk l k ns i]
theorem len_layr (ns : List Int) : ∀ i, (layr ns i).length = ns.length
  | 0 => rfl
  | i + 1 => by rw [layr, len_blk, len_layr ns i]
theorem len_redl (ns : List Int) : ∀ i, (redl ns i).length = ns.length
  | 0 => rfl
  | i + 1 => by rw [redl, List.length_set, len_redl ns i]
structure S1 where
  i : Nat
  k : Int
  tk : Tok
  l : Int
  tl : Tok
  vs : List Value
  ns : List Int
structure S2 where
  b : Nat
  k : Int
  tk : Tok
  st : Int
  ts : Tok
  vs : List Value
  ns : List Int
structure S3 where
  j : Int
  tj : Tok
  vs : List Value
  ns : List Int
abbrev nm (s : String) : Str := PySem.Str.ofString s
theorem lI_ge {i : Nat} (h : i ≤ 7) (h2 : 2 ≤ lI i) : i < 7 := by
  have e : ∀ i : Fin 8, 2 ≤ lI i.val → i.val < 7 := by decide
  exact e ⟨i, by omega⟩ h2
theorem lI_lt {i : Nat} (h : i ≤ 7) (h2 : ¬ 2 ≤ lI i) : i = 7 := by
  have e : ∀ i : Fin 8, ¬ 2 ≤ lI i.val → i.val = 7 := by decide
  exact e ⟨i, by omega⟩ h2
theorem lI_pos {i : Nat} (h : i ≤ 7) : 1 ≤ lI i ∧ lI i ≤ 128 ∧ 1 ≤ kI i ∧ kI i ≤ 128 := by
  have e : ∀ i : Fin 8, 1 ≤ lI i.val ∧ lI i.val ≤ 128 ∧ 1 ≤ kI i.val ∧ kI i.val ≤ 128 := by decide
  exact e ⟨i, by omega⟩
theorem lI_next {i : Nat} (h : i < 7) : (lI i).fdiv 2 = lI (i + 1) ∧ kI i + kI i = kI (i + 1) := by
  have e : ∀ i : Fin 7, (lI i.val).fdiv 2 = lI (i.val + 1) ∧ kI i.val + kI i.val = kI (i.val + 1) := by decide
  exact e ⟨i, h⟩
theorem st_room {i : Nat} (h : i < 7) (b : Int) (hb : 0 ≤ b) : (2 * lI i * b < 256 → b < kI i ∧ kI i + b < 128 ∧ 2 * lI i * b + 2 * lI i ≤ 256) ∧ (¬ 2 * lI i * b < 256 → kI i ≤ b) ∧ 0 ≤ 2 * lI i * b := by
  match i, h with
  | 0, _ => show (2 * 128 * b < 256 → b < 1 ∧ 1 + b < 128 ∧ 2 * 128 * b + 2 * 128 ≤ 256) ∧ (¬ 2 * 128 * b < 256 → 1 ≤ b) ∧ 0 ≤ 2 * 128 * b; omega
  | 1, _ => show (2 * 64 * b < 256 → b < 2 ∧ 2 + b < 128 ∧ 2 * 64 * b + 2 * 64 ≤ 256) ∧ (¬ 2 * 64 * b < 256 → 2 ≤ b) ∧ 0 ≤ 2 * 64 * b; omega
  | 2, _ => show (2 * 32 * b < 256 → b < 4 ∧ 4 + b < 128 ∧ 2 * 32 * b + 2 * 32 ≤ 256) ∧ (¬ 2 * 32 * b < 256 → 4 ≤ b) ∧ 0 ≤ 2 * 32 * b; omega
  | 3, _ => show (2 * 16 * b < 256 → b < 8 ∧ 8 + b < 128 ∧ 2 * 16 * b + 2 * 16 ≤ 256) ∧ (¬ 2 * 16 * b < 256 → 8 ≤ b) ∧ 0 ≤ 2 * 16 * b; omega
  | 4, _ => show (2 * 8 * b < 256 → b < 16 ∧ 16 + b < 128 ∧ 2 * 8 * b + 2 * 8 ≤ 256) ∧ (¬ 2 * 8 * b < 256 → 16 ≤ b) ∧ 0 ≤ 2 * 8 * b; omega
  | 5, _ => show (2 * 4 * b < 256 → b < 32 ∧ 32 + b < 128 ∧ 2 * 4 * b + 2 * 4 ≤ 256) ∧ (¬ 2 * 4 * b < 256 → 32 ≤ b) ∧ 0 ≤ 2 * 4 * b; omega
  | 6, _ => show (2 * 2 * b < 256 → b < 64 ∧ 64 + b < 128 ∧ 2 * 2 * b + 2 * 2 ≤ 256) ∧ (¬ 2 * 2 * b < 256 → 64 ≤ b) ∧ 0 ≤ 2 * 2 * b; omega
theorem zs_bd (i : Nat) : 0 ≤ zs.getD i 0 ∧ zs.getD i 0 < 3329 := by
  have e : ∀ x ∈ zs, 0 ≤ x ∧ x < 3329 := by decide +kernel
  rw [List.getD_eq_getElem?_getD]
  cases h : zs[i]? with
  | none => exact ⟨Int.le_refl _, by decide⟩
  | some x => exact e x (List.mem_of_getElem? h)
theorem zs_bits (i : Nat) : Builtin.Int.intBits (zs.getD i 0) ≤ 64 := by
  have := zs_bd i
  exact PySem.intBits_le_64 (by omega) (by omega)
theorem zs_len : zs.length = 128 := by decide +kernel
def lJ (i : Nat) : Int := ([2, 4, 8, 16, 32, 64, 128, 256] : List Int).getD i 0
def mJ (i : Nat) : Int := ([64, 32, 16, 8, 4, 2, 1, 0] : List Int).getD i 0
def kJ (i : Nat) : Int := ([127, 63, 31, 15, 7, 3, 1, 0] : List Int).getD i 0
def ib1 (l : Int) (ns : List Int) (j : Int) : List Int := ns.set j.toNat (ns.getD j.toNat 0 + ns.getD (j + l).toNat 0)
def ib2 (l : Int) (ns : List Int) (j : Int) : List Int := (ib1 l ns j).set (j + l).toNat ((ib1 l ns j).getD (j + l).toNat 0 - ns.getD j.toNat 0)
def ibfly (z l : Int) (ns : List Int) (j : Int) : List Int := (ib2 l ns j).set (j + l).toNat (z * (ib2 l ns j).getD (j + l).toNat 0)
def ibfl (z l a : Int) (ns : List Int) : Nat → List Int
  | 0 => ns
  | i + 1 => ibfly z l (ibfl z l a ns i) (a + (i : Int))
def iblk (l k : Int) (ns : List Int) : Nat → List Int
  | 0 => ns
  | b + 1 => ibfl (zs.getD (k - (b : Int)).toNat 0) l (2 * l * (b : Int)) (iblk l k ns b) l.toNat
def ilayr (ns : List Int) : Nat → List Int
  | 0 => ns
  | i + 1 => iblk (lJ i) (kJ i) (ilayr ns i) (mJ i).toNat
def scal (ns : List Int) : Nat → List Int
  | 0 => ns
  | i + 1 => (scal ns i).set i (((scal ns i).getD i 0 * 3303).fmod 3329)
@[irreducible] def fromNtt (ns : List Int) : List Int := scal (ilayr ns 7) 256
theorem fromNtt_eq (ns : List Int) : fromNtt ns = scal (ilayr ns 7) 256 := by delta fromNtt; rfl
theorem lJ_ge {i : Nat} (h : i ≤ 7) (h2 : lJ i ≤ 128) : i < 7 := by
  have e : ∀ i : Fin 8, lJ i.val ≤ 128 → i.val < 7 := by decide
  exact e ⟨i, by omega⟩ h2
theorem lJ_lt {i : Nat} (h : i ≤ 7) (h2 : ¬ lJ i ≤ 128) : i = 7 := by
  have e : ∀ i : Fin 8, ¬ lJ i.val ≤ 128 → i.val = 7 := by decide
  exact e ⟨i, by omega⟩ h2
theorem lJ_pos {i : Nat} (h : i < 7) : 2 ≤ lJ i ∧ lJ i ≤ 128 ∧ 1 ≤ mJ i ∧ mJ i ≤ 64 ∧ kJ i ≤ 127 ∧ mJ i ≤ kJ i := by
  have e : ∀ i : Fin 7, 2 ≤ lJ i.val ∧ lJ i.val ≤ 128 ∧ 1 ≤ mJ i.val ∧ mJ i.val ≤ 64 ∧ kJ i.val ≤ 127 ∧ mJ i.val ≤ kJ i.val := by decide
  exact e ⟨i, h⟩
theorem lJ_next {i : Nat} (h : i < 7) : lJ i * 2 = lJ (i + 1) ∧ kJ i - mJ i = kJ (i + 1) := by
  have e : ∀ i : Fin 7, lJ i.val * 2 = lJ (i.val + 1) ∧ kJ i.val - mJ i.val = kJ (i.val + 1) := by decide
  exact e ⟨i, h⟩
theorem st_roomJ {i : Nat} (h : i < 7) (b : Int) (hb : 0 ≤ b) : (2 * lJ i * b < 256 → b < mJ i ∧ 0 < kJ i - b ∧ kJ i - b < 128 ∧ 2 * lJ i * b + 2 * lJ i ≤ 256) ∧ (¬ 2 * lJ i * b < 256 → mJ i ≤ b) ∧ 0 ≤ 2 * lJ i * b := by
  match i, h with
  | 0, _ => show (2 * 2 * b < 256 → b < 64 ∧ 0 < 127 - b ∧ 127 - b < 128 ∧ 2 * 2 * b + 2 * 2 ≤ 256) ∧ (¬ 2 * 2 * b < 256 → 64 ≤ b) ∧ 0 ≤ 2 * 2 * b; omega
  | 1, _ => show (2 * 4 * b < 256 → b < 32 ∧ 0 < 63 - b ∧ 63 - b < 128 ∧ 2 * 4 * b + 2 * 4 ≤ 256) ∧ (¬ 2 * 4 * b < 256 → 32 ≤ b) ∧ 0 ≤ 2 * 4 * b; omega
  | 2, _ => show (2 * 8 * b < 256 → b < 16 ∧ 0 < 31 - b ∧ 31 - b < 128 ∧ 2 * 8 * b + 2 * 8 ≤ 256) ∧ (¬ 2 * 8 * b < 256 → 16 ≤ b) ∧ 0 ≤ 2 * 8 * b; omega
  | 3, _ => show (2 * 16 * b < 256 → b < 8 ∧ 0 < 15 - b ∧ 15 - b < 128 ∧ 2 * 16 * b + 2 * 16 ≤ 256) ∧ (¬ 2 * 16 * b < 256 → 8 ≤ b) ∧ 0 ≤ 2 * 16 * b; omega
  | 4, _ => show (2 * 32 * b < 256 → b < 4 ∧ 0 < 7 - b ∧ 7 - b < 128 ∧ 2 * 32 * b + 2 * 32 ≤ 256) ∧ (¬ 2 * 32 * b < 256 → 4 ≤ b) ∧ 0 ≤ 2 * 32 * b; omega
  | 5, _ => show (2 * 64 * b < 256 → b < 2 ∧ 0 < 3 - b ∧ 3 - b < 128 ∧ 2 * 64 * b + 2 * 64 ≤ 256) ∧ (¬ 2 * 64 * b < 256 → 2 ≤ b) ∧ 0 ≤ 2 * 64 * b; omega
  | 6, _ => show (2 * 128 * b < 256 → b < 1 ∧ 0 < 1 - b ∧ 1 - b < 128 ∧ 2 * 128 * b + 2 * 128 ≤ 256) ∧ (¬ 2 * 128 * b < 256 → 1 ≤ b) ∧ 0 ≤ 2 * 128 * b; omega
theorem len_toNtt (ns : List Int) : (toNtt ns).length = ns.length := by rw [toNtt_eq, len_redl, len_layr]
theorem len_ib1 (l : Int) (ns : List Int) (j : Int) : (ib1 l ns j).length = ns.length := by unfold ib1; simp
theorem len_ib2 (l : Int) (ns : List Int) (j : Int) : (ib2 l ns j).length = ns.length := by unfold ib2; simp [len_ib1]
theorem len_ibfly (z l : Int) (ns : List Int) (j : Int) : (ibfly z l ns j).length = ns.length := by unfold ibfly; simp [len_ib2]
theorem len_ibfl (z l a : Int) (ns : List Int) : ∀ i, (ibfl z l a ns i).length = ns.length
  | 0 => rfl
  | i + 1 => by rw [ibfl, len_ibfly, len_ibfl z l a ns i]
theorem len_iblk (l k : Int) (ns : List Int) : ∀ i, (iblk l k ns i).length = ns.length
  | 0 => rfl
  | i + 1 => by rw [iblk, len_ibfl, len_iblk l k ns i]
theorem len_ilayr (ns : List Int) : ∀ i, (ilayr ns i).length = ns.length
  | 0 => rfl
  | i + 1 => by rw [ilayr, len_iblk, len_ilayr ns i]
theorem len_scal (ns : List Int) : ∀ i, (scal ns i).length = ns.length
  | 0 => rfl
  | i + 1 => by rw [scal, List.length_set, len_scal ns i]
theorem len_fromNtt (ns : List Int) : (fromNtt ns).length = ns.length := by rw [fromNtt_eq, len_scal, len_ilayr]
end Mine
end
section -- S0
open PySem PySem.W PyProof.Rows PySem.Calls
namespace Mine
def fnAt (K : Frag) (f : Addr) : Option FuncData := match K.lookup f with
  | some ⟨_, _, .func fd, _⟩ => some fd
  | _ => none
def bodyAt (K : Frag) (f : Addr) : List Stmt := match fnAt K f with
  | some fd => (match fd.body with | .stmts b => b | _ => [])
  | none => []
def scopeAt (K : Frag) (f : Addr) : Scope := match fnAt K f with
  | some fd => fd.scope
  | none => default
noncomputable def lawB (w : World) : List Stmt := bodyAt (hd.heap_1 w.params) 452
noncomputable def lawS (w : World) : Scope := scopeAt (hd.heap_1 w.params) 452
def Cut (p : Prop) : Prop := p
theorem wp_cut {M : Model} {A : Around} {E : Value → Shared → Prop} {Q : Flow → Shared → Prop} {env : Env} {post : List Stmt} {Γ : Ctx} (hΓ : Γ.In A) : ∀ (pre : List Stmt) (p : Pos) (s : Shared),
    Sem.wp M Γ (execs pre env) (fun fl _ s' => match fl with | .next => Cut (wpAny M A (execs post env) Q E s') | f => Q f s') (fun e _ s' => E e s') p s → Sem.wp M Γ (execs (pre ++ post) env) (fun f _ s' => Q f s') (fun e _ s' => E e s') p s
  | [], p, s, h => by
    have h2 : Cut (wpAny M A (execs post env) Q E s) := h
    exact h2 Γ p hΓ
  | st :: pre, p, s, h => by
    rw [execs_cons, Sem.wp_bind'] at h
    rw [List.cons_append, execs_cons, Sem.wp_bind']
    refine Sem.wp_mono M Γ _ (fun f p' s' h' => ?_) (fun _ _ _ h' => h') _ _ h
    cases f with
    | next => exact wp_cut hΓ pre p' s' h'
    | ret v => exact h'
    | brk => exact h'
    | cont => exact h'
theorem execs_cut {M : Model} {A : Around} {E : Value → Shared → Prop} {Q : Flow → Shared → Prop} {env : Env} {pre post : List Stmt} {s : Shared}
    (h : wpAny M A (execs pre env) (fun fl s' => match fl with | .next => Cut (wpAny M A (execs post env) Q E s') | f => Q f s') E s) : wpAny M A (execs (pre ++ post) env) Q E s :=
  fun Γ p hΓ => wp_cut hΓ pre p s (h Γ p hΓ)
theorem law_cut {w : World} {M : Model} {A : Around} {E : Value → Shared → Prop} {Q : Flow → Shared → Prop} {env : Env} {s : Shared} (i n : Nat)
    (h : wpAny M A (execs (List.take n (List.drop i (lawB w))) env) (fun fl s' => match fl with | .next => Cut (wpAny M A (execs (List.drop (i + n) (lawB w)) env) Q E s') | f => Q f s') E s) : wpAny M A (execs (List.drop i (lawB w)) env) Q E s := by
  have e : List.drop i (lawB w) = List.take n (List.drop i (lawB w)) ++ List.drop (i + n) (lawB w) := by
    rw [← List.drop_drop, List.take_append_drop]
  rw [e]
  exact execs_cut h
end Mine
end
section -- R2
open PySem PySem.W PyProof.Rows PySem.Calls
namespace Mine
theorem tk_any {α : Type} {M : Model} {A : Around} {t : Sem α} {Q : α → Shared → Prop} {E : Value → Shared → Prop} {h : Heap} {g : Array GenState} {d : Drawn} {k : Nat} {o : OsState} (x : ∀ k', wpAny M A t Q E ⟨h, g, d, k', o⟩) : wpAny M A t Q E ⟨h, g, d, k, o⟩ := x k
section
variable {prog : Program} {w : World} {A : Around} {E : Value → Shared → Prop} {s : Shared} {h₀ : Heap} {L : Addr} {m : Str → Option Value} {news : List (Addr × Obj)}
theorem copy_K {l : Addr} {vs : List Value} {n : Nat} {Q : Value → Shared → Prop} (F : Fr h₀ L s.heap m) (N : News h₀ L s.heap news) (hm : (l, W.listOf vs.toArray n) ∈ news) (hsz : vs.length ≤ sizeLine)
    (h : ∀ D c h', Fr h₀ L h' m → News h₀ L h' ((D, W.listOf vs.toArray c) :: news) → (∀ q ∈ news, q.1 < D) → Q (.ref D) { s with heap := h' }) :
    wpAny (model prog w) A (call (.builtin "list.copy") [.ref l]) Q E s :=
  copy_list F N (N.isList hm) (fun h' F' N' => h _ _ h' F' N' fun q hq => Heap.lt_size (N q hq).1) hsz
theorem add_K {l b : Addr} {vs ws : List Value} {ns ms : List Int} {n n2 : Nat} {Q : Value → Shared → Prop} (F : Fr h₀ L s.heap m) (N : News h₀ L s.heap news) (hm : (l, W.listOf vs.toArray n) ∈ news) (hm2 : (b, W.listOf ws.toArray n2) ∈ news) (hi : IntsAre vs ns) (hj : IntsAre ws ms) (hsz : ns.length + ms.length ≤ 1000000)
    (h : ∀ D c h', Fr h₀ L h' m → News h₀ L h' ((D, W.listOf (vs ++ ws).toArray c) :: news) → IntsAre (vs ++ ws) (ns ++ ms) → (∀ q ∈ news, q.1 < D) → Q (.ref D) { s with heap := h' }) :
    wpAny (model prog w) A (binaryOp .Add (.ref l) (.ref b)) Q E s :=
  add_lists_ints (hsz := by rw [sizeLine_eq]; omega) F N (N.isList hm) (N.isList hm2) hi hj fun h' F' N' hij => h _ _ h' F' N' hij fun q hq => Heap.lt_size (N q hq).1
theorem ne_same {a b : Addr} {vs us : List Value} {ns ms : List Int} {n n2 : Nat} {Q : Value → Shared → Prop} (N : News h₀ L s.heap news) (hm : (a, W.listOf vs.toArray n) ∈ news) (hi : IntsAre vs ns) (hm2 : (b, W.listOf us.toArray n2) ∈ news) (hi' : IntsAre us ms) (hu : A.units + 64 < cLine) (e : ns = ms)
    (h : Q (.bool false) s) : wpAny (model prog w) A (compareOp .NotEq (.ref a) (.ref b)) Q E s :=
  ne_intsK (N.isList hm) hi (N.isList hm2) hi' hu (by simpa [e] using h)
theorem eq_same {a b : Addr} {vs us : List Value} {ns ms : List Int} {n n2 : Nat} {Q : Value → Shared → Prop} (N : News h₀ L s.heap news) (hm : (a, W.listOf vs.toArray n) ∈ news) (hi : IntsAre vs ns) (hm2 : (b, W.listOf us.toArray n2) ∈ news) (hi' : IntsAre us ms) (hu : A.units + 64 < cLine) (e : ns = ms)
    (h : Q (.bool true) s) : wpAny (model prog w) A (compareOp .Eq (.ref a) (.ref b)) Q E s :=
  eq_intsK (N.isList hm) hi (N.isList hm2) hi' hu (by simpa [e] using h)
theorem len256 {l : Addr} {vs : List Value} {ns : List Int} {n : Nat} {Q : Value → Shared → Prop} (N : News h₀ L s.heap news) (hm : (l, W.listOf vs.toArray n) ∈ news) (hi : IntsAre vs ns) (e : ns.length = 256)
    (h : Q (.int 256 (s.toks + 1)) { s with toks := s.toks + 1 + 1 }) : wpAny (model prog w) A (call (.builtin "len") [.ref l]) Q E s := by
  have e2 : vs.toArray.size = 256 := by rw [List.size_toArray, hi.length, e]
  refine Calls.call_len_list (N.isList hm) (by rw [e2]; decide) ?_
  rw [e2]; exact h
end
theorem ne_mem {R : List (Addr × Obj)} {z d : Addr} {o : Obj} (hm : (z, o) ∈ R) (h : ∀ p ∈ R, p.1 ≠ d) : z ≠ d := h _ hm
theorem set0 {as : List Int} (v : Int) (hlen : as.length = 256) : as.set 0 v = [v] ++ as.tail := by
  cases as with
  | nil => simp at hlen
  | cons a r => rfl
theorem sz256 {vs : List Value} {ns : List Int} (h : IntsAre vs ns) (hl : ns.length = 256) : vs.length ≤ sizeLine := by
  rw [h.length, hl, sizeLine_eq]; omega
end Mine
end
section -- R3
open PySem PySem.W PyProof.Rows PySem.Calls
namespace Mine
section
variable {prog : Program} {w : World} {A : Around} {E : Value → Shared → Prop} {s : Shared}
theorem int_add_ref {c : Int} {t : Tok} {x : Addr} {ox : Obj} {Q : Value → Shared → Prop} (ho : s.heap.get? x = some ox) (hd : ox.data = .plain) (h : Q .notImplemented s) :
    wpAny (model prog w) A (call (.builtin "int.__add__") [.int c t, .ref x]) Q E s := by
  refine wpAny_call_entry PySem.F.slot_int_add (typeIs_int s c t) PySem.F.entry_int_add ?_ (PySem.F.args_int_add_2 _ _)
  obtain ⟨oc, od, oda, osl⟩ := ox
  dsimp only at hd
  subst hd
  obtain ⟨hp, g, d, tk, os⟩ := s
  repeat (any_goals (first | assumption | (with_reducible refine wpAny_load ho ?_) | wp_step))
  exact ⟨_, rfl, h⟩
theorem wpAny_of_call_add {c : Int} {t : Tok} {x : Addr} {ox : Obj} {Q : Value → Shared → Prop} (ho : s.heap.get? x = some ox) (hd : ox.data = .plain) (h : Q .notImplemented s) :
    wpAny (model prog w) A (call (.builtin "int.__add__") ([.int c t] ++ [.ref x])) Q E s := int_add_ref ho hd h
theorem try_add {c : Int} {t : Tok} {x : Addr} {ox : Obj} {Q : Option Value → Shared → Prop} (ho : s.heap.get? x = some ox) (hd : ox.data = .plain) (h : Q none s) :
    wpAny (model prog w) A (tryMethod (.int c t) (PySem.dunder "add") (.ref x)) Q E s := by
  unfold tryMethod
  have f1 : typeOf (.int c t) = pure (.type "int") := rfl
  have f2 := PySem.F.slot_int_add.lookup
  have f3 : bindSpecial (.builtin "int.__add__") (.int c t) = pure (.builtin "int.__add__", [.int c t]) := PySem.F.slot_int_add.bind _
  obtain ⟨hp, g, d, tk, os⟩ := s
  repeat (any_goals (first | assumption | (with_reducible refine wpAny_of_call_add ho hd ?_) | wp_step))
theorem my_bin1 {nm : String} {K : Frag} {C f : Addr} {c : Int} {t : Tok} {x : Addr} {ox : Obj} {od : Option Obj} {g : Addr} {Q : Value → Shared → Prop} {Q2 : Option Value → Shared → Prop} (X : K.In s.heap) (I : InstAt s.heap x ox C od) (hc : selfFirst K C = true)
    (hs : findIn K (.ref C) (PySem.dunder nm) = some (some (.ref g))) (hr : findIn K (.ref C) (dunderR nm) = some (some (.ref f))) (hf : isFn K (.ref f) = true) (hsub : subIn K (.ref C) (.type "int") = some false)
    (M4 : Looks (model prog w) s.heap (fillsNumberSlot (.type "int") nm) true) (M7 : Looks (model prog w) s.heap (numberSlotInPython (.type "int") nm) false)
    (two : ∀ (Q' : Option Value → Shared → Prop), Q' none s → wpAny (model prog w) A (tryMethod (.int c t) (PySem.dunder nm) (.ref x)) Q' E s)
    (h : wpAny (model prog w) A (call (.ref f) [.ref x, .int c t]) (W.CmpBack Q) E s) (hQ : ∀ v s', Q v s' → Q2 (some v) s') : wpAny (model prog w) A (binaryOp1 nm (.int c t) (.ref x)) Q2 E s := by
  obtain ⟨cd, rest, hcd, hm⟩ := ksp_first hc
  have one := ksp_try X I hr hf h
  obtain ⟨hh, gg, d, tt, os⟩ := s
  have L1 : Looks (model prog w) hh (typeOf (.ref x)) (.ref C) := I.type
  have L2 : Looks (model prog w) hh (typeOf (.int c t)) (.type "int") := Looks.of_pure rfl
  have L3 : Looks (model prog w) hh (fillsNumberSlot (.ref C) nm) true := fills_K X hcd hm hs
  have L4 : Looks (model prog w) hh (fillsNumberSlot (.type "int") nm) true := M4
  have L5 : Looks (model prog w) hh (isSubtype (.ref C) (.type "int")) false := looks_subIn X hsub
  have L7 : Looks (model prog w) hh (numberSlotInPython (.type "int") nm) false := M7
  have hne : (Value.type "int" == Value.ref C) = false := Bool.eq_false_iff.mpr fun q => by cases beq_iff_eq.mp q
  unfold binaryOp1
  refine wpAny_bind (L2.at (wpAny_bind (L1.at (wpAny_bind (L4.at ?_)))))
  simp only [hne, Bool.false_eq_true, if_false]
  ksp_lk
  refine two _ ?_
  ksp_lk
  refine wpAny_mono one (fun r s' hr' => ?_) fun _ _ e => e
  obtain ⟨v, rfl, hq⟩ := hr'
  ksp_lk
  exact hQ _ _ hq
theorem my_addR {K : Frag} {C L f : Addr} {h₀ : Heap} {m : Str → Option Value} {c : Int} {t : Tok} {x : Addr} {ox : Obj} {od : Option Obj} {g : Addr} {Q : Value → Shared → Prop} (F : Fr h₀ L s.heap m) (X₀ : K.In h₀) (I : InstAt s.heap x ox C od) (hd : ox.data = .plain) (hc : selfFirst K C = true)
    (hs : findIn K (.ref C) (PySem.dunder "add") = some (some (.ref g))) (hr : findIn K (.ref C) (dunderR "add") = some (some (.ref f))) (hf : isFn K (.ref f) = true) (hsub : subIn K (.ref C) (.type "int") = some false)
    (h : wpAny (model prog w) A (call (.ref f) [.ref x, .int c t]) (W.CmpBack Q) E s) : wpAny (model prog w) A (binaryOp .Add (.int c t) (.ref x)) Q E s := by
  have ho := I.at_
  show wpAny _ _ (holding _ _) _ _ _
  refine wpAny_holding (wpAny_bind ?_)
  show wpAny _ _ (binaryOp1 "add" _ _) _ _ _
  refine my_bin1 (X₀.keeps F.keep) I hc hs hr hf hsub (Looks.of_pure PySem.F.fills_int_add) (Looks.of_pure rfl) (fun Q' h' => try_add ho hd h') h fun v s' hq => ?_
  ksp_lk
  exact hq
theorem int_sub_ref {c : Int} {t : Tok} {x : Addr} {ox : Obj} {Q : Value → Shared → Prop} (ho : s.heap.get? x = some ox) (hd : ox.data = .plain) (h : Q .notImplemented s) :
    wpAny (model prog w) A (call (.builtin "int.__sub__") [.int c t, .ref x]) Q E s := by
  refine wpAny_call_entry PySem.F.slot_int_sub (typeIs_int s c t) PySem.F.entry_int_sub ?_ (PySem.F.args_int_sub_2 _ _)
  obtain ⟨oc, od, oda, osl⟩ := ox
  dsimp only at hd
  subst hd
  obtain ⟨hp, g, d, tk, os⟩ := s
  repeat (any_goals (first | assumption | (with_reducible refine wpAny_load ho ?_) | wp_step))
  exact ⟨_, rfl, h⟩
theorem wpAny_of_call_sub {c : Int} {t : Tok} {x : Addr} {ox : Obj} {Q : Value → Shared → Prop} (ho : s.heap.get? x = some ox) (hd : ox.data = .plain) (h : Q .notImplemented s) :
    wpAny (model prog w) A (call (.builtin "int.__sub__") ([.int c t] ++ [.ref x])) Q E s := int_sub_ref ho hd h
theorem try_sub {c : Int} {t : Tok} {x : Addr} {ox : Obj} {Q : Option Value → Shared → Prop} (ho : s.heap.get? x = some ox) (hd : ox.data = .plain) (h : Q none s) :
    wpAny (model prog w) A (tryMethod (.int c t) (PySem.dunder "sub") (.ref x)) Q E s := by
  unfold tryMethod
  have f1 : typeOf (.int c t) = pure (.type "int") := rfl
  have f2 := PySem.F.slot_int_sub.lookup
  have f3 : bindSpecial (.builtin "int.__sub__") (.int c t) = pure (.builtin "int.__sub__", [.int c t]) := PySem.F.slot_int_sub.bind _
  obtain ⟨hp, g, d, tk, os⟩ := s
  repeat (any_goals (first | assumption | (with_reducible refine wpAny_of_call_sub ho hd ?_) | wp_step))
theorem my_subR {K : Frag} {C L f : Addr} {h₀ : Heap} {m : Str → Option Value} {c : Int} {t : Tok} {x : Addr} {ox : Obj} {od : Option Obj} {g : Addr} {Q : Value → Shared → Prop} (F : Fr h₀ L s.heap m) (X₀ : K.In h₀) (I : InstAt s.heap x ox C od) (hd : ox.data = .plain) (hc : selfFirst K C = true)
    (hs : findIn K (.ref C) (PySem.dunder "sub") = some (some (.ref g))) (hr : findIn K (.ref C) (dunderR "sub") = some (some (.ref f))) (hf : isFn K (.ref f) = true) (hsub : subIn K (.ref C) (.type "int") = some false)
    (h : wpAny (model prog w) A (call (.ref f) [.ref x, .int c t]) (W.CmpBack Q) E s) : wpAny (model prog w) A (binaryOp .Sub (.int c t) (.ref x)) Q E s := by
  have ho := I.at_
  show wpAny _ _ (holding _ _) _ _ _
  refine wpAny_holding (wpAny_bind ?_)
  show wpAny _ _ (binaryOp1 "sub" _ _) _ _ _
  refine my_bin1 (X₀.keeps F.keep) I hc hs hr hf hsub (Looks.of_pure PySem.F.fills_int_sub) (Looks.of_pure rfl) (fun Q' h' => try_sub ho hd h') h fun v s' hq => ?_
  ksp_lk
  exact hq
end
end Mine
end
section -- G1x
open PySem PySem.W PyProof.Rows PySem.Calls
namespace Mine
abbrev tabO (ps : Array Value) : Obj := { cls := .none, data := .fields ps }
def CodeHere (h₀ : Heap) (c P : Addr) : Prop := ∀ (h : Heap) (ps : Array Value), (∀ b o, h₀.get? b = some o → h.get? b = some o) → h.get? P = some (tabO ps) → TriplesOk ps.toList → h.IsCode c P ps ∧ h.TableAt c P ps
theorem CodeHere.keeps {h₀ g : Heap} {c P : Addr} (x : CodeHere h₀ c P) (k : ∀ b o, h₀.get? b = some o → g.get? b = some o) : CodeHere g c P := fun h ps hk => x h ps fun b o e => hk b o (k b o e)
section
variable {prog : Program} {w : World} {A : Around} {E : Value → Shared → Prop} {s : Shared} {h₀ : Heap} {c P L : Addr} {ps : Array Value} {m mg : Str → Option Value} {bm : Addr} {ob : Obj} {R : List (Addr × Obj)}
theorem walksS_weaken {I : Addr} {fp wr : List Addr} {G : Array GenState → Array GenState → Prop} {n : Nat} {Pa Pb : Nat → Value → Prop} {St : Nat → Shared → Prop} (W : WalksS prog w A I fp wr G n Pa St) (h : ∀ i v, Pa i v → Pb i v) : WalksS prog w A I fp wr G n Pb St :=
  ⟨W.sub, W.grefl, W.gtrans, W.frame, fun i s Q E hi hst hq => W.item i s Q E hi hst fun v s' hv => hq v s' (h i v hv), W.done, W.self⟩
theorem my_genexp {env : Env} {elt iter : Expr} {x : Str} {px : Pos} {scope : Scope} {cl : List (Str × Addr)} {pos : Pos} {Q : Value → Shared → Prop}
    (_F : Fr h₀ L s.heap m) (hCA : CodeHere h₀ c P) (htr : TriplesOk ps.toList) (M : BMod h₀ env.globals mg bm ob) (hlim : h₀.NoLimit) (hcode : env.code = .ref c)
    (hh : A.handled = none) (hco : scope.isCoroutine = false) (hclos : closureFor scope env = pure cl) (hcell : ∀ y ∈ scope.names, y.2 ≠ .cell) (h0 : scope.names.lookup (".0" : Str) = some NameKind.local)
    (hx : scope.names.lookup x = some .local) (hkind : scope.kind = .function) (hroom : A.depth < recursionLimit) (hRP₀ : ∀ p ∈ R, p.1 = P → False)
    (h : wpAny (model prog w) A (eval iter env) (fun xv s₁ => ∃ l items, ∃ (F : Nat → Value → Prop), xv = .ref l ∧ s₁.heap.IsList l items ∧ Fr h₀ L s₁.heap m ∧ AllBare s₁.gens ∧ News h₀ L s₁.heap ((P, tabO ps) :: R) ∧ l ≠ P ∧
      (∀ (code : Value) (C : Addr) (A' : Around) E' i v (t : Shared) m₂, A'.handled = none → A'.depth ≤ A.depth + 1 → A'.units ≤ A.units + 8 → items[i]? = some v → t.heap.Ns C m₂ → m₂ x = some v →
        wpAny (model prog w) A' (eval elt (genEnv scope cl C code builtinsNs env)) (fun y s₃ => F i y ∧ Keeps t s₃) E' t) ∧
      (∀ (a : Addr) (s₅ : Shared) (ps' : Array Value) (K : Addr), Fr h₀ L s₅.heap m → AllBare s₅.gens → s₅.os = s₁.os → News h₀ L s₅.heap ((P, tabO ps') :: R) → TriplesOk ps'.toList → L ≤ K → (∀ p ∈ (P, tabO ps') :: R, p.1 ≤ K) →
        Gen prog w A K a items.size (fun j y => F j y) s₅ → Q (.ref a) s₅)) E s)
    (hs : ∀ x, genFold iter env x = pure x) :
    wpAny (model prog w) A (eval (.GeneratorExp elt [⟨.Name x px, iter, [], 0⟩] scope pos) env) Q E s := by
  refine wpAny_GeneratorExp_walksQD hh hco hclos hcell h0 hx hkind hroom (wpAny_mono h (fun xv s₁ h₁' => ?_) fun _ _ e => e) hs
  obtain ⟨l, items, F, rfl, hl, F₁, G₁, N₁, hlP, hq, hQ⟩ := h₁'
  have hPnone : h₀.get? P = none := (N₁ _ (.head _)).2.2
  have hLP : L ≠ P := Ne.symm (N₁ _ (.head _)).2.1
  have hlt : l < s₁.heap.objs.size := by obtain ⟨_, e, _⟩ := hl; exact Heap.lt_size e
  obtain ⟨hN, hns, hnz⟩ := id hlim
  have hstat : cStatics < s₁.heap.objs.size := (hns.keeps F₁.keep).lt
  have pushed : ∀ (o : Obj) (b : Addr) (ob : Obj), s₁.heap.get? b = some ob → (s₁.heap.push o).get? b = some ob := fun o b ob e => Heap.get?_push_of_some o e
  refine wpAny_pyIter_list hl ?_
  have F₂ := F₁.keeps (pushed { cls := .type "list_iterator", data := .fields #[.ref l, .int 0 0] })
  have hl₂ : (s₁.heap.push { cls := .type "list_iterator", data := .fields #[.ref l, .int 0 0] }).IsList l items := hl.push _
  have hP₂ : (s₁.heap.push { cls := .type "list_iterator", data := .fields #[.ref l, .int 0 0] }).get? P = some (tabO ps) := pushed _ _ _ (N₁ _ (.head _)).1
  have hPlt : P < s₁.heap.objs.size := Heap.lt_size (N₁ _ (.head _)).1
  have hLlt : L < s₁.heap.objs.size := F₁.ns.lt
  have hR₂ : ∀ p ∈ R, (s₁.heap.push { cls := .type "list_iterator", data := .fields #[.ref l, .int 0 0] }).get? p.1 = some p.2 := fun p hp => pushed _ _ _ (N₁ p (.tail _ hp)).1
  have hit₂ : (s₁.heap.push { cls := .type "list_iterator", data := .fields #[.ref l, .int 0 0] }).IsListIter s₁.heap.objs.size l 0 := ⟨_, Heap.get?_push_size _ rfl, rfl, rfl⟩
  have hsz₂ : (s₁.heap.push { cls := .type "list_iterator", data := .fields #[.ref l, .int 0 0] }).objs.size = s₁.heap.objs.size + 1 := Heap.size_push _ _
  generalize hH : (s₁.heap.push { cls := .type "list_iterator", data := .fields #[.ref l, .int 0 0] }) = H₂ at F₂ hl₂ hP₂ hR₂ hit₂ hsz₂ ⊢
  refine ⟨hlim.keeps F₂.keep, ?_⟩
  have key : ∀ (code : Value) (h₃ : Heap) (tk₃ : Nat) (ps' : Array Value), (∀ b o, b ≠ P → H₂.get? b = some o → h₃.get? b = some o) → h₃.get? P = some (tabO ps') → TriplesOk ps'.toList → H₂.objs.size ≤ h₃.objs.size →
      (∀ p ∈ R, p.1 = P → False) →
      wpAny (model prog w) A (builtinsFor env.globals env.builtins) (fun bi s₄ =>
        ∃ I fp wr n₀ Pi St₀ pz F, (Value.ref s₁.heap.objs.size) = .ref I ∧ (∀ A' : Around, A'.handled = none → Walks prog w A' I fp wr n₀ Pi St₀) ∧ St₀ 0 s₄.heap ∧ (∀ b ∈ fp, b < s₄.heap.objs.size) ∧ s₄.heap.NoLimit ∧ cStatics ∉ wr ∧
          (∀ href : Heap, (∀ b o, s₄.heap.get? b = some o → href.get? b = some o) →
            QuietGenD prog w (genEnv scope cl s₄.heap.objs.size code bi env) x [] elt (List.range s₄.heap.objs.size) wr Pi pz F href (A.depth + 1) (A.units + 8)) ∧
          (∀ a h₅ tk gs, gs.bare = true → s₄.heap.objs.size < a → h₅.objs.size = a + 1 → (∀ b o, s₄.heap.get? b = some o → h₅.get? b = some o) →
            WalksS prog w A.in4 a (a :: s₄.heap.objs.size :: List.range s₄.heap.objs.size) (s₄.heap.objs.size :: wr) (GenOnlyQ s₄.gens.size) (passing pz n₀ 0).length
              (fun j y => ∃ i, (passing pz n₀ 0)[j]? = some i ∧ F i y) (GenAt prog w A.in4 a s₄.gens.size s₄.heap.objs.size (List.range s₄.heap.objs.size) wr pz n₀ F) →
            GenAt prog w A.in4 a s₄.gens.size s₄.heap.objs.size (List.range s₄.heap.objs.size) wr pz n₀ F 0 { s₄ with gens := s₄.gens.push gs, toks := tk, heap := h₅ } →
            Q (.ref a) { s₄ with gens := s₄.gens.push gs, toks := tk, heap := h₅ })) E { s₁ with heap := h₃, toks := tk₃ } := by
    intro code h₃ tk₃ ps' hx₃ hP₃ htr₃ hsz₃ hRP
    have hS : s₁.heap.objs.size + 1 ≤ h₃.objs.size := hsz₂ ▸ hsz₃
    have F₃ : Fr h₀ L h₃ m := ⟨F₂.ns.extBut (fun b o hb e => hx₃ b o hb e) hLP, fun b o e => hx₃ b o (fun e' => by subst e'; rw [hPnone] at e; cases e) (F₂.keep b o e), F₂.above⟩
    have M₃ : BMod h₃ env.globals mg bm ob := M.keeps F₃.keep
    have hl₃ : h₃.NoLimit := hlim.keeps F₃.keep
    refine wpAny_builtinsFor M₃.ns M₃.name M₃.ne M₃.obj M₃.cls M₃.dict M₃.data ?_
    refine ⟨s₁.heap.objs.size, [s₁.heap.objs.size, l], [s₁.heap.objs.size], items.size, _, _, (fun _ => true), F, rfl, (fun A' hA => Walks.list hA _ _ (Nat.ne_of_lt hlt) items), ⟨?_, ?_⟩, ?_, hl₃, ?_, ?_, ?_⟩
    · exact hit₂.at fun o e => hx₃ _ o (Nat.ne_of_gt hPlt) e
    · exact hl₂.at fun o e => hx₃ _ o hlP e
    · intro b hb
      show b < h₃.objs.size
      rcases List.mem_cons.mp hb with rfl | hb
      · exact hS
      · rcases List.mem_cons.mp hb with rfl | hb
        · exact Nat.lt_trans hlt hS
        · cases hb
    · intro hb
      exact Nat.ne_of_lt hstat (List.mem_singleton.mp hb)
    · intro href hhref
      refine ⟨fun A' E' i v t m₂ hA hD hU hPi hn hm hkp => ?_, fun A' E' i v t m₂ hA hD hU hPi hp hn hm hkp => ?_⟩
      · exact wpAny_pure ⟨rfl, t.heap, t.toks, rfl, fun _ _ e => e⟩
      · exact hq code _ A' E' i v t m₂ hA hD hU hPi hn hm
    · intro a h₅ tk gs hgb hag hsz₅ hk₅ W hat
      have hpass : passing (fun _ => true) items.size 0 = List.range items.size := by simp [passing]
      have hlen : (passing (fun _ => true) items.size 0).length = items.size := by rw [hpass]; simp
      refine hQ a _ ps' (s₁.heap.objs.size - 1) (F₃.keeps hk₅) (G₁.push hgb) rfl ?_ htr₃ (Nat.le_sub_one_of_lt hLlt) ?_ ?_
      · intro p hp
        rcases List.mem_cons.mp hp with rfl | hp
        · exact ⟨hk₅ _ _ hP₃, Ne.symm hLP, hPnone⟩
        · exact ⟨hk₅ _ _ (hx₃ _ _ (fun e => hRP p hp e) (hR₂ p hp)), (N₁ p (.tail _ hp)).2⟩
      · intro p hp
        have : p.1 < s₁.heap.objs.size := by
          rcases List.mem_cons.mp hp with rfl | hp
          · exact hPlt
          · exact Heap.lt_size (N₁ p (.tail _ hp)).1
        exact Nat.le_sub_one_of_lt this
      · have W' := W
        rw [hlen] at W'
        have e : (fun j y => ∃ i, (passing (fun _ => true) items.size 0)[j]? = some i ∧ F i y) = fun j y => j < items.size ∧ F j y := by
          funext j y
          rw [hpass]
          by_cases hj : j < items.size
          · simp [hj]
          · simp [hj]
        rw [e] at W'
        refine ⟨_, _, _, _, walksS_weaken W' (fun i v hv => hv.2), hat, (fun i s' st => st.1.typeIs), List.mem_cons_self, ?_, ?_⟩
        · intro b hb
          show b < h₅.objs.size
          rw [hsz₅]
          rcases List.mem_cons.mp hb with rfl | hb
          · exact Nat.lt_succ_self _
          · rcases List.mem_cons.mp hb with rfl | hb
            · exact Nat.lt_succ_of_lt hag
            · exact Nat.lt_succ_of_lt (Nat.lt_trans (List.mem_range.mp hb) hag)
        · intro b hb
          rcases List.mem_cons.mp hb with rfl | hb
          · exact Nat.lt_of_le_of_lt (Nat.sub_le _ _) hS
          · have e := List.mem_singleton.mp hb
            rw [e]
            exact Nat.sub_lt (Nat.lt_of_le_of_lt (Nat.zero_le _) hlt) Nat.one_pos
  have hRP : ∀ p ∈ R, p.1 = P → False := hRP₀
  have hC := hCA H₂ ps F₂.keep hP₂ htr
  cases hnf : codeAmong pos ps.toList with
  | none =>
    refine wpAny_genexprCodeX hcode hC.1 hC.2 hnf fun c' h₃ tk₃ hx₃ hge hlt' hcode₃ _ htab₃ _ => ?_
    obtain ⟨_, _, _, _, _, _, _, _, _, _, _, _, _, _, _, _, _, _, _, htr₃, _⟩ := hcode₃
    exact key (.ref c') h₃ tk₃ _ (fun b o hb e => hx₃ b o hb e) htab₃.2 htr₃ (Nat.le_trans hge (Nat.le_of_lt hlt')) hRP
  | some cv =>
    refine wpAny_genexprCode_hit hcode hC.1 hnf ?_
    exact key cv H₂ s₁.toks ps (fun _ _ _ e => e) hP₂ htr (Nat.le_refl _) hRP
theorem my_all {news : List (Addr × Obj)} {a K : Addr} {n : Nat} {Q : Value → Shared → Prop} (Fh : Fr h₀ L s.heap m) (G : AllBare s.gens) (X : Gen prog w A K a n (fun _ y => y = .bool true) s) (hLK : L ≤ K) (N : News h₀ L s.heap news) (hK : ∀ p ∈ news, p.1 ≤ K)
    (h : ∀ s', Fr h₀ L s'.heap m → AllBare s'.gens → s'.os = s.os → News h₀ L s'.heap news → Q (.bool true) s') : wpAny (model prog w) A (call (.builtin "all") [.ref a]) Q E s := by
  refine all_rowsK Fh G X hLK (fun _ => true) (fun i v s Q E hv hQ => ?_) fun s' F' G' hos hk => ?_
  · subst hv
    exact wpAny_truthy_bool hQ
  · have e : (List.range n).all (fun _ => true) = true := by simp
    rw [e]
    exact h s' F' G' hos fun p hp => ⟨hk _ _ (hK p hp) (N p hp).1, (N p hp).2⟩
end
end Mine
end
section -- R4
open PySem PySem.W PyProof.Rows PySem.Calls
namespace Mine
structure Hide (p : Prop) : Prop where
  out : p
theorem off1_mem {D : Addr} {l : List (Addr × Obj)} : LCg.Off1 D l → ∀ p ∈ l, p.1 ≠ D := by
  induction l with
  | nil => intro _ p hp; exact absurd hp List.not_mem_nil
  | cons a r ih =>
    intro h p hp
    simp only [LCg.Off1] at h
    rcases List.mem_cons.mp hp with e | hp
    · rw [e]; exact h.1
    · exact ih h.2 p hp
theorem allLt_mem {d : Addr} {l : List (Addr × Obj)} : AllLt d l → ∀ p ∈ l, p.1 < d := by
  induction l with
  | nil => intro _ p hp; exact absurd hp List.not_mem_nil
  | cons a r ih =>
    intro h p hp
    simp only [AllLt] at h
    rcases List.mem_cons.mp hp with e | hp
    · rw [e]; exact h.1
    · exact ih h.2 p hp
theorem news_sub {h₀ h : Heap} {L : Addr} {A C : List (Addr × Obj)} (N : News h₀ L h C) (k : ∀ p ∈ A, p ∈ C) : News h₀ L h A := fun p hp => N p (k p hp)
theorem list_own {prog : Program} {w : World} {A : Around} {E : Value → Shared → Prop} {s : Shared} {h₀ : Heap} {L : Addr} {m : Str → Option Value} {news : List (Addr × Obj)} {b : Addr} {vs : List Value} {ns : List Int} {n : Nat} {Q : Value → Shared → Prop} (F : Fr h₀ L s.heap m) (N : News h₀ L s.heap news) (hb : (b, W.listOf vs.toArray n) ∈ news) (hi : IntsAre vs ns) (hl : ns.length = 256)
    (h : ∀ D c h', Fr h₀ L h' m → News h₀ L h' ((D, W.listOf vs.toArray c) :: news) → (∀ q ∈ news, q.1 < D) → Q (.ref D) { s with heap := h' }) : wpAny (model prog w) A (call (.type "list") [.ref b]) Q E s :=
  kup_listOf F N hb (by simp) h (by simpa using sz256 hi hl)
end Mine
end
section -- R5
open PySem PySem.W PyProof.Rows PySem.Calls
namespace Mine
/-- the end of a turn of a loop over a written list, where the turns may draw generators -/
def ForEnd (h₀ : Heap) (L I : Addr) (o : Obj) (l : Addr) (lo : Obj) (os₀ : OsState) (J : (Str → Option Value) → List (Addr × Obj) → Prop) (s₃ : Shared) : Prop :=
  ∃ m news, Fr h₀ L s₃.heap m ∧ News h₀ L s₃.heap ((I, o) :: (l, lo) :: news) ∧ (∀ p ∈ news, p.1 ≠ I) ∧ AllBare s₃.gens ∧ s₃.os = os₀ ∧ J m news
def ForPost (prog : Program) (w : World) (A : Around) (E : Value → Shared → Prop) (Q : Flow → Shared → Prop) (env : Env) (h₀ : Heap) (elts : List Expr) (x1 : Nat) (tp : Pos) (body : List Stmt) (os₀ : OsState) (xv : Value) (s₁ : Shared) : Prop :=
  ∃ (l : Addr) (n : Nat) (m : Str → Option Value) (news : List (Addr × Obj)) (items : Array Value) (J : Nat → (Str → Option Value) → List (Addr × Obj) → Prop),
    xv = .ref l ∧ Fr h₀ env.locals s₁.heap m ∧ News h₀ env.locals s₁.heap ((l, W.listOf items n) :: news) ∧ AllBare s₁.gens ∧ s₁.os = os₀ ∧ J 0 m news ∧ (∀ (i : Nat) (v : Value), items[i]? = some v → ∃ T, v = Value.ref T) ∧
    (∀ (i : Nat) (v : Value) I o m news (s₁ : Shared), items[i]? = some v → J i m news → (∀ p ∈ news, p.1 ≠ I) → l ≠ I → Fr h₀ env.locals s₁.heap m → News h₀ env.locals s₁.heap ((I, o) :: (l, W.listOf items n) :: news) → AllBare s₁.gens → s₁.os = os₀ →
      wpAny (model prog w) A (assign (.Tuple elts x1 tp) env v) (fun _ s₂ => wpAny (model prog w) A (execs body env) (fun f s₃ => match f with | .ret v => Q (.ret v) s₃ | .brk => Q .next s₃ | _ => ForEnd h₀ env.locals I o l (W.listOf items n) os₀ (J (i + 1)) s₃) E s₂) E s₁) ∧
    (∀ m news (s₁ : Shared), J items.size m news → Fr h₀ env.locals s₁.heap m → News h₀ env.locals s₁.heap news → AllBare s₁.gens → s₁.os = os₀ → Q .next s₁)
theorem my_for {prog : Program} {w : World} {A : Around} {E : Value → Shared → Prop} {Q : Flow → Shared → Prop} {s : Shared} {env : Env} {h₀ : Heap} {elts : List Expr} {x1 : Nat} {tp pos : Pos} {iter : Expr} {body : List Stmt} {os₀ : OsState} {m₀ : Str → Option Value}
    (_F : Fr h₀ env.locals s.heap m₀) (hh : A.handled = none) (hE : PassesOwn (model prog w) A env E)
    (h : wpAny (model prog w) A (eval iter env) (ForPost prog w A E Q env h₀ elts x1 tp body os₀) E s) (hs : ∀ x, foldedSetIterable iter env x = pure x) :
    wpAny (model prog w) A (exec (.For (.Tuple elts x1 tp) iter body [] pos) env) Q E s := by
  refine wpAny_For (wpAny_mono h (fun xv s₁ h₁ => ?_) fun _ _ e => e) hs
  obtain ⟨l, n, m, news, items, J, rfl, F, N, G, O, hJ, hT, turn, done⟩ := h₁
  have hlt : l < s₁.heap.objs.size := Heap.lt_size (N _ (.head _)).1
  have hLI : env.locals ≠ s₁.heap.objs.size := Nat.ne_of_lt F.ns.lt
  have hI0 : h₀.get? s₁.heap.objs.size = none := next_is_new F
  refine wpAny_pyIter_list (N.isList (.head _)) ?_
  have Wk : Walks prog w A s₁.heap.objs.size [s₁.heap.objs.size, l] [s₁.heap.objs.size] items.size (fun i v => items[i]? = some v) (fun i h => h.IsListIter s₁.heap.objs.size l i ∧ h.IsList l items) := Walks.list hh _ l (Nat.ne_of_lt hlt) items
  refine codeAny_forLoop_any (R := fun r s' => match r with | .ok f => Q f s' | .error e => cameBackBy (model prog w) A env E e s')
    (fun k s' => ∃ i m news, Fr h₀ env.locals s'.heap m ∧ News h₀ env.locals s'.heap ((l, W.listOf items n) :: news) ∧ (s'.heap.IsListIter s₁.heap.objs.size l i ∧ s'.heap.IsList l items) ∧ (∀ p ∈ news, p.1 ≠ s₁.heap.objs.size) ∧ AllBare s'.gens ∧ s'.os = os₀ ∧ J i m news ∧ i ≤ items.size ∧ k = items.size + 1 - i)
    ?_ (items.size + 1) ⟨0, m, news, F.push _, fun p hp => ⟨Heap.get?_push_of_some _ (N p hp).1, (N p hp).2⟩, ⟨⟨_, Heap.get?_push_size _ rfl, rfl, rfl⟩, (N.isList (.head _)).push _⟩, fun p hp => Nat.ne_of_lt (Heap.lt_size (N p (.tail _ hp)).1), G, O, hJ, Nat.zero_le _, rfl⟩
  rintro k s' ⟨i, m', news', F', N', st', hI', G', O', hJ', hi, rfl⟩
  by_cases hin : i < items.size
  · refine Wk.item i _ _ _ hin st' fun v h₁ tk₁ hP hst₁ hk₁ => ?_
    have hk : ∀ b o, b ≠ s₁.heap.objs.size → s'.heap.get? b = some o → h₁.get? b = some o := fun b o hb e => hk₁ b o (fun q => hb (List.mem_singleton.mp q)) e
    have F₁ : Fr h₀ env.locals h₁ m' := ⟨F'.ns.at' fun o e => hk _ o hLI e, fun b o e => hk b o (fun q => by rw [q, hI0] at e; cases e) (F'.keep b o e), F'.above⟩
    obtain ⟨o, ho, ho2⟩ := hst₁.1
    have N₁ : News h₀ env.locals h₁ ((s₁.heap.objs.size, o) :: (l, W.listOf items n) :: news') := by
      intro p hp
      rcases List.mem_cons.mp hp with rfl | hp
      · exact ⟨ho, Ne.symm hLI, hI0⟩
      · refine ⟨hk _ _ ?_ (N' p hp).1, (N' p hp).2⟩
        rcases List.mem_cons.mp hp with rfl | hp
        · exact Nat.ne_of_lt hlt
        · exact hI' p hp
    obtain ⟨T, rfl⟩ := hT i v hP
    refine wpAny_letOwnedTupleGo_listiter hst₁.1 ?_
    have t := turn i (.ref T) s₁.heap.objs.size o m' news' { s' with heap := h₁, toks := tk₁ } hP hJ' hI' (Nat.ne_of_lt hlt) F₁ N₁ G' O'
    refine wpAny_passesOwn hE (wpAny_mono t (fun _ s₂ h₂ => ?_) fun _ _ e => e)
    refine wpAny_passesOwn hE (wpAny_mono h₂ (fun f s₃ h₃ => ?_) fun _ _ e => e)
    have fin : ForEnd h₀ env.locals s₁.heap.objs.size o l (W.listOf items n) os₀ (J (i + 1)) s₃ → ∃ k', k' < items.size + 1 - i ∧ ∃ i m news, Fr h₀ env.locals s₃.heap m ∧ News h₀ env.locals s₃.heap ((l, W.listOf items n) :: news) ∧ (s₃.heap.IsListIter s₁.heap.objs.size l i ∧ s₃.heap.IsList l items) ∧ (∀ p ∈ news, p.1 ≠ s₁.heap.objs.size) ∧ AllBare s₃.gens ∧ s₃.os = os₀ ∧ J i m news ∧ i ≤ items.size ∧ k' = items.size + 1 - i := by
      rintro ⟨m₂, news₂, F₂, N₂, hI₂, G₂, O₂, hJ₂⟩
      exact ⟨items.size + 1 - (i + 1), by omega, i + 1, m₂, news₂, F₂, fun p hp => N₂ p (.tail _ hp), ⟨⟨o, (N₂ _ (.head _)).1, ho2⟩, N₂.isList (.tail _ (.head _))⟩, hI₂, G₂, O₂, hJ₂, hin, rfl⟩
    cases f with
    | ret v => exact h₃
    | brk => exact h₃
    | next => exact fin h₃
    | cont => exact fin h₃
  · have e : i = items.size := by omega
    subst e
    refine Wk.done _ _ _ st' fun h₁ tk₁ hk₁ => wpAny_execs_nil ?_
    have hk : ∀ b o, b ≠ s₁.heap.objs.size → s'.heap.get? b = some o → h₁.get? b = some o := fun b o hb e => hk₁ b o (fun q => hb (List.mem_singleton.mp q)) e
    exact done m' news' _ hJ' ⟨F'.ns.at' fun o e => hk _ o hLI e, fun b o e => hk b o (fun q => by rw [q, hI0] at e; cases e) (F'.keep b o e), F'.above⟩ (fun p hp => ⟨hk _ _ (hI' p hp) (N' p (.tail _ hp)).1, (N' p (.tail _ hp)).2⟩) G' O'
end Mine
end
section -- RZ
open PySem PySem.W PyProof.Rows PySem.Calls
namespace Mine
section
variable {prog : Program} {w : World} {A : Around} {E : Value → Shared → Prop} {s : Shared} {h₀ : Heap} {m : Str → Option Value} {env : Env}
/-- the element of a comprehension over zip: an int of the two ints -/
def EltIs (prog : Program) (w : World) (A : Around) (elt : Expr) (scope : Scope) (cl : List (Str × Addr)) (env : Env) (a b : Str) (g : Int → Int → Int) : Prop :=
  ∀ (C : Addr) (m₂ : Str → Option Value) (k1 k2 : Int) (t1 t2 : Tok) (s' : Shared) (Q' : Value → Shared → Prop) (E' : Value → Shared → Prop), s'.heap.Ns C m₂ → m₂ a = some (.int k1 t1) → m₂ b = some (.int k2 t2) →
    (∀ t tk, Q' (.int (g k1 k2) t) { s' with toks := tk }) → wpAny (model prog w) A (eval elt (compEnvC scope cl C env)) Q' E' s'
abbrev zSt (z TI TO i1 i2 l1 l2 : Addr) (xs ys : Array Value) (i : Nat) (h : Heap) : Prop :=
  IsZip h z TI TO .none ∧ IsPair h TI (.ref i1) (.ref i2) ∧ (∃ a b, IsPair h TO a b) ∧ h.IsListIter i1 l1 i ∧ h.IsListIter i2 l2 i ∧ h.IsList l1 xs ∧ h.IsList l2 ys
def ZPost (prog : Program) (w : World) (A : Around) (h₀ : Heap) (env : Env) (m : Str → Option Value) (elt : Expr) (a b : Str) (scope : Scope) (cl : List (Str × Addr)) (Fin : Shared → List Value → List (Addr × Obj) → Prop) (xv : Value) (s₁ : Shared) : Prop :=
  ∃ (z TI TO i1 i2 l1 l2 : Addr) (xs ys : List Value) (ns1 ns2 : List Int) (news : List (Addr × Obj)) (g : Int → Int → Int),
    xv = .ref z ∧ ZipApart z TI TO i1 i2 l1 l2 ∧ zSt z TI TO i1 i2 l1 l2 xs.toArray ys.toArray 0 s₁.heap ∧ IntsAre xs ns1 ∧ IntsAre ys ns2 ∧ ns1.length = 256 ∧ ns2.length = 256 ∧ Fr h₀ env.locals s₁.heap m ∧ News h₀ env.locals s₁.heap news ∧
    (∀ c ∈ [z, TO, i1, i2], h₀.get? c = none ∧ env.locals ≠ c ∧ ∀ p ∈ news, p.1 ≠ c) ∧ (∀ c ∈ [z, TI, TO, i1, i2, l1, l2], c < s₁.heap.objs.size) ∧
    EltIs prog w A elt scope cl env a b g ∧ ∀ s₂ : Shared, (∃ h, s₂ = { s₁ with heap := h }) → ∀ vs, IntsAre vs (List.zipWith g ns1 ns2) → Fin s₂ vs news
theorem zip_get {g : Int → Int → Int} {ns1 ns2 : List Int} {i : Nat} {k1 k2 : Int} (h1 : ns1[i]? = some k1) (h2 : ns2[i]? = some k2) : (List.zipWith g ns1 ns2)[i]? = some (g k1 k2) := by
  rw [List.getElem?_zipWith, h1, h2]
theorem zblock {elt iter : Expr} {a b : Str} {pa pb tp : Pos} {kk : Nat} {scope : Scope} {cl : List (Str × Addr)} {pos : Pos} {s₂ : Shared} {z TI TO i1 i2 l1 l2 : Addr} {xs ys : List Value} {ns1 ns2 : List Int} {news : List (Addr × Obj)} {g : Int → Int → Int}
    {RR : Value → Addr → Result → Shared → Prop} (hh : A.handled = none) (D : ZipApart z TI TO i1 i2 l1 l2) (hst : zSt z TI TO i1 i2 l1 l2 xs.toArray ys.toArray 0 s₂.heap) (hx : IntsAre xs ns1) (hy : IntsAre ys ns2) (hl1 : ns1.length = 256) (hl2 : ns2.length = 256)
    (F : Fr h₀ env.locals s₂.heap m) (N : News h₀ env.locals s₂.heap news) (hnew : ∀ c ∈ [z, TO, i1, i2], h₀.get? c = none ∧ env.locals ≠ c ∧ ∀ p ∈ news, p.1 ≠ c) (hold : ∀ c ∈ [z, TI, TO, i1, i2, l1, l2], c < s₂.heap.objs.size)
    (hcell : ∀ y ∈ scope.names, y.2 ≠ .cell) (hkind : scope.kind = .function) (hxa : scope.names.lookup a = some .local) (hxb : scope.names.lookup b = some .local) (hab : ¬ a = b)
    (helt : EltIs prog w A elt scope cl env a b g)
    (hRR : ∀ D C h tk m' vs, Fr h₀ env.locals h m → News h₀ env.locals h ((D, LCg.lst vs) :: news) → h.Ns C m' → h₀.get? C = none → h₀.get? D = none → C ≠ env.locals → D ≠ env.locals → C ≠ D → (∀ p ∈ news, p.1 ≠ C) → (∀ p ∈ news, p.1 < D) → IntsAre vs (List.zipWith g ns1 ns2) → RR (.ref D) C (.ok .next) { s₂ with heap := h, toks := tk }) :
    wpAny (model prog w) A (newList []) (fun acc s₃ => wpAny (model prog w) A (newFunctionEnv scope env.globals cl [] env.qual none .none (some env)) (fun cenv s₄ =>
      codeAny (model prog w) A (.compStart (.ListComp elt [⟨.Tuple [.Name a pa, .Name b pb] kk tp, iter, [], 0⟩] scope pos) 0 (.ref z) acc { cenv with scope := relabel scope env }) (RR acc cenv.locals) s₄) E s₃) E s₂ := by
  refine wpAny_newObj_type (wpAny_newFunctionEnv hcell (by intro y hy; simp at hy) (fun h₁ hns₁ hsb₁ => ?_) hkind)
  dsimp only at hns₁ hsb₁ ⊢
  generalize hH2 : s₂.heap.push { cls := .type "list", dict := none, data := .seq ([] : List Value).toArray } = H2 at hns₁ hsb₁ ⊢
  have hC : H2.objs.size = s₂.heap.objs.size + 1 := by rw [← hH2, Heap.size_push]
  have hDC : s₂.heap.objs.size ≠ H2.objs.size := by rw [hC]; exact Nat.ne_of_lt (Nat.lt_succ_self _)
  have below : ∀ b, b < s₂.heap.objs.size → b ≠ H2.objs.size ∧ b ≠ s₂.heap.objs.size := fun b hb => ⟨by rw [hC]; exact Nat.ne_of_lt (Nat.lt_succ_of_lt hb), Nat.ne_of_lt hb⟩
  have old : ∀ b o, s₂.heap.get? b = some o → h₁.get? b = some o := fun b o e => hsb₁.extBut b o (below b (Heap.lt_size e)).1 (Heap.get?_push_of_some _ (hH2 ▸ Heap.get?_push_of_some _ e))
  have hacc : h₁.get? s₂.heap.objs.size = some (LCg.lst []) := hsb₁.extBut _ _ hDC (Heap.get?_push_of_some _ (hH2 ▸ Heap.get?_push_size _ rfl))
  have fresh : ∀ a, s₂.heap.objs.size ≤ a → s₂.heap.get? a = none := fun a ha => by
    cases e : s₂.heap.get? a with
    | none => rfl
    | some o' => exact absurd (Heap.lt_size e) (Nat.not_lt.mpr ha)
  have fresh₀ : ∀ a, s₂.heap.objs.size ≤ a → h₀.get? a = none := fun a ha => by
    cases e : h₀.get? a with
    | none => rfl
    | some o' => have := F.keep a o' e; rw [fresh a ha] at this; cases this
  have hD₀ : h₀.get? s₂.heap.objs.size = none := fresh₀ _ (Nat.le_refl _)
  have hC₀ : h₀.get? H2.objs.size = none := fresh₀ _ (by rw [hC]; exact Nat.le_succ _)
  have hLlt : env.locals < s₂.heap.objs.size := F.ns.lt
  have hDL : s₂.heap.objs.size ≠ env.locals := Ne.symm (below _ hLlt).2
  have hCL : H2.objs.size ≠ env.locals := Ne.symm (below _ hLlt).1
  have offC : ∀ p ∈ news, p.1 ≠ H2.objs.size ∧ p.1 ≠ s₂.heap.objs.size := fun p hp => below _ (Heap.lt_size (N p hp).1)
  have offD : ∀ p ∈ news, p.1 < s₂.heap.objs.size := fun p hp => Heap.lt_size (N p hp).1
  have W : KTurns prog w A (.Tuple [.Name a pa, .Name b pb] kk tp) z _ _ _ _ _ _ := KTurns.ofWalksU (elts := [.Name a pa, .Name b pb]) (k := kk) (pos := tp) (WalksT.zip2 hh z TI TO i1 i2 l1 l2 D xs.toArray ys.toArray).toU
  have hn : min xs.toArray.size ys.toArray.size = 256 := by simp [hx.length, hy.length, hl1, hl2]
  rw [hn] at W
  have hst₁ : zSt z TI TO i1 i2 l1 l2 xs.toArray ys.toArray 0 h₁ := W.frame _ _ _ hst fun b _ o e => old b o e
  have hwr : ∀ c ∈ [z, TO, i1, i2], c ≠ H2.objs.size ∧ c ≠ s₂.heap.objs.size ∧ h₀.get? c = none ∧ env.locals ≠ c ∧ ∀ p ∈ news, p.1 ≠ c := fun c hc => by
    have h1 := below c (hold c (by simp at hc ⊢; rcases hc with rfl | rfl | rfl | rfl <;> simp))
    exact ⟨h1.1, h1.2, hnew c hc⟩
  have loop : ∀ s₃ : Shared, s₃ = { s₂ with heap := h₁, toks := s₂.toks + ([] : List (Str × Value)).length } →
      codeAny (model prog w) A (.compLoop (.ListComp elt [⟨.Tuple [.Name a pa, .Name b pb] kk tp, iter, [], 0⟩] scope pos) 0 (.ref z) (.ref s₂.heap.objs.size) (compEnvC scope cl H2.objs.size env))
        (RR (.ref s₂.heap.objs.size) H2.objs.size) s₃ := by
    rintro s₃ rfl
    refine kcp_loop
      (fun k s' => ∃ h' tk i vs m', s' = { s₂ with heap := h', toks := tk } ∧ i ≤ 256 ∧ k = 256 + 1 - i ∧ vs.length = i ∧ zSt z TI TO i1 i2 l1 l2 xs.toArray ys.toArray i h' ∧ Fr h₀ env.locals h' m ∧ h'.Ns H2.objs.size m' ∧
        News h₀ env.locals h' ((s₂.heap.objs.size, LCg.lst vs) :: news) ∧ IntsAre vs ((List.zipWith g ns1 ns2).take i)) ?_ (256 + 1)
      ⟨h₁, _, 0, [], _, rfl, Nat.zero_le _, rfl, rfl, hst₁, F.keeps old, hns₁, fun p hp => ?_, by rw [List.take_zero]; exact .nil⟩
    · rintro k s' ⟨h', tk, i, vs, m', rfl, hi, rfl, hyl, hst', F', hn', N', hI'⟩
      by_cases hlt : i < 256
      · refine W.item i _ _ _ hlt hst' fun v h₂ tk₂ hMd hk₂ => ?_
        refine W.go i v _ _ _ hMd fun h₃ hP hst₃ hk₃ => ?_
        obtain ⟨T, vals, rfl, ⟨x, y, hx9, hy9, rfl⟩, hT⟩ := hP
        obtain ⟨k1, t1, e1, g1⟩ := IntsAre.at hx i x (by simpa using hx9)
        obtain ⟨k2, t2, e2, g2⟩ := IntsAre.at hy i y (by simpa using hy9)
        subst e1
        subst e2
        have up₃ : ∀ c o, c ∉ [z, TO, i1, i2] → h'.get? c = some o → h₃.get? c = some o := fun c o hc e => hk₃ c o hc (hk₂ c o hc e)
        refine kcp_assign (env := compEnvC scope cl H2.objs.size env) hh hT (lookup_relabel_local hxa) (lookup_relabel_local hxb) (by simp [compEnvC, relabel, hkind]) (hn'.at' fun o e => up₃ _ o (fun q => (hwr _ q).1 rfl) e) fun h₄ tk₄ hn₄ hs₄ => ?_
        have up : ∀ c o, c ∉ [z, TO, i1, i2] → c ≠ H2.objs.size → h'.get? c = some o → h₄.get? c = some o := fun c o h1 h2 e => hs₄ c o h2 (up₃ c o h1 e)
        have hst₄ : zSt z TI TO i1 i2 l1 l2 xs.toArray ys.toArray (i + 1) h₄ := W.frame _ _ _ hst₃ fun c hc o e => hs₄ c o (below c (hold c hc)).1 e
        have F₄ : Fr h₀ env.locals h₄ m := ⟨F'.ns.at' fun o e => up _ o (fun q => (hwr _ q).2.2.2.1 rfl) (Ne.symm hCL) e, fun c o e => up c o (fun q => by rw [(hwr c q).2.2.1] at e; cases e) (fun q => by rw [q, hC₀] at e; cases e) (F'.keep c o e), F'.above⟩
        have N₄ : News h₀ env.locals h₄ ((s₂.heap.objs.size, LCg.lst vs) :: news) := fun q hq => by
          have zq := N' q hq
          refine ⟨up _ _ ?_ ?_ zq.1, zq.2⟩
          · rcases List.mem_cons.mp hq with rfl | hq
            · exact fun r => (hwr _ r).2.1 rfl
            · exact fun r => (hwr _ r).2.2.2.2 q hq rfl
          · rcases List.mem_cons.mp hq with rfl | hq
            · exact hDC
            · exact (offC q hq).1
        refine helt _ _ k1 k2 t1 t2 _ _ _ hn₄ (by simp [hab]) (by simp) fun t tk₅ => ?_
        refine append_at (hsz := by show vs.toArray.size ≤ sizeLine; rw [List.size_toArray, hyl, sizeLine_eq]; omega) (N₄ _ (.head _)).1 fun h₆ hs₆ hD₆ => ?_
        have hlt0 : ∀ c ∈ [z, TI, TO, i1, i2, l1, l2], c ≠ s₂.heap.objs.size := fun c hc => (below c (hold c hc)).2
        refine ⟨256 + 1 - (i + 1), by omega, h₆, tk₅, i + 1, vs ++ [.int (g k1 k2) t], _, rfl, hlt, rfl, by rw [List.length_append, List.length_singleton, hyl], W.frame _ _ _ hst₄ fun c hc o e => hs₆.extBut c o (hlt0 c hc) e, F₄.change hs₆ hDL hD₀,
          hn₄.sameBut hs₆ (Ne.symm hDC), fun q hq => ?_, ?_⟩
        · rcases List.mem_cons.mp hq with rfl | hq
          · exact ⟨hD₆.trans (congrArg some (LCg.lst_snoc vs _)), hDL, hD₀⟩
          · exact ⟨hs₆.extBut _ _ (offC q hq).2 (N₄ q (.tail _ hq)).1, (N₄ q (.tail _ hq)).2⟩
        · rw [List.take_add_one, zip_get g1 g2]
          exact IntsAre.append hI' (.cons _ t .nil)
      · have hin : i = 256 := Nat.le_antisymm hi (Nat.not_lt.mp hlt)
        subst hin
        refine W.done _ _ _ hst' fun h₂ tk₂ hk₂ => ?_
        have hlz : (List.zipWith g ns1 ns2).length = 256 := by simp [hl1, hl2]
        rw [List.take_of_length_le (Nat.le_of_eq hlz)] at hI'
        refine hRR _ _ h₂ tk₂ _ vs ⟨F'.ns.at' fun o e => hk₂ _ o (fun q => (hwr _ q).2.2.2.1 rfl) e, fun c o e => hk₂ c o (fun q => by rw [(hwr c q).2.2.1] at e; cases e) (F'.keep c o e), F'.above⟩ (fun p hp => ⟨hk₂ _ _ ?_ (N' p hp).1, (N' p hp).2⟩)
          (hn'.at' fun o e => hk₂ _ o (fun q => (hwr _ q).1 rfl) e) hC₀ hD₀ hCL hDL (Ne.symm hDC) (fun p hp => (offC p hp).1) offD hI'
        rcases List.mem_cons.mp hp with rfl | hp
        · exact fun r => (hwr _ r).2.1 rfl
        · exact fun r => (hwr _ r).2.2.2.2 p hp rfl
    · rcases List.mem_cons.mp hp with rfl | hp
      · exact ⟨hacc, hDL, hD₀⟩
      · exact ⟨old _ _ (N p hp).1, (N p hp).2⟩
  exact codeAny_compStart_list (loop _ rfl) (wpAny_pyIter_zip hst₁.1 (loop _ rfl))
theorem my_zip {elt iter : Expr} {a b y : Str} {pa pb py tp : Pos} {kk : Nat} {scope : Scope} {cl : List (Str × Addr)} {pos spos : Pos} {Q : Flow → Shared → Prop} (_F₀ : Fr h₀ env.locals s.heap m) (hh : A.handled = none)
    (hsw : swapsWith (.ListComp elt [⟨.Tuple [.Name a pa, .Name b pb] kk tp, iter, [], 0⟩] scope pos) (some (.Name y py)) spos.line env = pure true)
    (hclos : closureFor scope env = pure cl) (hcell : ∀ z ∈ scope.names, z.2 ≠ .cell) (hkind : scope.kind = .function)
    (hnames : ∀ z ∈ scope.names, z.2 = .local → scope.names.lookup z.1 = some .local) (hxa : scope.names.lookup a = some .local) (hxb : scope.names.lookup b = some .local) (hab : ¬ a = b)
    (hy : env.kindOf y = some .local) (hp : (env.scope.kind == .class || (env.scope.kind == .module && env.locals != env.globals)) = false)
    (h : wpAny (model prog w) A (eval iter env) (ZPost prog w A h₀ env m elt a b scope cl (fun s₂ vs news => ∀ D h tk, Fr h₀ env.locals h (fun z => if z = y then some (.ref D) else m z) → News h₀ env.locals h ((D, LCg.lst vs) :: news) → (∀ p ∈ news, p.1 < D) → Q .next { s₂ with heap := h, toks := tk })) E s)
    (hs : ∀ x, foldedSetIterable iter env x = pure x := by intro _; rfl) :
    wpAny (model prog w) A (exec (.Assign [.Name y py] (.ListComp elt [⟨.Tuple [.Name a pa, .Name b pb] kk tp, iter, [], 0⟩] scope pos) spos) env) Q E s := by
  rw [exec_Assign_Name_used _ _ _ _ hsw]
  refine wpAny_bind (wpAny_standAt (wpAny_bind ?_))
  show wpAny _ A (do let _ ← comprehension (.ListComp elt [⟨.Tuple [.Name a pa, .Name b pb] kk tp, iter, [], 0⟩] scope pos) scope env _ (newList []) false (eval iter env) (some (assign (.Name y py) env))) _ _ s
  refine wpAny_bind (wpAny_mono (wpAny_comprehension_free (use := some (assign (.Name y py) env)) (Q := fun _ s' => Q .next s') rfl hs hclos hkind hnames
    (wpAny_mono h (fun xv s₁ h₁ => ?_) fun _ _ e => e)) (fun _ s' hq => wpAny_pure (wpAny_pure hq)) fun _ _ e => e)
  obtain ⟨z, TI, TO, i1, i2, l1, l2, xs, ys, ns1, ns2, news, g, rfl, D, hst, hx, hy9, hl1, hl2, F, N, hnew, hold, helt, hfin⟩ := h₁
  refine wpAny_pyIter_zip hst.1 ?_
  refine zblock hh D hst hx hy9 hl1 hl2 F N hnew hold hcell hkind hxa hxb hab helt ?_
  intro D C h' tk m' vs F' N' hn hC₀ hD₀ hCL hDL hCD offC offD hI
  show wpAny _ A (assign (.Name y py) env (.ref D)) _ _ _
  refine wpAny_assign_Name (wpAny_storeName_local hy F'.ns (fun h₂ hn₂ hs₂ => ?_) hp)
  have hL₀ : h₀.get? env.locals = none := Heap.get?_none_of_le F'.above
  have F₂ : Fr h₀ env.locals h₂ (fun z => if z = y then some (.ref D) else m z) := ⟨hn₂, fun b o e => hs₂.extBut b o (fun q => by rw [q, hL₀] at e; cases e) (F'.keep b o e), F'.above⟩
  refine ⟨m', hn.sameBut hs₂ hCL, fun h'' hs'' => hfin s₁ ⟨_, rfl⟩ vs hI D h'' _ (F₂.change hs'' hCL hC₀) (fun p hp => ?_) offD⟩
  have z9 : h₂.get? p.1 = some p.2 := hs₂.extBut _ _ (N' p hp).2.1 (N' p hp).1
  refine ⟨hs''.extBut _ _ ?_ z9, (N' p hp).2⟩
  rcases List.mem_cons.mp hp with rfl | hp
  · exact Ne.symm hCD
  · exact offC p hp
theorem zip_call {elt : Expr} {a b : Str} {scope : Scope} {cl : List (Str × Addr)} {Fin : Shared → List Value → List (Addr × Obj) → Prop} {l1 l2 : Addr} {xs ys : List Value} {ns1 ns2 : List Int} {n1 n2 : Nat} {news : List (Addr × Obj)} (g : Int → Int → Int)
    (F : Fr h₀ env.locals s.heap m) (N : News h₀ env.locals s.heap news) (hm1 : (l1, W.listOf xs.toArray n1) ∈ news) (hm2 : (l2, W.listOf ys.toArray n2) ∈ news) (hx : IntsAre xs ns1) (hy : IntsAre ys ns2) (hl1 : ns1.length = 256) (hl2 : ns2.length = 256)
    (helt : EltIs prog w A elt scope cl env a b g) (hfin : ∀ s₂ : Shared, (∃ h, s₂ = { s with heap := h }) → ∀ vs, IntsAre vs (List.zipWith g ns1 ns2) → Fin s₂ vs news) :
    wpAny (model prog w) A (call (.type "zip") [.ref l1, .ref l2]) (ZPost prog w A h₀ env m elt a b scope cl Fin) E s := by
  have hlt1 : l1 < s.heap.objs.size := Heap.lt_size (N _ hm1).1
  have hlt2 : l2 < s.heap.objs.size := Heap.lt_size (N _ hm2).1
  have hLs : env.locals < s.heap.objs.size := F.ns.lt
  have fresh : ∀ a, s.heap.objs.size ≤ a → h₀.get? a = none := fun a ha => by
    cases e : h₀.get? a with
    | none => rfl
    | some o' => exact absurd (Heap.lt_size (F.keep a o' e)) (Nat.not_lt.mpr ha)
  have offN : ∀ p ∈ news, p.1 < s.heap.objs.size := fun p hp => Heap.lt_size (N p hp).1
  refine call_zip_2 (N.isList hm1) (N.isList hm2) fun h' hz hTI hTO hi1 hi2 hsz hk => ?_
  refine ⟨s.heap.objs.size + 4, s.heap.objs.size + 2, s.heap.objs.size + 3, s.heap.objs.size, s.heap.objs.size + 1, l1, l2, xs, ys, ns1, ns2, news, g, rfl, ktu_apart _ _ _ hlt1 hlt2, ⟨hz, hTI, ⟨_, _, hTO⟩, hi1, hi2, (N.isList hm1).at fun o e => hk l1 o e, (N.isList hm2).at fun o e => hk l2 o e⟩, hx, hy, hl1, hl2, F.keeps hk, N.grown hk, ?_, ?_, helt, ?_⟩
  · intro c hc
    have hc' : s.heap.objs.size ≤ c := by
      simp at hc
      rcases hc with rfl | rfl | rfl | rfl
      · exact Nat.le_add_right _ _
      · exact Nat.le_add_right _ _
      · exact Nat.le_refl _
      · exact Nat.le_add_right _ _
    exact ⟨fresh c hc', Nat.ne_of_lt (Nat.lt_of_lt_of_le hLs hc'), fun p hp => Nat.ne_of_lt (Nat.lt_of_lt_of_le (offN p hp) hc')⟩
  · intro c hc
    show @LT.lt Nat _ c h'.objs.size
    rw [hsz]
    have h1 : @LT.lt Nat _ l1 s.heap.objs.size := hlt1
    have h2 : @LT.lt Nat _ l2 s.heap.objs.size := hlt2
    simp at hc
    rcases hc with rfl | rfl | rfl | rfl | rfl | rfl | rfl <;> (revert h1 h2; generalize s.heap.objs.size = n; intro h1 h2; first | exact Nat.lt_succ_self _ | (simp only [Nat.lt_add_right_iff_pos, Nat.add_lt_add_iff_left]; decide) | exact Nat.lt_add_right 5 h1 | exact Nat.lt_add_right 5 h2)
  · rintro s₂ ⟨h, rfl⟩ vs hI
    exact hfin _ ⟨h, rfl⟩ vs hI
end
end Mine
end
section -- PL
open PySem PySem.W PyProof.Rows PySem.Calls
namespace Mine
theorem getD_set (ns : List Int) (j p : Nat) (v : Int) (h : j < ns.length) : (ns.set j v).getD p 0 = if p = j then v else ns.getD p 0 := by
  simp only [List.getD_eq_getElem?_getD, List.getElem?_set]
  by_cases e : j = p
  · subst e; simp [h]
  · have e' : p ≠ j := fun q => e q.symm
    simp [e, e']
/-- one turn of a forward layer, at an index -/
def lay (Z : Nat → Int) (n : Nat) (f : Nat → Int) : Nat → Int := fun p => if p % (2 * n) < n then f p + Z (p / (2 * n)) * f (p + n) else f (p - n) - Z (p / (2 * n)) * f p
def ilay (Z : Nat → Int) (n : Nat) (f : Nat → Int) : Nat → Int := fun p => if p % (2 * n) < n then f p + f (p + n) else Z (p / (2 * n)) * (f p - f (p - n))
theorem toNat_cast2 (a b : Nat) : ((a : Int) + (b : Int)).toNat = a + b := by omega
theorem bfl_get (z : Int) (n a : Nat) (ns : List Int) (hl : a + 2 * n ≤ ns.length) : ∀ i, i ≤ n → ∀ p, (bfl z (n : Int) (a : Int) ns i).getD p 0 =
    if a ≤ p ∧ p < a + i then ns.getD p 0 + z * ns.getD (p + n) 0 else if a + n ≤ p ∧ p < a + n + i then ns.getD (p - n) 0 - z * ns.getD p 0 else ns.getD p 0
  | 0, _, p => by
    have h1 : ¬ (a ≤ p ∧ p < a + 0) := by omega
    have h2 : ¬ (a + n ≤ p ∧ p < a + n + 0) := by omega
    simp only [h1, h2, if_false]; rfl
  | i + 1, hi, p => by
    have ih := bfl_get z n a ns hl i (by omega)
    have hlen : (bfl z (n : Int) (a : Int) ns i).length = ns.length := len_bfl _ _ _ _ _
    show (bfly z (n : Int) (bfl z (n : Int) (a : Int) ns i) ((a : Int) + (i : Int))).getD p 0 = _
    have e1 : ((a : Int) + (i : Int)).toNat = a + i := by omega
    have e2 : ((a : Int) + (i : Int) + (n : Int)).toNat = a + i + n := by omega
    unfold bfly
    rw [e1, e2]
    clear e1 e2
    generalize hX : bfl z (n : Int) (a : Int) ns i = X at ih hlen ⊢
    have hx1 : X.getD (a + i) 0 = ns.getD (a + i) 0 := by
      rw [ih, if_neg (by omega), if_neg (by omega)]
    have hx2 : X.getD (a + i + n) 0 = ns.getD (a + i + n) 0 := by
      rw [ih, if_neg (by omega), if_neg (by omega)]
    rw [getD_set _ _ _ _ (by rw [List.length_set]; omega), getD_set _ _ _ _ (by omega), getD_set _ _ _ _ (by omega), hx1, hx2, ih]
    by_cases hp1 : p = a + i
    · subst hp1
      rw [if_pos rfl, if_neg (show ¬ (a + i = a + i + n) by omega), if_pos (show a ≤ a + i ∧ a + i < a + (i + 1) by omega)]
    · rw [if_neg hp1]
      by_cases hp2 : p = a + i + n
      · subst hp2
        rw [if_pos rfl, if_neg (show ¬ (a ≤ a + i + n ∧ a + i + n < a + (i + 1)) by omega), if_pos (show a + n ≤ a + i + n ∧ a + i + n < a + n + (i + 1) by omega)]
        rw [show a + i + n - n = a + i by omega]
      · rw [if_neg hp2]
        have c1 : (a ≤ p ∧ p < a + i) ↔ (a ≤ p ∧ p < a + (i + 1)) := by omega
        have c2 : (a + n ≤ p ∧ p < a + n + i) ↔ (a + n ≤ p ∧ p < a + n + (i + 1)) := by omega
        simp only [c1, c2]
theorem blk_get (n k : Nat) (ns : List Int) (hn : 0 < n) : ∀ b, 2 * n * b ≤ ns.length → ∀ p, (blk (n : Int) (k : Int) ns b).getD p 0 =
    if p < 2 * n * b then lay (fun q => zs.getD (k + q) 0) n (fun p => ns.getD p 0) p else ns.getD p 0
  | 0, _, p => by
    rw [if_neg (by omega)]; rfl
  | b + 1, hb, p => by
    have hm : 2 * n * (b + 1) = 2 * n * b + 2 * n := Nat.mul_succ _ _
    have ih := blk_get n k ns hn b (by omega)
    have hlen : (blk (n : Int) (k : Int) ns b).length = ns.length := len_blk _ _ _ _
    show (bfl (zs.getD ((k : Int) + (b : Int)).toNat 0) (n : Int) (2 * (n : Int) * (b : Int)) (blk (n : Int) (k : Int) ns b) (n : Int).toNat).getD p 0 = _
    have e1 : ((k : Int) + (b : Int)).toNat = k + b := by omega
    have e2 : (2 * (n : Int) * (b : Int)) = ((2 * n * b : Nat) : Int) := by simp
    have e3 : (n : Int).toNat = n := by omega
    rw [e1, e2, e3]
    clear e1 e2 e3
    rw [bfl_get _ _ _ _ (by omega) n (Nat.le_refl _)]
    generalize hX : blk (n : Int) (k : Int) ns b = X at ih hlen ⊢
    have hd : ∀ q, 2 * n * b ≤ q → q < 2 * n * b + 2 * n → q / (2 * n) = b ∧ q % (2 * n) = q - 2 * n * b := by
      intro q h1 h2
      have h3 : q / (2 * n) = b := by
        rw [show q = 2 * n * b + (q - 2 * n * b) by omega, Nat.mul_add_div (by omega), Nat.div_eq_of_lt (by omega)]; rfl
      refine ⟨h3, ?_⟩
      have := Nat.div_add_mod q (2 * n)
      rw [h3] at this
      omega
    by_cases h1 : 2 * n * b ≤ p ∧ p < 2 * n * b + n
    · rw [if_pos h1, if_pos (by omega), ih, ih, if_neg (by omega), if_neg (by omega)]
      obtain ⟨hd1, hd2⟩ := hd p (by omega) (by omega)
      simp only [lay]
      rw [if_pos (by omega), hd1]
    · rw [if_neg h1]
      by_cases h2 : 2 * n * b + n ≤ p ∧ p < 2 * n * b + n + n
      · rw [if_pos h2, if_pos (by omega), ih, ih, if_neg (by omega), if_neg (by omega)]
        obtain ⟨hd1, hd2⟩ := hd p (by omega) (by omega)
        simp only [lay]
        rw [if_neg (by omega), hd1]
      · rw [if_neg h2, ih]
        by_cases h3 : p < 2 * n * b
        · rw [if_pos h3, if_pos (by omega)]
        · rw [if_neg h3, if_neg (by omega)]
theorem ibfly_get (z : Int) (n : Nat) (X : List Int) (j p : Nat) (hn : 0 < n) (h : j + n < X.length) : (ibfly z (n : Int) X (j : Int)).getD p 0 = if p = j then X.getD j 0 + X.getD (j + n) 0 else if p = j + n then z * (X.getD (j + n) 0 - X.getD j 0) else X.getD p 0 := by
  have e1 : ((j : Int)).toNat = j := by omega
  have e2 : ((j : Int) + (n : Int)).toNat = j + n := by omega
  unfold ibfly
  rw [e2, getD_set _ _ _ _ (by rw [len_ib2]; exact h)]
  unfold ib2
  rw [e1, e2, getD_set _ _ _ _ (by rw [len_ib1]; exact h), getD_set _ _ _ _ (by rw [len_ib1]; exact h), if_pos rfl]
  unfold ib1
  rw [e1, e2, getD_set _ _ _ _ (by omega), getD_set _ _ _ _ (by omega)]
  by_cases h1 : p = j
  · subst h1
    rw [if_neg (by omega), if_neg (by omega), if_pos rfl, if_pos rfl]
  · by_cases h2 : p = j + n
    · subst h2
      rw [if_pos rfl, if_neg (by omega), if_neg h1, if_pos rfl]
    · rw [if_neg h2, if_neg h2, if_neg h1, if_neg h1, if_neg h2]
theorem ibfl_get (z : Int) (n a : Nat) (ns : List Int) (hn : 0 < n) (hl : a + 2 * n ≤ ns.length) : ∀ i, i ≤ n → ∀ p, (ibfl z (n : Int) (a : Int) ns i).getD p 0 =
    if a ≤ p ∧ p < a + i then ns.getD p 0 + ns.getD (p + n) 0 else if a + n ≤ p ∧ p < a + n + i then z * (ns.getD p 0 - ns.getD (p - n) 0) else ns.getD p 0
  | 0, _, p => by
    have h1 : ¬ (a ≤ p ∧ p < a + 0) := by omega
    have h2 : ¬ (a + n ≤ p ∧ p < a + n + 0) := by omega
    simp only [h1, h2, if_false]; rfl
  | i + 1, hi, p => by
    have ih := ibfl_get z n a ns hn hl i (by omega)
    have hlen : (ibfl z (n : Int) (a : Int) ns i).length = ns.length := len_ibfl _ _ _ _ _
    show (ibfly z (n : Int) (ibfl z (n : Int) (a : Int) ns i) ((a : Int) + (i : Int))).getD p 0 = _
    rw [show (a : Int) + (i : Int) = ((a + i : Nat) : Int) by omega]
    generalize hX : ibfl z (n : Int) (a : Int) ns i = X at ih hlen ⊢
    rw [ibfly_get _ _ _ _ _ hn (by omega)]
    have hx1 : X.getD (a + i) 0 = ns.getD (a + i) 0 := by
      rw [ih, if_neg (by omega), if_neg (by omega)]
    have hx2 : X.getD (a + i + n) 0 = ns.getD (a + i + n) 0 := by
      rw [ih, if_neg (by omega), if_neg (by omega)]
    rw [hx1, hx2, ih]
    by_cases hp1 : p = a + i
    · subst hp1
      rw [if_pos rfl, if_pos (show a ≤ a + i ∧ a + i < a + (i + 1) by omega)]
    · rw [if_neg hp1]
      by_cases hp2 : p = a + i + n
      · subst hp2
        rw [if_pos rfl, if_neg (show ¬ (a ≤ a + i + n ∧ a + i + n < a + (i + 1)) by omega), if_pos (show a + n ≤ a + i + n ∧ a + i + n < a + n + (i + 1) by omega)]
        rw [show a + i + n - n = a + i by omega]
      · rw [if_neg hp2]
        have c1 : (a ≤ p ∧ p < a + i) ↔ (a ≤ p ∧ p < a + (i + 1)) := by omega
        have c2 : (a + n ≤ p ∧ p < a + n + i) ↔ (a + n ≤ p ∧ p < a + n + (i + 1)) := by omega
        simp only [c1, c2]
theorem iblk_get (n k : Nat) (ns : List Int) (hn : 0 < n) : ∀ b, 2 * n * b ≤ ns.length → b ≤ k + 1 → ∀ p, (iblk (n : Int) (k : Int) ns b).getD p 0 =
    if p < 2 * n * b then ilay (fun q => zs.getD (k - q) 0) n (fun p => ns.getD p 0) p else ns.getD p 0
  | 0, _, _, p => by
    rw [if_neg (by omega)]; rfl
  | b + 1, hb, hk, p => by
    have hm : 2 * n * (b + 1) = 2 * n * b + 2 * n := Nat.mul_succ _ _
    have ih := iblk_get n k ns hn b (by omega) (by omega)
    have hlen : (iblk (n : Int) (k : Int) ns b).length = ns.length := len_iblk _ _ _ _
    show (ibfl (zs.getD ((k : Int) - (b : Int)).toNat 0) (n : Int) (2 * (n : Int) * (b : Int)) (iblk (n : Int) (k : Int) ns b) (n : Int).toNat).getD p 0 = _
    have e1 : ((k : Int) - (b : Int)).toNat = k - b := by omega
    have e2 : (2 * (n : Int) * (b : Int)) = ((2 * n * b : Nat) : Int) := by simp
    have e3 : (n : Int).toNat = n := by omega
    rw [e1, e2, e3]
    clear e1 e2 e3
    rw [ibfl_get _ _ _ _ hn (by omega) n (Nat.le_refl _)]
    generalize hX : iblk (n : Int) (k : Int) ns b = X at ih hlen ⊢
    have hd : ∀ q, 2 * n * b ≤ q → q < 2 * n * b + 2 * n → q / (2 * n) = b ∧ q % (2 * n) = q - 2 * n * b := by
      intro q h1 h2
      have h3 : q / (2 * n) = b := by
        rw [show q = 2 * n * b + (q - 2 * n * b) by omega, Nat.mul_add_div (by omega), Nat.div_eq_of_lt (by omega)]; rfl
      refine ⟨h3, ?_⟩
      have := Nat.div_add_mod q (2 * n)
      rw [h3] at this
      omega
    by_cases h1 : 2 * n * b ≤ p ∧ p < 2 * n * b + n
    · rw [if_pos h1, if_pos (by omega), ih, ih, if_neg (by omega), if_neg (by omega)]
      obtain ⟨hd1, hd2⟩ := hd p (by omega) (by omega)
      simp only [ilay]
      rw [if_pos (by omega)]
    · rw [if_neg h1]
      by_cases h2 : 2 * n * b + n ≤ p ∧ p < 2 * n * b + n + n
      · rw [if_pos h2, if_pos (by omega), ih, ih, if_neg (by omega), if_neg (by omega)]
        obtain ⟨hd1, hd2⟩ := hd p (by omega) (by omega)
        simp only [ilay]
        rw [if_neg (by omega), hd1]
      · rw [if_neg h2, ih]
        by_cases h3 : p < 2 * n * b
        · rw [if_pos h3, if_pos (by omega)]
        · rw [if_neg h3, if_neg (by omega)]
/-- the step back over one layer: what is c times the layer of f plus d times e becomes 2c times f plus d times the inverse layer of e -/
theorem back_step (Z Z' : Nat → Int) (n : Nat) (hn : 0 < n) (h256 : ∀ p, p < 256 → p % (2 * n) < n → p + n < 256) (hz : ∀ p, p < 256 → (3329 : Int) ∣ Z' (p / (2 * n)) * Z (p / (2 * n)) + 1)
    (f g e : Nat → Int) (c d : Int) (h : ∀ p, p < 256 → (3329 : Int) ∣ g p - (c * lay Z n f p + d * e p)) : ∀ p, p < 256 → (3329 : Int) ∣ ilay Z' n g p - (2 * c * f p + d * ilay Z' n e p) := by
  intro p hp
  have hdm := Nat.div_add_mod p (2 * n)
  have hmlt := Nat.mod_lt p (show 2 * n > 0 by omega)
  by_cases hr : p % (2 * n) < n
  · have hp2 := h256 p hp hr
    have hq : (p + n) / (2 * n) = p / (2 * n) ∧ (p + n) % (2 * n) = p % (2 * n) + n := by
      have e1 : p + n = 2 * n * (p / (2 * n)) + (p % (2 * n) + n) := by omega
      constructor
      · rw [e1, Nat.mul_add_div (by omega), Nat.div_eq_of_lt (show p % (2 * n) + n < 2 * n by omega)]; rfl
      · rw [e1, Nat.mul_add_mod, Nat.mod_eq_of_lt (show p % (2 * n) + n < 2 * n by omega)]
    have a1 := h p hp
    have a2 := h (p + n) hp2
    simp only [lay] at a1 a2
    rw [if_pos hr] at a1
    rw [if_neg (by omega), hq.1, show p + n - n = p by omega] at a2
    simp only [ilay]
    rw [if_pos hr, if_pos hr]
    have a3 := Int.dvd_add a1 a2
    have e3 : g p - (c * (f p + Z (p / (2 * n)) * f (p + n)) + d * e p) + (g (p + n) - (c * (f p - Z (p / (2 * n)) * f (p + n)) + d * e (p + n))) = g p + g (p + n) - (2 * c * f p + d * (e p + e (p + n))) := by grind
    rw [e3] at a3
    exact a3
  · have hp2 : p - n < 256 := by omega
    have hnp : n ≤ p := by
      have := Nat.mod_le p (2 * n)
      omega
    have hq : (p - n) / (2 * n) = p / (2 * n) ∧ (p - n) % (2 * n) = p % (2 * n) - n := by
      have e1 : p - n = 2 * n * (p / (2 * n)) + (p % (2 * n) - n) := by omega
      constructor
      · rw [e1, Nat.mul_add_div (by omega), Nat.div_eq_of_lt (show p % (2 * n) - n < 2 * n by omega)]; rfl
      · rw [e1, Nat.mul_add_mod, Nat.mod_eq_of_lt (show p % (2 * n) - n < 2 * n by omega)]
    have a1 := h p hp
    have a2 := h (p - n) hp2
    have a4 := hz p hp
    simp only [lay] at a1 a2
    rw [if_neg hr] at a1
    rw [if_pos (by omega), hq.1, show p - n + n = p by omega] at a2
    simp only [ilay]
    rw [if_neg hr, if_neg hr]
    generalize hz1 : Z (p / (2 * n)) = z at a1 a2 a4 ⊢
    generalize hz2 : Z' (p / (2 * n)) = z' at a1 a2 a4 ⊢
    have a3 : (3329 : Int) ∣ z' * ((g p - (c * (f (p - n) - z * f p) + d * e p)) - (g (p - n) - (c * (f (p - n) + z * f p) + d * e (p - n)))) - 2 * c * f p * (z' * z + 1) :=
      Int.dvd_sub (Int.dvd_mul_of_dvd_right (Int.dvd_sub a1 a2)) (Int.dvd_mul_of_dvd_right a4)
    have e3 : z' * ((g p - (c * (f (p - n) - z * f p) + d * e p)) - (g (p - n) - (c * (f (p - n) + z * f p) + d * e (p - n)))) - 2 * c * f p * (z' * z + 1) = z' * (g p - g (p - n)) - (2 * c * f p + d * (z' * (e p - e (p - n)))) := by grind
    rw [e3] at a3
    exact a3
theorem h256_of {n : Nat} (h : n = 128 ∨ n = 64 ∨ n = 32 ∨ n = 16 ∨ n = 8 ∨ n = 4 ∨ n = 2) : ∀ p, p < 256 → p % (2 * n) < n → p + n < 256 := by
  intro p hp hr
  rcases h with rfl | rfl | rfl | rfl | rfl | rfl | rfl <;> omega
theorem lay_at (n k : Nat) (ns : List Int) (f : Nat → Int) (b : Nat) (hn : 0 < n) (hb : 2 * n * b = 256) (h256 : ∀ p, p < 256 → p % (2 * n) < n → p + n < 256) (hlen : ns.length = 256) (h : ∀ p, p < 256 → ns.getD p 0 = f p) : ∀ p, p < 256 → (blk (n : Int) (k : Int) ns b).getD p 0 = lay (fun q => zs.getD (k + q) 0) n f p := by
  intro p hp
  rw [blk_get n k ns hn b (by omega) p, if_pos (by omega)]
  simp only [lay]
  by_cases hr : p % (2 * n) < n
  · rw [if_pos hr, if_pos hr, h p hp, h (p + n) (h256 p hp hr)]
  · rw [if_neg hr, if_neg hr, h p hp, h (p - n) (by omega)]
theorem ilay_at (n k : Nat) (ns : List Int) (f : Nat → Int) (b : Nat) (hn : 0 < n) (hb : 2 * n * b = 256) (hk : b ≤ k + 1) (h256 : ∀ p, p < 256 → p % (2 * n) < n → p + n < 256) (hlen : ns.length = 256) (h : ∀ p, p < 256 → ns.getD p 0 = f p) : ∀ p, p < 256 → (iblk (n : Int) (k : Int) ns b).getD p 0 = ilay (fun q => zs.getD (k - q) 0) n f p := by
  intro p hp
  rw [iblk_get n k ns hn b (by omega) hk p, if_pos (by omega)]
  simp only [ilay]
  by_cases hr : p % (2 * n) < n
  · rw [if_pos hr, if_pos hr, h p hp, h (p + n) (h256 p hp hr)]
  · rw [if_neg hr, if_neg hr, h p hp, h (p - n) (by omega)]
theorem zprod (k n : Nat) (hz : ∀ b, b < k → (3329 : Int) ∣ zs.getD (2 * k - 1 - b) 0 * zs.getD (k + b) 0 + 1) (hk : 2 * n * k = 256) (hn : 0 < n) : ∀ p, p < 256 → (3329 : Int) ∣ (fun q => zs.getD (2 * k - 1 - q) 0) (p / (2 * n)) * (fun q => zs.getD (k + q) 0) (p / (2 * n)) + 1 :=
  fun p hp => hz _ (Nat.div_lt_of_lt_mul (by omega))
theorem zprod_all : ∀ i : Fin 7, ∀ b : Fin 64, b.val < 2 ^ i.val → (3329 : Int) ∣ zs.getD (2 * 2 ^ i.val - 1 - b.val) 0 * zs.getD (2 ^ i.val + b.val) 0 + 1 := by decide +kernel
theorem zprod_at (i : Nat) (hi : i < 7) : ∀ b, b < 2 ^ i → (3329 : Int) ∣ zs.getD (2 * 2 ^ i - 1 - b) 0 * zs.getD (2 ^ i + b) 0 + 1 := by
  intro b hb
  have : b < 64 := by
    have e : ∀ i : Fin 7, 2 ^ i.val ≤ 64 := by decide
    exact Nat.lt_of_lt_of_le hb (e ⟨i, hi⟩)
  exact zprod_all ⟨i, hi⟩ ⟨b, this⟩ hb
/-- one layer back, on lists -/
theorem list_step (i n : Nat) (hi : i < 7) (hn : n = 128 ∨ n = 64 ∨ n = 32 ∨ n = 16 ∨ n = 8 ∨ n = 4 ∨ n = 2) (hk : 2 * n * 2 ^ i = 256) (fs gs es : List Int) (hf : fs.length = 256) (hg : gs.length = 256) (he : es.length = 256) (c d : Int)
    (h : ∀ p, p < 256 → (3329 : Int) ∣ gs.getD p 0 - (c * (blk (n : Int) ((2 ^ i : Nat) : Int) fs (2 ^ i)).getD p 0 + d * es.getD p 0)) :
    ∀ p, p < 256 → (3329 : Int) ∣ (iblk (n : Int) ((2 * 2 ^ i - 1 : Nat) : Int) gs (2 ^ i)).getD p 0 - (2 * c * fs.getD p 0 + d * (iblk (n : Int) ((2 * 2 ^ i - 1 : Nat) : Int) es (2 ^ i)).getD p 0) := by
  have hn0 : 0 < n := by omega
  have hle : 2 ^ i ≤ 2 * 2 ^ i - 1 + 1 := by
    have : 0 < 2 ^ i := Nat.two_pow_pos i
    omega
  have h6 := h256_of hn
  intro p hp
  rw [ilay_at n _ gs _ _ hn0 hk hle h6 hg (fun _ _ => rfl) p hp, ilay_at n _ es _ _ hn0 hk hle h6 he (fun _ _ => rfl) p hp]
  refine back_step (fun q => zs.getD (2 ^ i + q) 0) (fun q => zs.getD (2 * 2 ^ i - 1 - q) 0) n hn0 h6 (zprod (2 ^ i) n (zprod_at i hi) hk hn0) (fun p => fs.getD p 0) _ _ c d ?_ p hp
  intro p hp
  have := h p hp
  rw [lay_at n (2 ^ i) fs _ (2 ^ i) hn0 hk h6 hf (fun _ _ => rfl) p hp] at this
  exact this
def e0 : List Int := 1 :: List.replicate 255 0
theorem back_all (as gs es : List Int) (ha : as.length = 256) (hg : gs.length = 256) (he : es.length = 256) (c d : Int) (h : ∀ p, p < 256 → (3329 : Int) ∣ gs.getD p 0 - (c * (layr as 7).getD p 0 + d * es.getD p 0)) :
    ∀ p, p < 256 → (3329 : Int) ∣ (ilayr gs 7).getD p 0 - (128 * c * as.getD p 0 + d * (ilayr es 7).getD p 0) := by
  have t6 := list_step 6 2 (by decide) (by decide) (by decide) (layr as 6) gs es (by rw [len_layr]; exact ha) hg he c d h
  have t5 := list_step 5 4 (by decide) (by decide) (by decide) (layr as 5) (ilayr gs 1) (ilayr es 1) (by rw [len_layr]; exact ha) (by rw [len_ilayr]; exact hg) (by rw [len_ilayr]; exact he) (2 * c) d t6
  have t4 := list_step 4 8 (by decide) (by decide) (by decide) (layr as 4) (ilayr gs 2) (ilayr es 2) (by rw [len_layr]; exact ha) (by rw [len_ilayr]; exact hg) (by rw [len_ilayr]; exact he) (2 * (2 * c)) d t5
  have t3 := list_step 3 16 (by decide) (by decide) (by decide) (layr as 3) (ilayr gs 3) (ilayr es 3) (by rw [len_layr]; exact ha) (by rw [len_ilayr]; exact hg) (by rw [len_ilayr]; exact he) (2 * (2 * (2 * c))) d t4
  have t2 := list_step 2 32 (by decide) (by decide) (by decide) (layr as 2) (ilayr gs 4) (ilayr es 4) (by rw [len_layr]; exact ha) (by rw [len_ilayr]; exact hg) (by rw [len_ilayr]; exact he) (2 * (2 * (2 * (2 * c)))) d t3
  have t1 := list_step 1 64 (by decide) (by decide) (by decide) (layr as 1) (ilayr gs 5) (ilayr es 5) (by rw [len_layr]; exact ha) (by rw [len_ilayr]; exact hg) (by rw [len_ilayr]; exact he) (2 * (2 * (2 * (2 * (2 * c))))) d t2
  have t0 := list_step 0 128 (by decide) (by decide) (by decide) (layr as 0) (ilayr gs 6) (ilayr es 6) (by rw [len_layr]; exact ha) (by rw [len_ilayr]; exact hg) (by rw [len_ilayr]; exact he) (2 * (2 * (2 * (2 * (2 * (2 * c)))))) d t1
  intro p hp
  have t := t0 p hp
  have e : (2 * (2 * (2 * (2 * (2 * (2 * (2 * c))))))) * as.getD p 0 = 128 * c * as.getD p 0 := by
    congr 1
    omega
  have e2 : (2 * (2 * (2 * (2 * (2 * (2 * (2 * c))))))) * (layr as 0).getD p 0 = 128 * c * as.getD p 0 := e
  rw [e2] at t
  exact t
theorem scal_get (ns : List Int) : ∀ n, n ≤ ns.length → ∀ p, (scal ns n).getD p 0 = if p < n then (ns.getD p 0 * 3303).fmod 3329 else ns.getD p 0
  | 0, _, p => by rw [if_neg (by omega)]; rfl
  | n + 1, h, p => by
    have ih := scal_get ns n (by omega)
    show ((scal ns n).set n (((scal ns n).getD n 0 * 3303).fmod 3329)).getD p 0 = _
    rw [getD_set _ _ _ _ (by rw [len_scal]; omega), ih, ih]
    by_cases e : p = n
    · subst e
      rw [if_pos rfl, if_neg (by omega), if_pos (by omega)]
    · rw [if_neg e]
      by_cases e2 : p < n
      · rw [if_pos e2, if_pos (by omega)]
      · rw [if_neg e2, if_neg (by omega)]
theorem redl_get (ns : List Int) : ∀ n, n ≤ ns.length → ∀ p, (redl ns n).getD p 0 = if p < n then (ns.getD p 0).fmod 3329 else ns.getD p 0
  | 0, _, p => by rw [if_neg (by omega)]; rfl
  | n + 1, h, p => by
    have ih := redl_get ns n (by omega)
    show ((redl ns n).set n (((redl ns n).getD n 0).fmod 3329)).getD p 0 = _
    rw [getD_set _ _ _ _ (by rw [len_redl]; omega), ih, ih]
    by_cases e : p = n
    · subst e
      rw [if_pos rfl, if_neg (by omega), if_pos (by omega)]
    · rw [if_neg e]
      by_cases e2 : p < n
      · rw [if_pos e2, if_pos (by omega)]
      · rw [if_neg e2, if_neg (by omega)]
theorem getD_from (ns : List Int) (hl : ns.length = 256) (p : Nat) (hp : p < 256) : (fromNtt ns).getD p 0 = ((ilayr ns 7).getD p 0 * 3303).fmod 3329 := by
  rw [fromNtt_eq]
  rw [scal_get _ 256 (by rw [len_ilayr]; omega), if_pos hp]
theorem getD_to (ns : List Int) (hl : ns.length = 256) (p : Nat) (hp : p < 256) : (toNtt ns).getD p 0 = ((layr ns 7).getD p 0).fmod 3329 := by
  rw [toNtt_eq]
  rw [redl_get _ 256 (by rw [len_layr]; omega), if_pos hp]
theorem list_eq {xs ys : List Int} (hx : xs.length = 256) (hy : ys.length = 256) (h : ∀ p, p < 256 → xs.getD p 0 = ys.getD p 0) : xs = ys := by
  apply List.ext_getElem (by omega)
  intro i h1 h2
  have := h i (by omega)
  simpa [List.getD_eq_getElem?_getD, h1, h2] using this
theorem getD_map (f : Int → Int) (xs : List Int) (p : Nat) (h : p < xs.length) : (xs.map f).getD p 0 = f (xs.getD p 0) := by
  simp [List.getD_eq_getElem?_getD, h]
/-- what comes back from c times the forward transform plus d times the unit -/
theorem pl_core (as gs : List Int) (ha : as.length = 256) (hg : gs.length = 256) (c d : Int) (h : ∀ p, p < 256 → (3329 : Int) ∣ gs.getD p 0 - (c * (toNtt as).getD p 0 + d * e0.getD p 0)) :
    ∀ p, p < 256 → (3329 : Int) ∣ (ilayr gs 7).getD p 0 - (128 * c * as.getD p 0 + d * (ilayr e0 7).getD p 0) := by
  refine back_all as gs e0 ha hg (by decide) c d fun p hp => ?_
  have t := h p hp
  rw [getD_to as ha p hp, Int.fmod_eq_emod_of_nonneg _ (by decide)] at t
  have e := Int.emod_add_mul_ediv ((layr as 7).getD p 0) 3329
  generalize (layr as 7).getD p 0 = y at t e ⊢
  have e2 : gs.getD p 0 - (c * y + d * e0.getD p 0) = (gs.getD p 0 - (c * (y % 3329) + d * e0.getD p 0)) - 3329 * (c * (y / 3329)) := by grind
  rw [e2]
  exact Int.dvd_sub t (Int.dvd_mul_right _ _)
theorem from_bd (ns : List Int) (hl : ns.length = 256) : ∀ x ∈ fromNtt ns, 0 ≤ x ∧ x < 3329 := by
  intro x hx
  obtain ⟨i, hi, rfl⟩ := List.mem_iff_getElem.mp hx
  have hi' : i < 256 := by rw [len_fromNtt] at hi; omega
  have := getD_from ns hl i hi'
  rw [List.getD_eq_getElem?_getD, List.getElem?_eq_getElem hi, Option.getD_some, Int.fmod_eq_emod_of_nonneg _ (by decide)] at this
  omega
/-- one entry, not thickened -/
theorem thin (y a : Int) (c : Int) (h : (3329 : Int) ∣ y - 128 * c * a) : (y * 3303).fmod 3329 = (c * a).fmod 3329 := by
  rw [Int.fmod_eq_emod_of_nonneg _ (by decide), Int.fmod_eq_emod_of_nonneg _ (by decide)]
  obtain ⟨t, ht⟩ := h
  have e : y * 3303 = c * a + 3329 * (3303 * t + 127 * (c * a)) := by grind
  rw [e, Int.add_mul_emod_self_left]
/-- one entry, thickened -/
theorem thick1 (y a b : Int) (c d : Int) (h : (3329 : Int) ∣ y - (128 * c * a + d * b)) : (128 * (y * 3303).fmod 3329).fmod 3329 = (128 * c * a + d * b).fmod 3329 := by
  rw [Int.fmod_eq_emod_of_nonneg _ (by decide), Int.fmod_eq_emod_of_nonneg _ (by decide), Int.fmod_eq_emod_of_nonneg _ (by decide)]
  obtain ⟨t, ht⟩ := h
  have e3 := Int.emod_add_mul_ediv (y * 3303) 3329
  generalize (y * 3303) % 3329 = r at e3 ⊢
  have e : 128 * r = (128 * c * a + d * b) + 3329 * (t + 127 * y - 128 * (y * 3303 / 3329)) := by grind
  rw [e, Int.add_mul_emod_self_left]
end Mine
end
section -- PM
open PySem PySem.W PyProof.Rows PySem.Calls
namespace Mine
def pz (m : Nat) : Int := ((Builtin.powMod ((17 : Int) % (((3329 : Int).natAbs : Nat) : Int)).toNat (256 - m) (3329 : Int).natAbs : Nat) : Int)
def fsL (c : Int) : Nat → List Int
  | 0 => []
  | m + 1 => fsL c m ++ [c * pz m] ++ [0]
theorem len_fsL (c : Int) : ∀ m, (fsL c m).length = 2 * m
  | 0 => rfl
  | m + 1 => by
    rw [fsL, List.length_append, List.length_append, len_fsL c m]
    simp only [List.length_cons, List.length_nil]
    omega
def f1 (p : Nat) : Int := if p % 2 = 0 then pz (p / 2) else 0
theorem fsL_get (c : Int) : ∀ m p, p < 2 * m → (fsL c m).getD p 0 = c * f1 p
  | 0, p, h => by omega
  | m + 1, p, h => by
    have ih := fsL_get c m
    have hl := len_fsL c m
    rw [fsL, List.append_assoc]
    by_cases h1 : p < 2 * m
    · rw [← ih p h1]
      simp [List.getD_eq_getElem?_getD, List.getElem?_append, hl, h1]
    · have h2 : p = 2 * m ∨ p = 2 * m + 1 := by omega
      rcases h2 with rfl | rfl
      · have e1 : 2 * m % 2 = 0 := by omega
        have e2 : 2 * m / 2 = m := by omega
        simp [List.getD_eq_getElem?_getD, List.getElem?_append, hl, f1]
      · have e1 : ¬ (2 * m + 1) % 2 = 0 := by omega
        simp [List.getD_eq_getElem?_getD, List.getElem?_append, hl, f1, e1]
theorem len_e0 : e0.length = 256 := by decide
theorem rep0 : ∀ n p, (List.replicate n (0:Int)).getD p 0 = 0
  | 0, p => by simp
  | n + 1, 0 => rfl
  | n + 1, p + 1 => rep0 n p
theorem e0_get (p : Nat) : e0.getD p 0 = if p = 0 then 1 else 0 := by
  cases p with
  | zero => rfl
  | succ p => rw [if_neg (by omega)]; exact rep0 255 p
/-- the unit after i layers back -/
def hp : Nat → Nat → Int
  | 0, _ => 1
  | i + 1, p => (if p.testBit (i + 1) then -zs.getD (2 ^ (7 - i) - 1) 0 else 1) * hp i p
def hh (i p : Nat) : Int := if p % 2 = 0 ∧ p < 2 ^ (i + 1) then hp i p else 0
theorem hh_step : ∀ i : Fin 7, ∀ p : Fin 256, ilay (fun q => zs.getD (2 ^ (7 - i.val) - 1 - q) 0) (2 ^ (i.val + 1)) (hh i.val) p.val = hh (i.val + 1) p.val := by decide +kernel
theorem hh_last : ∀ p : Fin 256, (3329 : Int) ∣ f1 p.val - hh 7 p.val := by decide +kernel
theorem e0_ilayr (p : Nat) (h : p < 256) : (ilayr e0 7).getD p 0 = hh 7 p := by
  have t0 : ∀ p, p < 256 → (ilayr e0 0).getD p 0 = hh 0 p := by
    intro p _
    show e0.getD p 0 = _
    rw [e0_get]
    unfold hh hp
    by_cases h0 : p = 0
    · subst h0; rfl
    · rw [if_neg h0, if_neg (by omega)]
  have t1 : ∀ p, p < 256 → (ilayr e0 1).getD p 0 = hh 1 p := fun p h => (ilay_at 2 127 (ilayr e0 0) (hh 0) 64 (by decide) (by decide) (by decide) (h256_of (by decide)) len_e0 t0 p h).trans (hh_step 0 ⟨p, h⟩)
  have t2 : ∀ p, p < 256 → (ilayr e0 2).getD p 0 = hh 2 p := fun p h => (ilay_at 4 63 (ilayr e0 1) (hh 1) 32 (by decide) (by decide) (by decide) (h256_of (by decide)) (by rw [len_ilayr]; exact len_e0) t1 p h).trans (hh_step 1 ⟨p, h⟩)
  have t3 : ∀ p, p < 256 → (ilayr e0 3).getD p 0 = hh 3 p := fun p h => (ilay_at 8 31 (ilayr e0 2) (hh 2) 16 (by decide) (by decide) (by decide) (h256_of (by decide)) (by rw [len_ilayr]; exact len_e0) t2 p h).trans (hh_step 2 ⟨p, h⟩)
  have t4 : ∀ p, p < 256 → (ilayr e0 4).getD p 0 = hh 4 p := fun p h => (ilay_at 16 15 (ilayr e0 3) (hh 3) 8 (by decide) (by decide) (by decide) (h256_of (by decide)) (by rw [len_ilayr]; exact len_e0) t3 p h).trans (hh_step 3 ⟨p, h⟩)
  have t5 : ∀ p, p < 256 → (ilayr e0 5).getD p 0 = hh 5 p := fun p h => (ilay_at 32 7 (ilayr e0 4) (hh 4) 4 (by decide) (by decide) (by decide) (h256_of (by decide)) (by rw [len_ilayr]; exact len_e0) t4 p h).trans (hh_step 4 ⟨p, h⟩)
  have t6 : ∀ p, p < 256 → (ilayr e0 6).getD p 0 = hh 6 p := fun p h => (ilay_at 64 3 (ilayr e0 5) (hh 5) 2 (by decide) (by decide) (by decide) (h256_of (by decide)) (by rw [len_ilayr]; exact len_e0) t5 p h).trans (hh_step 5 ⟨p, h⟩)
  exact (ilay_at 128 1 (ilayr e0 6) (hh 6) 1 (by decide) (by decide) (by decide) (h256_of (by decide)) (by rw [len_ilayr]; exact len_e0) t6 p h).trans (hh_step 6 ⟨p, h⟩)
theorem e0_at (p : Nat) (hp : p < 256) : (3329 : Int) ∣ f1 p - (ilayr e0 7).getD p 0 := by
  rw [e0_ilayr p hp]
  exact hh_last ⟨p, hp⟩
theorem fm (x : Int) : x.fmod 3329 = x % 3329 := Int.fmod_eq_emod_of_nonneg _ (by decide)
/-- T1 -/
theorem pl_back (as : List Int) (ha : as.length = 256) : fromNtt (toNtt as) = as.map (fun x => x.fmod 3329) := by
  have hl : (toNtt as).length = 256 := by rw [len_toNtt]; exact ha
  refine list_eq (by rw [len_fromNtt]; exact hl) (by rw [List.length_map]; exact ha) fun p hp => ?_
  rw [getD_from _ hl p hp, getD_map _ _ _ (by omega)]
  have t := pl_core as (toNtt as) ha hl 1 0 (fun p _ => by rw [show (toNtt as).getD p 0 - (1 * (toNtt as).getD p 0 + 0 * e0.getD p 0) = 0 by grind]; exact Int.dvd_zero _) p hp
  have t2 := thin ((ilayr (toNtt as) 7).getD p 0) (as.getD p 0) 1 (by rw [show (ilayr (toNtt as) 7).getD p 0 - 128 * 1 * as.getD p 0 = (ilayr (toNtt as) 7).getD p 0 - (128 * 1 * as.getD p 0 + 0 * (ilayr e0 7).getD p 0) by grind]; exact t)
  rw [t2, Int.one_mul]
/-- T3 -/
theorem pl_neg (f : Int → Int) (hf : ∀ x, (3329 : Int) ∣ f x + x) (as : List Int) (ha : as.length = 256) : fromNtt ((toNtt as).map f) = as.map (fun x => (-x).fmod 3329) := by
  have hl0 : (toNtt as).length = 256 := by rw [len_toNtt]; exact ha
  have hl : ((toNtt as).map f).length = 256 := by rw [List.length_map]; exact hl0
  refine list_eq (by rw [len_fromNtt]; exact hl) (by rw [List.length_map]; exact ha) fun p hp => ?_
  rw [getD_from _ hl p hp, getD_map _ as _ (by omega)]
  have t := pl_core as _ ha hl (-1) 0 (fun p hp => by
    rw [getD_map _ _ _ (by omega), show f ((toNtt as).getD p 0) - (-1 * (toNtt as).getD p 0 + 0 * e0.getD p 0) = f ((toNtt as).getD p 0) + (toNtt as).getD p 0 by grind]
    exact hf _) p hp
  have t2 := thin _ (as.getD p 0) (-1) (by rw [show (ilayr ((toNtt as).map f) 7).getD p 0 - 128 * -1 * as.getD p 0 = (ilayr ((toNtt as).map f) 7).getD p 0 - (128 * -1 * as.getD p 0 + 0 * (ilayr e0 7).getD p 0) by grind]; exact t)
  rw [t2, show -1 * as.getD p 0 = -as.getD p 0 by omega]
theorem fmd (x : Int) : (3329 : Int) ∣ x.fmod 3329 - x := by rw [fm]; omega
theorem fmd2 (a c : Int) : (3329 : Int) ∣ (a - c).fmod 3329 - (a + -c) := by rw [fm]; omega
theorem neg_dvd (x : Int) : (3329 : Int) ∣ (-x).fmod 3329 + x := by rw [fm]; omega
theorem neg1_dvd (x : Int) : (3329 : Int) ∣ (x * -1).fmod 3329 + x := by rw [fm]; omega
/-- T2, T4: what is thickened -/
theorem pl_thick (as gs : List Int) (ha : as.length = 256) (hg : gs.length = 256) (k d : Int) (h : ∀ p, p < 256 → (3329 : Int) ∣ gs.getD p 0 - (k * (toNtt as).getD p 0 + d * e0.getD p 0)) (p : Nat) (hp : p < 256) :
    ((fromNtt gs).map fun x => (128 * x).fmod 3329).getD p 0 = (128 * k * as.getD p 0 + d * f1 p).fmod 3329 := by
  rw [getD_map _ _ _ (by rw [len_fromNtt]; omega), getD_from _ hg p hp]
  have t := pl_core as gs ha hg k d h p hp
  have te := e0_at p hp
  exact thick1 _ (as.getD p 0) (f1 p) k d (by
    rw [show (ilayr gs 7).getD p 0 - (128 * k * as.getD p 0 + d * f1 p) = ((ilayr gs 7).getD p 0 - (128 * k * as.getD p 0 + d * (ilayr e0 7).getD p 0)) - d * (f1 p - (ilayr e0 7).getD p 0) by grind]
    exact Int.dvd_sub t (Int.dvd_mul_of_dvd_right te))
theorem set0_dvd (as : List Int) (ha : as.length = 256) (v d : Int) (hv : (3329 : Int) ∣ v - (as.getD 0 0 + d)) (p : Nat) (_hp : p < 256) : (3329 : Int) ∣ (as.set 0 v).getD p 0 - (1 * as.getD p 0 + d * e0.getD p 0) := by
  rw [getD_set _ _ _ _ (by omega), e0_get]
  by_cases h0 : p = 0
  · subst h0
    rw [if_pos rfl, if_pos rfl, show v - (1 * as.getD 0 0 + d * 1) = v - (as.getD 0 0 + d) by grind]
    exact hv
  · rw [if_neg h0, if_neg h0, show as.getD p 0 - (1 * as.getD p 0 + d * 0) = 0 by grind]
    exact Int.dvd_zero _
theorem pl_up (as ups : List Int) (c : Int) (ha : as.length = 256) (hu : ups.length = 256) (h : ∀ p, p < 256 → ups.getD p 0 = (128 * as.getD p 0 + (fsL c 128).getD p 0).fmod 3329) :
    (fromNtt ((toNtt as).set 0 (((toNtt as).getD 0 0 + c).fmod 3329))).map (fun x => (128 * x).fmod 3329) = ups := by
  have hl0 : (toNtt as).length = 256 := by rw [len_toNtt]; exact ha
  refine list_eq (by rw [List.length_map, len_fromNtt, List.length_set]; exact hl0) hu fun p hp => ?_
  rw [pl_thick as _ ha (by rw [List.length_set]; exact hl0) 1 c (set0_dvd _ hl0 _ c (fmd _)) p hp, h p hp, fsL_get c 128 p (by omega), Int.mul_one]
theorem pl_down (as downs : List Int) (c : Int) (ha : as.length = 256) (hu : downs.length = 256) (h : ∀ p, p < 256 → downs.getD p 0 = (128 * as.getD p 0 - (fsL c 128).getD p 0).fmod 3329) :
    (fromNtt ((toNtt as).set 0 (((toNtt as).getD 0 0 - c).fmod 3329))).map (fun x => (128 * x).fmod 3329) = downs := by
  have hl0 : (toNtt as).length = 256 := by rw [len_toNtt]; exact ha
  refine list_eq (by rw [List.length_map, len_fromNtt, List.length_set]; exact hl0) hu fun p hp => ?_
  rw [pl_thick as _ ha (by rw [List.length_set]; exact hl0) 1 (-c) (set0_dvd _ hl0 _ (-c) (fmd2 _ _)) p hp, h p hp, fsL_get c 128 p (by omega), Int.mul_one]
  congr 1
  grind
theorem pl_under (as unders : List Int) (c : Int) (ha : as.length = 256) (hu : unders.length = 256) (h : ∀ p, p < 256 → unders.getD p 0 = ((fsL c 128).getD p 0 - 128 * as.getD p 0).fmod 3329) :
    (fromNtt (((toNtt as).set 0 (((toNtt as).getD 0 0 - c).fmod 3329)).map fun x => (-x).fmod 3329)).map (fun x => (128 * x).fmod 3329) = unders := by
  have hl0 : (toNtt as).length = 256 := by rw [len_toNtt]; exact ha
  have hls : ((toNtt as).set 0 (((toNtt as).getD 0 0 - c).fmod 3329)).length = 256 := by rw [List.length_set]; exact hl0
  refine list_eq (by rw [List.length_map, len_fromNtt, List.length_map]; exact hls) hu fun p hp => ?_
  rw [pl_thick as _ ha (by rw [List.length_map]; exact hls) (-1) c (fun p hp => by
    rw [getD_map _ _ _ (by omega)]
    have t1 := set0_dvd _ hl0 _ (-c) (fmd2 _ _) p hp
    have t2 := neg_dvd (((toNtt as).set 0 (((toNtt as).getD 0 0 - c).fmod 3329)).getD p 0)
    generalize ((toNtt as).set 0 (((toNtt as).getD 0 0 - c).fmod 3329)).getD p 0 = y at t1 t2 ⊢
    rw [show (-y).fmod 3329 - (-1 * (toNtt as).getD p 0 + c * e0.getD p 0) = ((-y).fmod 3329 + y) - (y - (1 * (toNtt as).getD p 0 + -c * e0.getD p 0)) by grind]
    exact Int.dvd_sub t2 t1) p hp, h p hp, fsL_get c 128 p (by omega)]
  congr 1
  grind
end Mine
end
section
open PySem PySem.W PyProof.Rows
namespace Mine
local macro_rules | `(tactic| k_room) => `(tactic| ((try simp only [depth_mark, depth_under_make, depth_under_kw, depth_in1, depth_deeper, depth_caller]); (try dsimp only [ktrTop]); (simp only [recursionLimit] at *); omega))
local macro_rules | `(tactic| k_units) => `(tactic| ktr_units)
-- enter a def whose caller's scope is a variable
local macro_rules | `(tactic| walk_at "ENTER") => `(tactic| k_dflt (first
  | (refine' code_def ?k1 ?k2 ?k3 ?k4 ?k5 ?kA ?kF ?kK ?k6 ?k7 ?k8 ?k9 ?kB ?_ ?c2 ?c3 ?c4 ?c5; (case kA => first | exact rfl | assumption); (case kF => first | exact rfl | assumption); (case kK => first | assumption | exact rfl); (case k1 => k_asm); (case k2 => k_asm); (case k3 => k_asm); (case k4 => k_asm); (case k5 => k_asm); (case k6 => k_is); (case k7 => k_is); (case k8 => k_room); (case k9 => first | exact BindsTo.of_eq rfl | exact binds_K (by k_in) rfl (by k_is) rfl rfl rfl); (case c5 => decide); (case kB => exact locs rfl); (case c2 => exact rfl); (case c3 => exact rfl); (case c4 => exact rfl); k_whole; intro g' L' h' FG' F' N' B' X' T'; (refine tk_any ?_; intro tk'); (try dsimp only); (try k_lift B'); (try k_fold))
  | (refine' code_defC ?k1 ?k2 ?k3 ?k4 ?k5 ?kA ?kF ?kK ?k6 ?k7 ?k8 ?k9 ?kB ?kD ?_ ?c2 ?c3 ?c4; (case kA => first | exact rfl | assumption); (case kF => first | exact rfl | assumption); (case kK => first | assumption | exact rfl); (case k1 => k_asm); (case k2 => k_asm); (case k3 => k_asm); (case k4 => k_asm); (case k5 => k_asm); (case k6 => k_is); (case k7 => k_is); (case k8 => k_room); (case k9 => first | exact BindsTo.of_eq rfl | exact binds_K (by k_in) rfl (by k_is) rfl rfl rfl); (case kB => exact rfl); (case kD => decide +kernel); (case c2 => exact rfl); (case c3 => exact rfl); (case c4 => exact rfl); k_whole; intro g' L' h' tk' cells' FG' F' N' Y' B' X' T' l1; (try k_lt l1); k_cells Y'; (try simp only [List.cons_append, List.nil_append] at N'); (try dsimp only); (try k_lift B'); (try k_fold))))
local macro_rules | `(tactic| k_enter) => `(tactic| walk_at "ENTER")
local macro_rules | `(tactic| k_mem) => `(tactic| assumption)
local macro_rules | `(tactic| k_all) => `(tactic| assumption)
local macro_rules | `(tactic| walk_at "getMethod ref") => `(tactic| (k_here; (with_reducible show wpAny _ _ (getMethod (Value.ref _) (PySem.Str.ofString "parent") _) _ _ _); k_dflt (refine' kmu_own ?k1 ?k2 ?k3 ?k4 ?k5 ?_; (case k1 => k_asm); (case k2 => k_asm); (case k3 => k_inst); (case k4 => k_is); (case k5 => k_is); k_whole)))
local macro_rules | `(tactic| walk_at "getMethod ref") => `(tactic| (k_here; (with_reducible show wpAny _ _ (getMethod (Value.ref _) (PySem.Str.ofString "_br") _) _ _ _); k_dflt (refine' kmu_sm ?k1 ?k2 ?k4 ?k5 ?k6 ?k7 ?k8 ?k9 ?k10 ?k11 ?k12 ?k13 ?k14 ?_; (case k1 => k_asm); (case k2 => k_asm); (case k4 => k_inst); (case k5 => k_is); (case k6 => k_is); (case k7 => k_is); (case k8 => k_is); (case k9 => k_is); (case k10 => k_is); (case k11 => decide +kernel); (case k12 => k_get); (case k13 => k_is); (case k14 => k_handed); k_whole)))
local macro_rules | `(tactic| k_in) => `(tactic| first | k_in_fast | with_reducible assumption | exact Frag.In.keeps (by k_asm) (Fr.keep (by k_asm)))
local macro_rules | `(tactic| walk_at "getMethod ref") => `(tactic| (k_here; k_dflt (refine' method_inst ?k1 ?k2 ?k3 ?k4 ?k5 ?k6 ?k7 ?_; (case k1 => k_asm); (case k2 => k_asm); (case k3 => k_inst); (case k4 => k_is); (case k5 => k_is); (case k6 => k_is); (case k7 => k_get); k_whole)))
local macro_rules | `(tactic| walk_at "callWith ref") => `(tactic| (k_here; kco_any "__call__"; kco_here; k_dflt (refine' my_callWithKW ?k1 ?k2 ?k3 ?k4 ?k5 ?_; (case k1 => k_in); (case k2 => k_inst); (case k3 => rfl); (case k4 => k_is); (case k5 => exact rfl); k_whole)))
local macro_rules | `(tactic| mul_fits) => `(tactic| exact PySem.IntMulOk.of_left (zs_bits _))
local macro_rules | `(tactic| walk_at "TO LOOP") => `(tactic| repeat' (first | ((fail_if_success (with_reducible show wpAny _ _ (exec (Stmt.While _ _ _ _) _) _ _ _)); (fail_if_success (with_reducible show wpAny _ _ (pyIter _) _ _ _)); (fail_if_success (with_reducible show TurnEnd _ _ _ _ _ _ _)); first | (k_unfold; (try dsimp only)) | (k_end; wrow_close) | walk1 | (dsimp only; walk1) | (leave1; walk_say "STEP leave1"; try dsimp only))))
local macro_rules | `(tactic| walk_at "NAMES") => `(tactic| with_unfolding_all (repeat (first | exact List.forall_mem_nil _ | refine List.forall_mem_cons.mpr ⟨rfl, ?_⟩)))
local macro_rules | `(tactic| walk_at "LEN") => `(tactic| first | assumption | omega)
theorem reset_K1 {prog : PySem.Program} {w : PySem.World} {A : PySem.Around} {E : PySem.Value → PySem.Shared → Prop} {Q : PySem.Value → PySem.Shared → Prop} {s : PySem.Shared} (h : Q .none s) : PySem.wpAny (PySem.model prog w) A (pure .none) Q E s := by
  w_top off
  first
  | (walk1; fail "reset")
  | exact PySem.wpAny_pure h
section -- K1
local macro_rules | `(tactic| is_list) => `(tactic| exact News.isList (by k_asm) (by k_mem))
local macro_rules | `(tactic| walk_at "call builtin:len") => `(tactic| (k_here; (with_reducible show wpAny _ _ (call (Value.builtin "len") [Value.ref _]) _ _ _); k_dflt (refine' len256 ?k1 ?k2 ?k3 ?k4 ?_; (case k1 => k_asm); (case k2 => k_mem); (case k3 => l_ints); (case k4 => walk_at "LEN"); k_whole)))
section
variable {w : World} {p : Program} {loose : List Str} {mean : ExcName → Option Value} {mg mb : Str → Option Value} {outer : List Env} {A A₀ : Around} {env : Env} {base h₀ : Heap} {L : Addr} {s : Shared} {Q E : Value → Shared → Prop}
  {R : List (Addr × Obj)} {m : Str → Option Value} {r dr zl c1 : Addr} {u1 u2 u3 u4 u5 u6 u7 : Tok} {vs : List Value} {n : Nat} {ns : List Int}
theorem rc_P (B : Below A₀ base outer h₀) (F : Fr h₀ L s.heap m) (X : (hd.heap_1 w.params).In h₀) (N : News h₀ L s.heap R) (T : Top p loose mean mg mb h₀) (hA : A.frames = some (env :: outer)) (hF : env.frame = some L) (hK : env.scope.kind = .function) (hdp : A.depth + 8 < recursionLimit)
    (hr : (r, instObj 282 dr) ∈ R) (hdr : (dr, dictOf (ringD w zl u1 u2 u3 u4 u5 u6 u7) 4) ∈ R) (hc1 : (c1, W.listOf vs.toArray n) ∈ R) (hi : IntsAre vs ns) (hlen : ns.length = 256)
    (hret : ∀ x1 dx1 q1 q2 h tk, Fr h₀ L h m → News h₀ L h ((x1, instObj 350 dx1) :: (dx1, dictOf (polyD w r c1 q1 q2) 2) :: R) → (∀ p ∈ R, p.1 < dx1) → dx1 < x1 → Q (.ref x1) { s with heap := h, toks := tk }) :
    wpAny (model PySem.Challenge.rw_yi0009_01.row.prog w) A (call (.ref r) [.ref c1]) Q E s := by
  have kMark : KstMark := kstMark
  obtain ⟨A1, A2, A3, A4, A5⟩ := A
  (have hA' : A3 = some (env :: outer) := hA)
  subst hA'
  clear hA
  refine wpAny_call ?_
  refine' kco_code ?k1 ?k2 ?k3 ?k4 ?k5 ?k6 ?_
  case k1 => k_in
  case k2 => k_inst
  case k3 => rfl
  case k4 => k_is
  case k5 => k_is
  case k6 => k_is
  (try dsimp only)
  walk_at "ENTER"
  k_steps
  all_goals (try k_data)
  with_reducible rename Fr _ _ _ _ => lF
  with_reducible rename News _ _ _ _ => lN
  exact hret _ _ _ _ _ _ lF lN (by assumption) (by assumption)
theorem rc_N (B : Below A₀ base outer h₀) (F : Fr h₀ L s.heap m) (X : (hd.heap_1 w.params).In h₀) (N : News h₀ L s.heap R) (T : Top p loose mean mg mb h₀) (hA : A.frames = some (env :: outer)) (hF : env.frame = some L) (hK : env.scope.kind = .function) (hdp : A.depth + 8 < recursionLimit)
    (hr : (r, instObj 282 dr) ∈ R) (hdr : (dr, dictOf (ringD w zl u1 u2 u3 u4 u5 u6 u7) 4) ∈ R) (hc1 : (c1, W.listOf vs.toArray n) ∈ R) (hi : IntsAre vs ns) (hlen : ns.length = 256)
    (hret : ∀ x1 dx1 q1 q2 h tk, Fr h₀ L h m → News h₀ L h ((x1, instObj 426 dx1) :: (dx1, dictOf (polyD w r c1 q1 q2) 2) :: R) → (∀ p ∈ R, p.1 < dx1) → dx1 < x1 → Q (.ref x1) { s with heap := h, toks := tk }) :
    wpAny (model PySem.Challenge.rw_yi0009_01.row.prog w) A (call (.ref r) [.ref c1] [(nm "is_ntt", .bool true)]) Q E s := by
  have kMark : KstMark := kstMark
  obtain ⟨A1, A2, A3, A4, A5⟩ := A
  (have hA' : A3 = some (env :: outer) := hA)
  subst hA'
  clear hA
  refine wpAny_call ?_
  refine' kco_code ?k1 ?k2 ?k3 ?k4 ?k5 ?k6 ?_
  case k1 => k_in
  case k2 => k_inst
  case k3 => rfl
  case k4 => k_is
  case k5 => k_is
  case k6 => k_is
  (try dsimp only)
  walk_at "ENTER"
  k_steps
  all_goals (try k_data)
  with_reducible rename Fr _ _ _ _ => lF
  with_reducible rename News _ _ _ _ => lN
  exact hret _ _ _ _ _ _ lF lN (by assumption) (by assumption)
end
end
local macro_rules | `(tactic| walk_at "call ref") => `(tactic| (k_here; (with_reducible show wpAny _ _ (call (Value.ref _) [Value.ref _] []) _ _ _); kco_here; k_dflt (refine' rc_P ?k1 ?k2 ?k3 ?k4 ?k5 ?k6 ?k7 ?k8 ?k9 ?k10 ?k11 ?k12 ?k13 ?k14 ?_; (case k6 => first | exact rfl | assumption); (case k7 => first | exact rfl | assumption); (case k8 => first | assumption | exact rfl); (case k1 => k_asm); (case k2 => k_asm); (case k3 => k_asm); (case k4 => k_asm); (case k5 => k_asm); (case k9 => k_room); (case k10 => k_mem); (case k11 => k_mem); (case k12 => k_mem); (case k13 => l_ints); (case k14 => walk_at "LEN"); k_whole; intro x' d' q1' q2' h' tk' F' N' l1 l2; (try k_lt l1); (try k_lt2 l2); (try k_sweep))))
local macro_rules | `(tactic| walk_at "call ref") => `(tactic| (k_here; (with_reducible show wpAny _ _ (call (Value.ref _) [Value.ref _] (List.zip _ _)) _ _ _); kco_here; k_dflt ((show wpAny _ _ (call (Value.ref _) [Value.ref _] [(PySem.Str.ofString "is_ntt", Value.bool true)]) _ _ _); refine' rc_N ?k1 ?k2 ?k3 ?k4 ?k5 ?k6 ?k7 ?k8 ?k9 ?k10 ?k11 ?k12 ?k13 ?k14 ?_; (case k6 => first | exact rfl | assumption); (case k7 => first | exact rfl | assumption); (case k8 => first | assumption | exact rfl); (case k1 => k_asm); (case k2 => k_asm); (case k3 => k_asm); (case k4 => k_asm); (case k5 => k_asm); (case k9 => k_room); (case k10 => k_mem); (case k11 => k_mem); (case k12 => k_mem); (case k13 => l_ints); (case k14 => walk_at "LEN"); k_whole; intro x' d' q1' q2' h' tk' F' N' l1 l2; (try k_lt l1); (try k_lt2 l2); (try k_sweep))))
theorem reset_C1 {prog : PySem.Program} {w : PySem.World} {A : PySem.Around} {E : PySem.Value → PySem.Shared → Prop} {Q : PySem.Value → PySem.Shared → Prop} {s : PySem.Shared} (h : Q .none s) : PySem.wpAny (PySem.model prog w) A (pure .none) Q E s := by
  w_top off
  first
  | (walk1; fail "reset")
  | exact PySem.wpAny_pure h
section -- C1
section
variable {w : World} {p : Program} {loose : List Str} {mean : ExcName → Option Value} {mg mb : Str → Option Value} {dp un : Nat} {gd : Option (List Code)} {cn : Str} {cs : Scope} {a : Addr} {ccd : Value} {cl : List (Str × Addr)} {outer : List Env} {A₀ : Around} {base h₀ : Heap} {L : Addr} {m : Str → Option Value} {news : List (Addr × Obj)} {s : Shared} {Q E : Value → Shared → Prop}
theorem to_ntt_ok {x dx clA r dr zl : Addr} {R : List (Addr × Obj)} {vs zvs : List Value} {ns : List Int} {n nz : Nat} {t1 t2 u1 u2 u3 u4 u5 u6 u7 : Tok} (B : Below A₀ base outer h₀) (F : Fr h₀ L s.heap m) (X : (hd.heap_1 w.params).In h₀) (N : News h₀ L s.heap ((clA, W.listOf vs.toArray n) :: R)) (T : Top p loose mean mg mb h₀) (hcs : cs.kind = .function)
    (hdp : dp + 10 < 1000) (hu : un + 100 < 9900) (hcl : ∀ p ∈ R, p.1 ≠ clA) (H : Has w R 350 x dx clA r dr zl zvs nz t1 t2 u1 u2 u3 u4 u5 u6 u7) (hzi : IntsAre zvs zs) (hi : IntsAre vs ns) (hlen : ns.length = 256)
    (hret : ∀ y dy vs' q1 q2 h' tk', Fr h₀ L h' m → News h₀ L h' ((y, instObj 426 dy) :: (dy, dictOf (polyD w r clA q1 q2) 2) :: (clA, W.listOf vs'.toArray n) :: R) → IntsAre vs' (toNtt ns) → (clA < dy ∧ AllLt dy R) → dy < y → Q (.ref y) { s with heap := h', toks := tk' }) :
    wpAny (model PySem.Challenge.rw_yi0009_01.row.prog w) (ktrTop dp un gd cn cs L a ccd cl outer) (call (.ref 340) [.ref x]) Q E s := by
  obtain ⟨hx, hdx, hr, hdr, hz⟩ := H
  refine wpAny_call ?_
  walk_at "ENTER"
  walk_at "TO LOOP"
  with_reducible rename Fr _ _ _ _ => lF
  with_reducible rename News _ _ _ _ => lN
  have hzl := zs_len
  refine my_while (σ := S1) (fun c => [(nm "self", .ref x), (nm "coeffs", .ref clA), (nm "zetas", .ref zl), (nm "k", .int c.k c.tk), (nm "l", .int c.l c.tl)])
    (fun c => (clA, W.listOf c.vs.toArray n) :: R) (fun c => c.i ≤ 7 ∧ c.k = kI c.i ∧ c.l = lI c.i ∧ IntsAre c.vs c.ns ∧ c.ns = layr ns c.i ∧ c.ns.length = 256) (fun c => 7 - c.i) ⟨0, 1, _, 128, _, vs, ns⟩ lF (fun p hp => lN p (.tail _ hp)) (by walk_at "NAMES") ⟨Nat.zero_le _, rfl, rfl, hi, rfl, hlen⟩ ?_ (by passes_own)
  clear lF lN
  rintro c u h tk ⟨hc1, hck, hcl2, hc2, hc3, hc4⟩ F1 N1
  dsimp only [kstB] at F1 hc1 hck hcl2 hc2 hc3 hc4
  walk_at "TO LOOP"
  · have hi7 : c.i < 7 := lI_ge hc1 (by rw [← hcl2]; assumption)
    with_reducible rename Fr _ _ _ _ => lF
    with_reducible rename News _ _ _ _ => lN
    have hP := lI_pos hc1
    rw [← hck, ← hcl2] at hP
    refine my_while (σ := S2) (fun d => [(nm "self", .ref x), (nm "coeffs", .ref clA), (nm "zetas", .ref zl), (nm "l", .int c.l c.tl), (nm "k", .int d.k d.tk), (nm "start", .int d.st d.ts)])
      (fun d => (clA, W.listOf d.vs.toArray n) :: R) (fun d => (d.b : Int) ≤ c.k ∧ d.k = c.k + (d.b : Int) ∧ d.st = 2 * c.l * (d.b : Int) ∧ IntsAre d.vs d.ns ∧ d.ns = blk c.l c.k c.ns d.b ∧ d.ns.length = 256) (fun d => c.k.toNat - d.b) ⟨0, c.k, _, 0, _, c.vs, c.ns⟩ lF lN (by walk_at "NAMES") ⟨by dsimp only; omega, by simp, by simp, hc2, rfl, hc4⟩ ?_ (by passes_own)
    clear lF lN
    rintro d u' h' tk' ⟨hd1, hd2, hd3, hd4, hd5, hd6⟩ F2 N2
    dsimp only [kstB] at F2
    have hroom := st_room hi7 (d.b : Int) (by omega)
    rw [← hcl2, ← hck, ← hd3, ← hd2] at hroom
    walk_at "TO LOOP"
    · with_reducible rename Fr _ _ _ _ => lF
      with_reducible rename News _ _ _ _ => lN
      with_reducible rename IsRange _ _ _ _ _ _ _ _ => lR
      have hst : 0 ≤ d.st ∧ d.st < 256 ∧ d.k < 128 ∧ d.st + 2 * c.l ≤ 256 := by omega
      refine my_range (σ := S3) (n := c.l.toNat) (fun e => [(nm "self", .ref x), (nm "coeffs", .ref clA), (nm "zetas", .ref zl), (nm "l", .int c.l c.tl), (nm "k", .int (d.k + 1) _), (nm "start", .int d.st d.ts), (nm "zeta", .int (zs.getD d.k.toNat 0) _), (nm "j", .int e.j e.tj)])
        (fun e => (clA, W.listOf e.vs.toArray n) :: R) (fun i e => IntsAre e.vs e.ns ∧ e.ns = bfl (zs.getD d.k.toNat 0) c.l d.st d.ns i ∧ e.ns.length = 256 ∧ (i = 0 ∨ e.j = d.st + (i : Int) - 1)) ⟨d.st, _, d.vs, d.ns⟩ (fun _ => rfl) rfl lR (small_one (by omega) (by omega) (by omega) (by omega)) (by rw [rangeSize_nat]; omega) lF lN (by walk_at "NAMES") ⟨hd4, rfl, hd6, .inl rfl⟩ ?_ ?_
      · clear lF lN
        rintro i e tj u3 h3 tk3 own hin hoff ⟨he1, he2, he3, he4⟩ F3 N3
        dsimp only [kstB, List.cons_append] at F3 N3
        have hRo : ∀ p ∈ R ++ own, p.1 ≠ clA := List.forall_mem_append.mpr ⟨hcl, fun p hp => hoff p hp _ (.head _)⟩
        walk_at "TO LOOP"
        with_reducible rename Fr _ _ _ _ => lF
        with_reducible rename News _ _ _ _ => lN
        refine TurnEnd.intro (S3.mk (d.st + (i : Int)) tj _ _) lF lN (fun p hp => hp) (by walk_at "NAMES") ⟨by assumption, ?_, ?_, .inr ?_⟩
        · show _ = bfly _ _ (bfl _ _ _ _ i) _
          rw [← he2]; rfl
        · simpa using he3
        · show d.st + (i : Int) = d.st + ((i + 1 : Nat) : Int) - 1
          omega
      · clear lF lN
        rintro e u3 h3 tk3 ⟨he1, he2, he3, he4⟩ F3 N3
        dsimp only [kstB] at F3
        walk_at "TO LOOP"
        with_reducible rename Fr _ _ _ _ => lF
        with_reducible rename News _ _ _ _ => lN
        refine TurnEnd.intro ⟨d.b + 1, _, _, _, _, e.vs, e.ns⟩ lF lN (fun p hp => hp) (by walk_at "NAMES") ⟨⟨?_, ?_, ?_, he1, ?_, he3⟩, ?_⟩
        · show ((d.b + 1 : Nat) : Int) ≤ c.k
          omega
        · show d.k + 1 = c.k + ((d.b + 1 : Nat) : Int)
          omega
        · show c.l + (e.j + 1) = 2 * c.l * ((d.b + 1 : Nat) : Int)
          have e1 : 2 * c.l * ((d.b + 1 : Nat) : Int) = 2 * c.l * (d.b : Int) + 2 * c.l := by
            rw [Int.natCast_succ, Int.mul_add, Int.mul_one]
          rw [e1]
          omega
        · show e.ns = bfl (zs.getD (c.k + (d.b : Int)).toNat 0) c.l (2 * c.l * (d.b : Int)) (blk c.l c.k c.ns d.b) c.l.toNat
          rw [he2, ← hd2, ← hd3, ← hd5]
        · show c.k.toNat - (d.b + 1) < c.k.toNat - d.b
          omega
    · with_reducible rename Fr _ _ _ _ => lF
      with_reducible rename News _ _ _ _ => lN
      have hb : (d.b : Int) = c.k := by omega
      have hnx := lI_next hi7
      refine TurnEnd.intro ⟨c.i + 1, _, _, _, _, d.vs, d.ns⟩ lF lN (fun p hp => hp) (by walk_at "NAMES") ⟨⟨?_, ?_, ?_, hd4, ?_, hd6⟩, ?_⟩
      · show c.i + 1 ≤ 7
        omega
      · show d.k = kI (c.i + 1)
        omega
      · show c.l.fdiv 2 = lI (c.i + 1)
        rw [hcl2]; exact hnx.1
      · show d.ns = blk (lI c.i) (kI c.i) (layr ns c.i) (kI c.i).toNat
        rw [hd5, ← hck, ← hcl2, ← hc3]
        congr 1
        omega
      · show 7 - (c.i + 1) < 7 - c.i
        omega
  · have hi7 : c.i = 7 := lI_lt hc1 (by rw [← hcl2]; assumption)
    with_reducible rename Fr _ _ _ _ => lF
    with_reducible rename News _ _ _ _ => lN
    with_reducible rename IsRange _ _ _ _ _ _ _ _ => lR
    refine my_range (σ := S3) (n := 256) (fun e => [(nm "self", .ref x), (nm "coeffs", .ref clA)])
      (fun e => (clA, W.listOf e.vs.toArray n) :: R) (fun i e => IntsAre e.vs e.ns ∧ e.ns = redl c.ns i ∧ e.ns.length = 256) ⟨0, 0, c.vs, c.ns⟩ (fun _ => rfl) rfl lR (small_one (by omega) (by omega) (by omega) (by omega)) (by rw [rangeSize_nat]; omega) lF lN (by walk_at "NAMES") ⟨hc2, rfl, hc4⟩ ?_ ?_
    · clear lF lN
      rintro i e tj u3 h3 tk3 own hin hoff ⟨he1, he2, he3⟩ F3 N3
      dsimp only [kstB, List.cons_append] at F3 N3
      have hRo : ∀ p ∈ R ++ own, p.1 ≠ clA := List.forall_mem_append.mpr ⟨hcl, fun p hp => hoff p hp _ (.head _)⟩
      walk_at "TO LOOP"
      with_reducible rename Fr _ _ _ _ => lF
      with_reducible rename News _ _ _ _ => lN
      refine TurnEnd.intro (S3.mk 0 0 _ _) lF lN (fun p hp => hp) (by walk_at "NAMES") ⟨by assumption, ?_, ?_⟩
      · show _ = (redl _ i).set i (((redl _ i).getD i 0).fmod 3329)
        rw [← he2]
        simp
      · simpa using he3
    · clear lF lN
      rintro e u3 h3 tk3 ⟨he1, he2, he3⟩ F3 N3
      dsimp only [kstB] at F3
      walk_at "TO LOOP"
      have he5 : e.ns = toNtt ns := by rw [he2, hc3, hi7, toNtt_eq]
      rw [he5] at he1
      exact hret _ _ _ _ _ _ _ (by k_asm) (by k_asm) he1 (by assumption) (by assumption)
end
end
theorem reset_C2 {prog : PySem.Program} {w : PySem.World} {A : PySem.Around} {E : PySem.Value → PySem.Shared → Prop} {Q : PySem.Value → PySem.Shared → Prop} {s : PySem.Shared} (h : Q .none s) : PySem.wpAny (PySem.model prog w) A (pure .none) Q E s := by
  w_top off
  first
  | (walk1; fail "reset")
  | exact PySem.wpAny_pure h
section -- C2
section
variable {w : World} {p : Program} {loose : List Str} {mean : ExcName → Option Value} {mg mb : Str → Option Value} {dp un : Nat} {gd : Option (List Code)} {cn : Str} {cs : Scope} {a : Addr} {ccd : Value} {cl : List (Str × Addr)} {outer : List Env} {A₀ : Around} {base h₀ : Heap} {L : Addr} {m : Str → Option Value} {news : List (Addr × Obj)} {s : Shared} {Q E : Value → Shared → Prop}
theorem from_ntt_ok {x dx clA r dr zl : Addr} {R : List (Addr × Obj)} {vs zvs : List Value} {ns : List Int} {n nz : Nat} {t1 t2 u1 u2 u3 u4 u5 u6 u7 : Tok} (B : Below A₀ base outer h₀) (F : Fr h₀ L s.heap m) (X : (hd.heap_1 w.params).In h₀) (N : News h₀ L s.heap ((clA, W.listOf vs.toArray n) :: R)) (T : Top p loose mean mg mb h₀) (hcs : cs.kind = .function)
    (hdp : dp + 10 < 1000) (hu : un + 100 < 9900) (hcl : ∀ p ∈ R, p.1 ≠ clA) (H : Has w R 426 x dx clA r dr zl zvs nz t1 t2 u1 u2 u3 u4 u5 u6 u7) (hzi : IntsAre zvs zs) (hi : IntsAre vs ns) (hlen : ns.length = 256)
    (hret : ∀ y dy vs' q1 q2 h' tk', Fr h₀ L h' m → News h₀ L h' ((y, instObj 350 dy) :: (dy, dictOf (polyD w r clA q1 q2) 2) :: (clA, W.listOf vs'.toArray n) :: R) → IntsAre vs' (fromNtt ns) → (clA < dy ∧ AllLt dy R) → dy < y → Q (.ref y) { s with heap := h', toks := tk' }) :
    wpAny (model PySem.Challenge.rw_yi0009_01.row.prog w) (ktrTop dp un gd cn cs L a ccd cl outer) (call (.ref 380) [.ref x]) Q E s := by
  obtain ⟨hx, hdx, hr, hdr, hz⟩ := H
  refine wpAny_call ?_
  walk_at "ENTER"
  walk_at "TO LOOP"
  with_reducible rename Fr _ _ _ _ => lF
  with_reducible rename News _ _ _ _ => lN
  have hzl := zs_len
  refine my_while (σ := S1) (fun c => [(nm "self", .ref x), (nm "coeffs", .ref clA), (nm "zetas", .ref zl), (nm "k", .int c.k c.tk), (nm "l", .int c.l c.tl)])
    (fun c => (clA, W.listOf c.vs.toArray n) :: R) (fun c => c.i ≤ 7 ∧ c.k = kJ c.i ∧ c.l = lJ c.i ∧ IntsAre c.vs c.ns ∧ c.ns = ilayr ns c.i ∧ c.ns.length = 256) (fun c => 7 - c.i) ⟨0, 127, _, 2, _, vs, ns⟩ lF (fun p hp => lN p (.tail _ hp)) (by walk_at "NAMES") ⟨Nat.zero_le _, rfl, rfl, hi, rfl, hlen⟩ ?_ (by passes_own)
  clear lF lN
  rintro c u h tk ⟨hc1, hck, hcl2, hc2, hc3, hc4⟩ F1 N1
  dsimp only [kstB] at F1 hc1 hck hcl2 hc2 hc3 hc4
  walk_at "TO LOOP"
  · have hi7 : c.i < 7 := lJ_ge hc1 (by rw [← hcl2]; assumption)
    with_reducible rename Fr _ _ _ _ => lF
    with_reducible rename News _ _ _ _ => lN
    have hP := lJ_pos hi7
    rw [← hck, ← hcl2] at hP
    refine my_while (σ := S2) (fun d => [(nm "self", .ref x), (nm "coeffs", .ref clA), (nm "zetas", .ref zl), (nm "l", .int c.l c.tl), (nm "k", .int d.k d.tk), (nm "start", .int d.st d.ts)])
      (fun d => (clA, W.listOf d.vs.toArray n) :: R) (fun d => (d.b : Int) ≤ mJ c.i ∧ d.k = c.k - (d.b : Int) ∧ d.st = 2 * c.l * (d.b : Int) ∧ IntsAre d.vs d.ns ∧ d.ns = iblk c.l c.k c.ns d.b ∧ d.ns.length = 256) (fun d => (mJ c.i).toNat - d.b) ⟨0, c.k, _, 0, _, c.vs, c.ns⟩ lF lN (by walk_at "NAMES") ⟨by dsimp only; omega, by simp, by simp, hc2, rfl, hc4⟩ ?_ (by passes_own)
    clear lF lN
    rintro d u' h' tk' ⟨hd1, hd2, hd3, hd4, hd5, hd6⟩ F2 N2
    dsimp only [kstB] at F2
    have hroom := st_roomJ hi7 (d.b : Int) (by omega)
    rw [← hcl2, ← hck, ← hd3, ← hd2] at hroom
    walk_at "TO LOOP"
    · with_reducible rename Fr _ _ _ _ => lF
      with_reducible rename News _ _ _ _ => lN
      with_reducible rename IsRange _ _ _ _ _ _ _ _ => lR
      have hst : 0 ≤ d.st ∧ d.st < 256 ∧ 0 < d.k ∧ d.k < 128 ∧ d.st + 2 * c.l ≤ 256 := by omega
      refine my_range (σ := S3) (n := c.l.toNat) (fun e => [(nm "self", .ref x), (nm "coeffs", .ref clA), (nm "zetas", .ref zl), (nm "l", .int c.l c.tl), (nm "k", .int (d.k - 1) _), (nm "start", .int d.st d.ts), (nm "zeta", .int (zs.getD d.k.toNat 0) _), (nm "j", .int e.j e.tj)])
        (fun e => (clA, W.listOf e.vs.toArray n) :: R) (fun i e => IntsAre e.vs e.ns ∧ e.ns = ibfl (zs.getD d.k.toNat 0) c.l d.st d.ns i ∧ e.ns.length = 256 ∧ (i = 0 ∨ e.j = d.st + (i : Int) - 1)) ⟨d.st, _, d.vs, d.ns⟩ (fun _ => rfl) rfl lR (small_one (by omega) (by omega) (by omega) (by omega)) (by rw [rangeSize_nat]; omega) lF lN (by walk_at "NAMES") ⟨hd4, rfl, hd6, .inl rfl⟩ ?_ ?_
      · clear lF lN
        rintro i e tj u3 h3 tk3 own hin hoff ⟨he1, he2, he3, he4⟩ F3 N3
        dsimp only [kstB, List.cons_append] at F3 N3
        have hRo : ∀ p ∈ R ++ own, p.1 ≠ clA := List.forall_mem_append.mpr ⟨hcl, fun p hp => hoff p hp _ (.head _)⟩
        walk_at "TO LOOP"
        with_reducible rename Fr _ _ _ _ => lF
        with_reducible rename News _ _ _ _ => lN
        refine TurnEnd.intro (S3.mk (d.st + (i : Int)) tj _ _) lF lN (fun p hp => hp) (by walk_at "NAMES") ⟨by assumption, ?_, ?_, .inr ?_⟩
        · show _ = ibfly _ _ (ibfl _ _ _ _ i) _
          rw [← he2]; rfl
        · simpa using he3
        · show d.st + (i : Int) = d.st + ((i + 1 : Nat) : Int) - 1
          omega
      · clear lF lN
        rintro e u3 h3 tk3 ⟨he1, he2, he3, he4⟩ F3 N3
        dsimp only [kstB] at F3
        walk_at "TO LOOP"
        with_reducible rename Fr _ _ _ _ => lF
        with_reducible rename News _ _ _ _ => lN
        refine TurnEnd.intro ⟨d.b + 1, _, _, _, _, e.vs, e.ns⟩ lF lN (fun p hp => hp) (by walk_at "NAMES") ⟨⟨?_, ?_, ?_, he1, ?_, he3⟩, ?_⟩
        · show ((d.b + 1 : Nat) : Int) ≤ mJ c.i
          omega
        · show d.k - 1 = c.k - ((d.b + 1 : Nat) : Int)
          omega
        · show e.j + c.l + 1 = 2 * c.l * ((d.b + 1 : Nat) : Int)
          have e1 : 2 * c.l * ((d.b + 1 : Nat) : Int) = 2 * c.l * (d.b : Int) + 2 * c.l := by
            rw [Int.natCast_succ, Int.mul_add, Int.mul_one]
          rw [e1]
          omega
        · show e.ns = ibfl (zs.getD (c.k - (d.b : Int)).toNat 0) c.l (2 * c.l * (d.b : Int)) (iblk c.l c.k c.ns d.b) c.l.toNat
          rw [he2, ← hd2, ← hd3, ← hd5]
        · show (mJ c.i).toNat - (d.b + 1) < (mJ c.i).toNat - d.b
          omega
    · with_reducible rename Fr _ _ _ _ => lF
      with_reducible rename News _ _ _ _ => lN
      have hb : (d.b : Int) = mJ c.i := by omega
      have hnx := lJ_next hi7
      refine TurnEnd.intro ⟨c.i + 1, _, _, _, _, d.vs, d.ns⟩ lF lN (fun p hp => hp) (by walk_at "NAMES") ⟨⟨?_, ?_, ?_, hd4, ?_, hd6⟩, ?_⟩
      · show c.i + 1 ≤ 7
        omega
      · show d.k = kJ (c.i + 1)
        omega
      · show c.l * 2 = lJ (c.i + 1)
        rw [hcl2]; exact hnx.1
      · show d.ns = iblk (lJ c.i) (kJ c.i) (ilayr ns c.i) (mJ c.i).toNat
        rw [hd5, ← hck, ← hcl2, ← hc3]
        congr 1
        omega
      · show 7 - (c.i + 1) < 7 - c.i
        omega
  · have hi7 : c.i = 7 := lJ_lt hc1 (by rw [← hcl2]; assumption)
    with_reducible rename Fr _ _ _ _ => lF
    with_reducible rename News _ _ _ _ => lN
    with_reducible rename IsRange _ _ _ _ _ _ _ _ => lR
    refine my_range (σ := S3) (n := 256) (fun e => [(nm "self", .ref x), (nm "coeffs", .ref clA), (nm "f", .int 3303 u7)])
      (fun e => (clA, W.listOf e.vs.toArray n) :: R) (fun i e => IntsAre e.vs e.ns ∧ e.ns = scal c.ns i ∧ e.ns.length = 256) ⟨0, 0, c.vs, c.ns⟩ (fun _ => rfl) rfl lR (small_one (by omega) (by omega) (by omega) (by omega)) (by rw [rangeSize_nat]; omega) lF lN (by walk_at "NAMES") ⟨hc2, rfl, hc4⟩ ?_ ?_
    · clear lF lN
      rintro i e tj u3 h3 tk3 own hin hoff ⟨he1, he2, he3⟩ F3 N3
      dsimp only [kstB, List.cons_append] at F3 N3
      have hRo : ∀ p ∈ R ++ own, p.1 ≠ clA := List.forall_mem_append.mpr ⟨hcl, fun p hp => hoff p hp _ (.head _)⟩
      walk_at "TO LOOP"
      with_reducible rename Fr _ _ _ _ => lF
      with_reducible rename News _ _ _ _ => lN
      refine TurnEnd.intro (S3.mk 0 0 _ _) lF lN (fun p hp => hp) (by walk_at "NAMES") ⟨by assumption, ?_, ?_⟩
      · show _ = (scal _ i).set i (((scal _ i).getD i 0 * 3303).fmod 3329)
        rw [← he2]
        simp
      · simpa using he3
    · clear lF lN
      rintro e u3 h3 tk3 ⟨he1, he2, he3⟩ F3 N3
      dsimp only [kstB] at F3
      walk_at "TO LOOP"
      have he5 : e.ns = fromNtt ns := by rw [he2, hc3, hi7, fromNtt_eq]
      rw [he5] at he1
      exact hret _ _ _ _ _ _ _ (by k_asm) (by k_asm) he1 (by assumption) (by assumption)
end
end
theorem reset_RG {prog : PySem.Program} {w : PySem.World} {A : PySem.Around} {E : PySem.Value → PySem.Shared → Prop} {Q : PySem.Value → PySem.Shared → Prop} {s : PySem.Shared} (h : Q .none s) : PySem.wpAny (PySem.model prog w) A (pure .none) Q E s := by
  w_top off
  first
  | (walk1; fail "reset")
  | exact PySem.wpAny_pure h
section -- RG
local macro_rules | `(tactic| walk_at "OMEGA") => `(tactic| first | with_reducible assumption | ((repeat (with_reducible rename _ ∧ _ => hx9; clear hx9)); (repeat (with_reducible rename @Ne Nat _ _ => hx9; clear hx9)); omega))
theorem and127 : ∀ k : Fin 128, Builtin.bitAnd (k.val : Int) (2 ^ Int.toNat 7 - 1) = (k.val : Int) := by decide +kernel
theorem bin_br {prog : Program} {w : World} {A : Around} {E Q : Value → Shared → Prop} {s : Shared} {k : Int} {t : Tok} (h0 : 0 ≤ k) (h1 : k < 128) (h : Q (.str (PySem.baseText "0b" 2 k) s.toks) {s with toks := s.toks + 1}) :
    wpAny (model prog w) A (call (.builtin "bin") [.int (Builtin.bitAnd k (2 ^ Int.toNat 7 - 1)) t]) Q E s := by
  have e := fin_of (P := fun k => Builtin.bitAnd k (2 ^ Int.toNat 7 - 1) = k) and127 h0 h1
  rw [e]
  exact PySem.P.bin_of_int h (PySem.baseText_under (by decide) (by decide) (by omega))
theorem br_size {k : Int} (h0 : 0 ≤ k) (h1 : k < 128) : (Txt.zfill (Txt.slice (PySem.baseText "0b" 2 k) (some 2) none) 7).length ≤ sizeLine := by
  have := fin_of (P := fun k => (Txt.zfill (Txt.slice (PySem.baseText "0b" 2 k) (some 2) none) 7).length ≤ 640) br_len h0 h1
  rw [sizeLine_eq]; omega
theorem bin_size {k : Int} (h0 : 0 ≤ k) (h1 : k < 128) : (PySem.baseText "0b" 2 k).length ≤ sizeLine := by
  have h := PySem.fact_bin k
  rw [sizeLine_eq]
  omega
local macro_rules | `(tactic| size_fits) => `(tactic| exact bin_size (by walk_at "OMEGA") (by walk_at "OMEGA"))
local macro_rules | `(tactic| walk_at "call builtin:bin") => `(tactic| (refine' bin_br ?k1 ?k2 ?_; (case k1 => walk_at "OMEGA"); (case k2 => walk_at "OMEGA")))
local macro_rules | `(tactic| walk_at "subscriptTail Name Slice str ref") => `(tactic| ((with_reducible show wpAny _ _ (subscriptTail _ (Expr.Slice none none (some _) _) _ _) _ _ _); (with_reducible rename Fr _ _ _ _ => F'); (with_reducible rename News _ _ _ _ => N'); (refine slice_strK_nn (hsz := br_size (by walk_at "OMEGA") (by walk_at "OMEGA")) (s := ⟨_, _, _, _, _⟩) F' N' (by decide) ?_); intro _ _ _ _ _))
local macro_rules | `(tactic| walk_at "call type:int") => `(tactic| ((with_reducible show wpAny _ _ (call (Value.type "int") [Value.str _ _, Value.int _ _]) _ _ _); refine br_int (by walk_at "OMEGA") (by walk_at "OMEGA") ?_; intro _))
def zetaZ (k : Int) : Int := zs.getD k.toNat 0
theorem br_pos : ∀ k : Fin 128, 0 ≤ brZ (k.val : Int) := by decide +kernel
theorem pow_br_all : ∀ k : Fin 128, ((Builtin.powMod ((17 : Int) % (((3329 : Int).natAbs : Nat) : Int)).toNat (brZ (k.val : Int)).natAbs (3329 : Int).natAbs : Nat) : Int) = zetaZ (k.val : Int) := by decide +kernel
theorem pow_br {prog : Program} {w : World} {A : Around} {E : Value → Shared → Prop} {s : Shared} {k : Int} {t u v : Tok} {Q : Value → Shared → Prop} (h0 : 0 ≤ k) (h1 : k < 128) (h : ∀ tk, Q (.int (zetaZ k) tk) { s with toks := tk + 1 }) :
    wpAny (model prog w) A (call (.builtin "pow") [.int 17 t, .int (brZ k) u, .int 3329 v]) Q E s := by
  refine pow3 (fin_of (P := fun k => 0 ≤ brZ k) br_pos h0 h1) (by decide) fun tk => ?_
  have e := fin_of (P := fun k => ((Builtin.powMod ((17 : Int) % (((3329 : Int).natAbs : Nat) : Int)).toNat (brZ k).natAbs (3329 : Int).natAbs : Nat) : Int) = zetaZ k) pow_br_all h0 h1
  rw [e]; exact h tk
local macro_rules | `(tactic| walk_at "call builtin:pow") => `(tactic| ((with_reducible show wpAny _ _ (call (Value.builtin "pow") [Value.int _ _, Value.int (brZ _) _, Value.int _ _]) _ _ _); refine pow_br (by walk_at "OMEGA") (by walk_at "OMEGA") ?_; intro _))
local macro_rules | `(tactic| walk_at "call builtin:pow") => `(tactic| (refine pow_inv ?_; intro _))
section
variable {w : World} {p : Program} {loose : List Str} {mean : ExcName → Option Value} {mg mb : Str → Option Value} {dp un : Nat} {gd : Option (List Code)} {cn : Str} {cs : Scope} {a : Addr} {ccd : Value} {cl : List (Str × Addr)} {outer : List Env} {A₀ : Around} {base h₀ : Heap} {L : Addr} {m : Str → Option Value} {news : List (Addr × Obj)} {s : Shared} {Q E : Value → Shared → Prop}
theorem zs_map : List.map zetaZ (rangeKs 0 ((128 : Int) - 0).toNat) = zs := by decide +kernel
theorem news_sub0 {h₀ h : Heap} {L : Addr} {A C : List (Addr × Obj)} (N : News h₀ L h C) (k : ∀ p ∈ A, p ∈ C) : News h₀ L h A := fun p hp => N p (k p hp)
theorem ring_ok {c0 P : Addr} {o0 oP : Obj} (B : Below A₀ base outer h₀) (F : Fr h₀ L s.heap m) (X : (hd.heap_1 w.params).In h₀) (N : News h₀ L s.heap [(c0, o0), (P, oP)]) (T : Top p loose mean mg mb h₀) (hcs : cs.kind = .function)
    (hdp : dp + 10 < 1000) (hu : un + 100 < 9900)
    (hret : ∀ x d D zvs nz v1 v2 v3 v4 v5 v6 v7 h' tk', Fr h₀ L h' m → News h₀ L h' ((x, instObj 282 d) :: (d, dictOf (ringD w D v1 v2 v3 v4 v5 v6 v7) 4) :: (D, W.listOf zvs.toArray nz) :: [(c0, o0), (P, oP)]) → IntsAre zvs zs → Q (.ref x) { s with heap := h', toks := tk' }) :
    wpAny (model PySem.Challenge.rw_yi0009_01.row.prog w) (ktrTop dp un gd cn cs L a ccd cl outer) (call (.ref 282) []) Q E s := by
  refine' call_cls ?k1 ?k2 ?k3 ?k4 ?k5 ?k6 ?_; (case k1 => k_asm); (case k2 => k_asm); (case k3 => k_asm); (case k4 => k_is); (case k5 => k_is); (case k6 => k_is); k_whole; intro x' d' h' F' N' l1 l2; (try k_lt l1); (try k_lt2 l2)
  walk_at "ENTER"
  k_steps
  with_reducible rename Fr _ _ _ _ => lF
  with_reducible rename News _ _ _ _ => lN
  with_reducible rename IntsAre _ _ => lI
  rw [zs_map] at lI
  exact hret _ _ _ _ _ _ _ _ _ _ _ _ _ _ lF (news_sub0 lN (by kcf_all)) lI
end
end
theorem reset_C3 {prog : PySem.Program} {w : PySem.World} {A : PySem.Around} {E : PySem.Value → PySem.Shared → Prop} {Q : PySem.Value → PySem.Shared → Prop} {s : PySem.Shared} (h : Q .none s) : PySem.wpAny (PySem.model prog w) A (pure .none) Q E s := by
  w_top off
  first
  | (walk1; fail "reset")
  | exact PySem.wpAny_pure h
section -- C3
section
variable {w : World} {p : Program} {loose : List Str} {mean : ExcName → Option Value} {mg mb : Str → Option Value} {dp un : Nat} {gd : Option (List Code)} {cn : Str} {cs : Scope} {a : Addr} {ccd : Value} {cl : List (Str × Addr)} {outer : List Env} {A₀ : Around} {base h₀ : Heap} {L : Addr} {m : Str → Option Value} {news : List (Addr × Obj)} {s : Shared} {Q E : Value → Shared → Prop}
theorem news_perm {h₀ h : Heap} {L : Addr} {l l' : List (Addr × Obj)} (N : News h₀ L h l) (hs : ∀ p ∈ l', p ∈ l) : News h₀ L h l' := fun p hp => N p (hs p hp)
theorem has_perm {w : World} {R : List (Addr × Obj)} {C x dx clA r dr zl : Addr} {zvs : List Value} {nz : Nat} {t1 t2 u1 u2 u3 u4 u5 u6 u7 : Tok} {pre post : List (Addr × Obj)} {o : Obj} (H : Has w R C x dx clA r dr zl zvs nz t1 t2 u1 u2 u3 u4 u5 u6 u7)
    (hR : R = pre ++ (clA, o) :: post) (hx : x ≠ clA) (hdx : dx ≠ clA) (hr : r ≠ clA) (hdr : dr ≠ clA) (hz : zl ≠ clA) : Has w (pre ++ post) C x dx clA r dr zl zvs nz t1 t2 u1 u2 u3 u4 u5 u6 u7 := by
  subst hR
  have key : ∀ {b : Addr} {ob : Obj}, (b, ob) ∈ pre ++ (clA, o) :: post → b ≠ clA → (b, ob) ∈ pre ++ post := by
    intro b ob h hb
    rcases List.mem_append.mp h with h | h
    · exact List.mem_append_left _ h
    · rcases List.mem_cons.mp h with h | h
      · exact absurd (congrArg Prod.fst h) hb
      · exact List.mem_append_right _ h
  exact ⟨key H.x hx, key H.dx hdx, key H.r hr, key H.dr hdr, key H.z hz⟩
theorem ne_of_obj {h₀ h : Heap} {L : Addr} {l : List (Addr × Obj)} {a b : Addr} {oa ob : Obj} (N : News h₀ L h l) (ha : (a, oa) ∈ l) (hb : (b, ob) ∈ l) (hne : oa ≠ ob) : a ≠ b := by
  intro e
  subst e
  have h1 := (N _ ha).1
  have h2 := (N _ hb).1
  rw [h1] at h2
  exact hne (Option.some.inj h2)
theorem from_ntt_upd {x dx clA r dr zl : Addr} {g : Obj → List (Addr × Obj)} {vs zvs : List Value} {ns : List Int} {n nz : Nat} {t1 t2 u1 u2 u3 u4 u5 u6 u7 : Tok} (B : Below A₀ base outer h₀) (F : Fr h₀ L s.heap m) (X : (hd.heap_1 w.params).In h₀) (N : News h₀ L s.heap news) (T : Top p loose mean mg mb h₀) (hcs : cs.kind = .function)
    (hdp : dp + 10 < 1000) (hu : un + 100 < 9900) (U : UpdF clA (W.listOf vs.toArray n) news g) (hx : (x, instObj 426 dx) ∈ news) (hdx : (dx, dictOf (polyD w r clA t1 t2) 2) ∈ news) (hr : (r, instObj 282 dr) ∈ news) (hdr : (dr, dictOf (ringD w zl u1 u2 u3 u4 u5 u6 u7) 4) ∈ news) (hz : (zl, W.listOf zvs.toArray nz) ∈ news) (hzne : zl ≠ clA) (hzi : IntsAre zvs zs) (hi : IntsAre vs ns) (hlen : ns.length = 256)
    (hret : ∀ y dy vs' q1 q2 h' tk', Fr h₀ L h' m → News h₀ L h' ((y, instObj 350 dy) :: (dy, dictOf (polyD w r clA q1 q2) 2) :: g (W.listOf vs'.toArray n)) → IntsAre vs' (fromNtt ns) → (∀ p ∈ news, p.1 < dy) → dy < y → Q (.ref y) { s with heap := h', toks := tk' }) :
    wpAny (model PySem.Challenge.rw_yi0009_01.row.prog w) (ktrTop dp un gd cn cs L a ccd cl outer) (call (.ref 380) [.ref x]) Q E s := by
  obtain ⟨pre, post, hnews, hg, hpre, hpost⟩ := U.split
  have hmem : (clA, W.listOf vs.toArray n) ∈ news := by rw [hnews]; simp
  have nex : x ≠ clA := ne_of_obj N hx hmem (fun e => Data.noConfusion (congrArg Obj.data e))
  have nedx : dx ≠ clA := ne_of_obj N hdx hmem (fun e => Data.noConfusion (congrArg Obj.data e))
  have ner : r ≠ clA := ne_of_obj N hr hmem (fun e => Data.noConfusion (congrArg Obj.data e))
  have nedr : dr ≠ clA := ne_of_obj N hdr hmem (fun e => Data.noConfusion (congrArg Obj.data e))
  have H := has_perm ⟨hx, hdx, hr, hdr, hz⟩ hnews nex nedx ner nedr hzne
  refine from_ntt_ok (R := pre ++ post) (n := n) B F X (news_perm N ?_) T hcs hdp hu ?_ H hzi hi hlen ?_
  · intro p hp
    rw [hnews]
    rcases List.mem_cons.mp hp with rfl | hp
    · simp
    · rcases List.mem_append.mp hp with hp | hp
      · exact List.mem_append_left _ hp
      · exact List.mem_append_right _ (.tail _ hp)
  · intro p hp
    rcases List.mem_append.mp hp with hp | hp
    · exact hpre p hp
    · exact hpost p hp
  · intro y dy vs' q1 q2 h' tk' F' N' hi' hlt hy
    refine hret y dy vs' q1 q2 h' tk' F' (news_perm N' ?_) hi' ?_ hy
    · intro p hp
      rw [hg] at hp
      rcases List.mem_cons.mp hp with rfl | hp
      · exact .head _
      · rcases List.mem_cons.mp hp with rfl | hp
        · exact .tail _ (.head _)
        · refine .tail _ (.tail _ ?_)
          rcases List.mem_append.mp hp with hp | hp
          · exact .tail _ (List.mem_append_left _ hp)
          · rcases List.mem_cons.mp hp with rfl | hp
            · exact .head _
            · exact .tail _ (List.mem_append_right _ hp)
    · intro p hp
      rw [hnews] at hp
      rcases List.mem_append.mp hp with hp | hp
      · exact kst_ltOf hlt.2 p (List.mem_append_left _ hp)
      · rcases List.mem_cons.mp hp with rfl | hp
        · exact hlt.1
        · exact kst_ltOf hlt.2 p (List.mem_append_right _ hp)
end
end
local macro_rules | `(tactic| is_list) => `(tactic| exact News.isList (by k_asm) (by k_mem))
local macro_rules | `(tactic| walk_at "getMethod ref") => `(tactic| (k_here; (with_reducible show wpAny _ _ (getMethod (Value.ref _) (PySem.Str.ofString "copy") _) _ _ _); k_dflt (refine' listMethod_K ?N ?m PySem.F.slot_list_copy PySem.F.type_list_copy ?_; (case N => k_asm); (case m => k_mem))))
local macro_rules | `(tactic| walk_at "call builtin:list.copy") => `(tactic| (k_here; k_dflt (refine' copy_K ?k1 ?k2 ?k3 ?k4 ?_; (case k1 => k_asm); (case k2 => k_asm); (case k3 => k_mem); (case k4 => exact sz256 (by assumption) (by assumption)); k_whole; intro D' c' h' F' N' l1; (try k_lt l1); (try k_sweep))))
local macro_rules | `(tactic| walk_at "SIZE") => `(tactic| (simp only [List.length_append, List.length_cons, List.length_nil, List.length_tail, List.length_set, List.length_map, List.length_replicate]; omega))
local macro_rules | `(tactic| walk_at "SAME") => `(tactic| first | assumption | rfl)
local macro_rules | `(tactic| walk_at "binaryOp Add ref ref") => `(tactic| (k_here; k_dflt (refine' add_K ?k1 ?k2 ?k3 ?k4 ?k5 ?k6 ?k7 ?_; (case k1 => k_asm); (case k2 => k_asm); (case k3 => k_mem); (case k4 => k_mem); (case k5 => l_ints); (case k6 => l_ints); (case k7 => walk_at "SIZE"); k_whole; intro D' c' h' F' N' i' l1; (try k_lt l1); (try k_sweep))))
local macro_rules | `(tactic| walk_at "compareOp NotEq ref ref") => `(tactic| (k_here; k_dflt (refine' ne_same ?k1 ?k2 ?k3 ?k4 ?k5 ?k6 ?k7 ?_; (case k1 => k_asm); (case k2 => k_mem); (case k3 => l_ints); (case k4 => k_mem); (case k5 => l_ints); (case k6 => k_units); (case k7 => walk_at "SAME"); k_whole)))
local macro_rules | `(tactic| walk_at "compareOp Eq ref ref") => `(tactic| (k_here; k_dflt (refine' eq_same ?k1 ?k2 ?k3 ?k4 ?k5 ?k6 ?k7 ?_; (case k1 => k_asm); (case k2 => k_mem); (case k3 => l_ints); (case k4 => k_mem); (case k5 => l_ints); (case k6 => k_units); (case k7 => walk_at "SAME"); k_whole)))
local macro_rules | `(tactic| walk_at "LEN") => `(tactic| ((try simp only [List.length_append, List.length_cons, List.length_nil, List.length_tail, List.length_set, List.length_map, List.length_replicate, len_fromNtt, len_toNtt]); first | assumption | omega))
local macro_rules | `(tactic| walk_at "call builtin:len") => `(tactic| (k_here; (with_reducible show wpAny _ _ (call (Value.builtin "len") [Value.ref _]) _ _ _); k_dflt (refine' len256 ?k1 ?k2 ?k3 ?k4 ?_; (case k1 => k_asm); (case k2 => k_mem); (case k3 => l_ints); (case k4 => walk_at "LEN"); k_whole)))
local macro_rules | `(tactic| walk_at "binaryOp Add int ref") => `(tactic| (k_here; k_dflt (refine' my_addR ?k1 ?k2 ?k3 ?k4 ?k5 ?k6 ?k7 ?k8 ?k9 ?_; (case k1 => k_asm); (case k2 => k_asm); (case k3 => k_inst); (case k4 => rfl); (case k5 => k_is); (case k6 => k_is); (case k7 => k_is); (case k8 => k_is); (case k9 => k_is); k_whole)))
local macro_rules | `(tactic| walk_at "binaryOp Sub int ref") => `(tactic| (k_here; k_dflt (refine' my_subR ?k1 ?k2 ?k3 ?k4 ?k5 ?k6 ?k7 ?k8 ?k9 ?_; (case k1 => k_asm); (case k2 => k_asm); (case k3 => k_inst); (case k4 => rfl); (case k5 => k_is); (case k6 => k_is); (case k7 => k_is); (case k8 => k_is); (case k9 => k_is); k_whole)))
local macro_rules | `(tactic| walk_at "call ref") => `(tactic| (k_here; (with_reducible show wpAny _ _ (call (Value.ref 380) _) _ _ _); k_dflt (refine' from_ntt_upd ?k1 ?k2 ?k3 ?k4 ?k5 ?k6 ?k7 ?k8 ?k9 ?k10 ?k11 ?k12 ?k13 ?k14 ?k15 ?k16 ?k17 ?k18 ?_; (case k1 => k_asm); (case k2 => k_asm); (case k3 => k_asm); (case k4 => k_asm); (case k5 => k_asm); (case k6 => first | exact rfl | assumption); (case k7 => omega); (case k8 => omega); (case k10 => k_mem); (case k11 => k_mem); (case k12 => k_mem); (case k13 => k_mem); (case k14 => k_mem); (case k9 => k_updF); (case k15 => first | omega | exact ne_mem (by k_mem) (by k_all)); (case k16 => k_asm); (case k17 => l_ints); (case k18 => walk_at "LEN"); k_whole; intro y' dy' vs' q1' q2' h' tk' F' N' i' l1 l2; (try k_lt l1); (try k_lt2 l2); (try dsimp only at N'); (try k_sweep))))
theorem reset_K2 {prog : PySem.Program} {w : PySem.World} {A : PySem.Around} {E : PySem.Value → PySem.Shared → Prop} {Q : PySem.Value → PySem.Shared → Prop} {s : PySem.Shared} (h : Q .none s) : PySem.wpAny (PySem.model prog w) A (pure .none) Q E s := by
  w_top off
  first
  | (walk1; fail "reset")
  | exact PySem.wpAny_pure h
section -- K2
inductive OpRow : Addr → Addr → (Int → Int → Int) → Prop
  | addP : OpRow 139 350 (fun a c => (a + c).fmod 3329)
  | subP : OpRow 165 350 (fun a c => (a - c).fmod 3329)
  | addN : OpRow 411 426 (fun a c => (a + c).fmod 3329)
  | subN : OpRow 418 426 (fun a c => (a - c).fmod 3329)
section
variable {w : World} {p : Program} {loose : List Str} {mean : ExcName → Option Value} {mg mb : Str → Option Value} {outer : List Env} {A A₀ : Around} {env : Env} {base h₀ : Heap} {L : Addr} {s : Shared} {Q E : Value → Shared → Prop}
  {R : List (Addr × Obj)} {m : Str → Option Value} {r dr zl xh dxh ch : Addr} {c : Int} {tc t1 t2 u1 u2 u3 u4 u5 u6 u7 : Tok} {zvs hvs : List Value} {nz nh : Nat} {H : List Int}
theorem add_P (B : Below A₀ base outer h₀) (F : Fr h₀ L s.heap m) (X : (hd.heap_1 w.params).In h₀) (N : News h₀ L s.heap R) (T : Top p loose mean mg mb h₀) (hA : A.frames = some (env :: outer)) (hF : env.frame = some L) (hK : env.scope.kind = .function) (hdp : A.depth + 15 < recursionLimit)
    (HS : Has w R 350 xh dxh ch r dr zl zvs nz t1 t2 u1 u2 u3 u4 u5 u6 u7) (hch : (ch, W.listOf hvs.toArray nh) ∈ R) (hh : IntsAre hvs H) (hHlen : H.length = 256)
    (hret : ∀ x1 dx1 c1 q1 q2 vs1 n1 h tk, Fr h₀ L h m → News h₀ L h ((x1, instObj 350 dx1) :: (dx1, dictOf (polyD w r c1 q1 q2) 2) :: (c1, W.listOf vs1.toArray n1) :: R) → IntsAre vs1 (H.set (Int.toNat 0) ((H.getD (Int.toNat 0) 0 + c).fmod 3329)) → (H.set (Int.toNat 0) ((H.getD (Int.toNat 0) 0 + c).fmod 3329)).length = 256 → (∀ p ∈ R, p.1 < c1) → c1 < dx1 → dx1 < x1 → Q (.ref x1) { s with heap := h, toks := tk }) :
    wpAny (model PySem.Challenge.rw_yi0009_01.row.prog w) A (call (.ref 139) [.ref xh, .int c tc]) Q E s := by
  obtain ⟨hx, hdx, hr₁, hdr, hz⟩ := HS
  have kMark : KstMark := kstMark
  obtain ⟨A1, A2, A3, A4, A5⟩ := A
  (have hA' : A3 = some (env :: outer) := hA)
  subst hA'
  clear hA
  refine wpAny_call ?_
  walk_at "ENTER"
  k_steps
  all_goals (try k_data)
  with_reducible rename Fr _ _ _ _ => lF
  with_reducible rename News _ _ _ _ => lN
  with_reducible rename And _ (AllLt _ _) => lA
  with_reducible rename And _ (And _ (AllLt _ _)) => lB
  with_reducible rename _ < _ => lC
  exact hret _ _ _ _ _ _ _ _ _ lF (news_sub lN (by kcf_all)) (by l_ints) (by rw [List.length_set]; exact hHlen) (allLt_mem lA.2) lB.1 lC
theorem sub_P (B : Below A₀ base outer h₀) (F : Fr h₀ L s.heap m) (X : (hd.heap_1 w.params).In h₀) (N : News h₀ L s.heap R) (T : Top p loose mean mg mb h₀) (hA : A.frames = some (env :: outer)) (hF : env.frame = some L) (hK : env.scope.kind = .function) (hdp : A.depth + 15 < recursionLimit)
    (HS : Has w R 350 xh dxh ch r dr zl zvs nz t1 t2 u1 u2 u3 u4 u5 u6 u7) (hch : (ch, W.listOf hvs.toArray nh) ∈ R) (hh : IntsAre hvs H) (hHlen : H.length = 256)
    (hret : ∀ x1 dx1 c1 q1 q2 vs1 n1 h tk, Fr h₀ L h m → News h₀ L h ((x1, instObj 350 dx1) :: (dx1, dictOf (polyD w r c1 q1 q2) 2) :: (c1, W.listOf vs1.toArray n1) :: R) → IntsAre vs1 (H.set (Int.toNat 0) ((H.getD (Int.toNat 0) 0 - c).fmod 3329)) → (H.set (Int.toNat 0) ((H.getD (Int.toNat 0) 0 - c).fmod 3329)).length = 256 → (∀ p ∈ R, p.1 < c1) → c1 < dx1 → dx1 < x1 → Q (.ref x1) { s with heap := h, toks := tk }) :
    wpAny (model PySem.Challenge.rw_yi0009_01.row.prog w) A (call (.ref 165) [.ref xh, .int c tc]) Q E s := by
  obtain ⟨hx, hdx, hr₁, hdr, hz⟩ := HS
  have kMark : KstMark := kstMark
  obtain ⟨A1, A2, A3, A4, A5⟩ := A
  (have hA' : A3 = some (env :: outer) := hA)
  subst hA'
  clear hA
  refine wpAny_call ?_
  walk_at "ENTER"
  k_steps
  all_goals (try k_data)
  with_reducible rename Fr _ _ _ _ => lF
  with_reducible rename News _ _ _ _ => lN
  with_reducible rename And _ (AllLt _ _) => lA
  with_reducible rename And _ (And _ (AllLt _ _)) => lB
  with_reducible rename _ < _ => lC
  exact hret _ _ _ _ _ _ _ _ _ lF (news_sub lN (by kcf_all)) (by l_ints) (by rw [List.length_set]; exact hHlen) (allLt_mem lA.2) lB.1 lC
theorem add_N (B : Below A₀ base outer h₀) (F : Fr h₀ L s.heap m) (X : (hd.heap_1 w.params).In h₀) (N : News h₀ L s.heap R) (T : Top p loose mean mg mb h₀) (hA : A.frames = some (env :: outer)) (hF : env.frame = some L) (hK : env.scope.kind = .function) (hdp : A.depth + 15 < recursionLimit)
    (HS : Has w R 426 xh dxh ch r dr zl zvs nz t1 t2 u1 u2 u3 u4 u5 u6 u7) (hch : (ch, W.listOf hvs.toArray nh) ∈ R) (hh : IntsAre hvs H) (hHlen : H.length = 256)
    (hret : ∀ x1 dx1 c1 q1 q2 vs1 n1 h tk, Fr h₀ L h m → News h₀ L h ((x1, instObj 426 dx1) :: (dx1, dictOf (polyD w r c1 q1 q2) 2) :: (c1, W.listOf vs1.toArray n1) :: R) → IntsAre vs1 (H.set (Int.toNat 0) ((H.getD (Int.toNat 0) 0 + c).fmod 3329)) → (H.set (Int.toNat 0) ((H.getD (Int.toNat 0) 0 + c).fmod 3329)).length = 256 → (∀ p ∈ R, p.1 < c1) → c1 < dx1 → dx1 < x1 → Q (.ref x1) { s with heap := h, toks := tk }) :
    wpAny (model PySem.Challenge.rw_yi0009_01.row.prog w) A (call (.ref 411) [.ref xh, .int c tc]) Q E s := by
  obtain ⟨hx, hdx, hr₁, hdr, hz⟩ := HS
  have kMark : KstMark := kstMark
  obtain ⟨A1, A2, A3, A4, A5⟩ := A
  (have hA' : A3 = some (env :: outer) := hA)
  subst hA'
  clear hA
  refine wpAny_call ?_
  walk_at "ENTER"
  k_steps
  all_goals (try k_data)
  with_reducible rename Fr _ _ _ _ => lF
  with_reducible rename News _ _ _ _ => lN
  with_reducible rename And _ (AllLt _ _) => lA
  with_reducible rename And _ (And _ (AllLt _ _)) => lB
  with_reducible rename _ < _ => lC
  exact hret _ _ _ _ _ _ _ _ _ lF (news_sub lN (by kcf_all)) (by l_ints) (by rw [List.length_set]; exact hHlen) (allLt_mem lA.2) lB.1 lC
theorem sub_N (B : Below A₀ base outer h₀) (F : Fr h₀ L s.heap m) (X : (hd.heap_1 w.params).In h₀) (N : News h₀ L s.heap R) (T : Top p loose mean mg mb h₀) (hA : A.frames = some (env :: outer)) (hF : env.frame = some L) (hK : env.scope.kind = .function) (hdp : A.depth + 15 < recursionLimit)
    (HS : Has w R 426 xh dxh ch r dr zl zvs nz t1 t2 u1 u2 u3 u4 u5 u6 u7) (hch : (ch, W.listOf hvs.toArray nh) ∈ R) (hh : IntsAre hvs H) (hHlen : H.length = 256)
    (hret : ∀ x1 dx1 c1 q1 q2 vs1 n1 h tk, Fr h₀ L h m → News h₀ L h ((x1, instObj 426 dx1) :: (dx1, dictOf (polyD w r c1 q1 q2) 2) :: (c1, W.listOf vs1.toArray n1) :: R) → IntsAre vs1 (H.set (Int.toNat 0) ((H.getD (Int.toNat 0) 0 - c).fmod 3329)) → (H.set (Int.toNat 0) ((H.getD (Int.toNat 0) 0 - c).fmod 3329)).length = 256 → (∀ p ∈ R, p.1 < c1) → c1 < dx1 → dx1 < x1 → Q (.ref x1) { s with heap := h, toks := tk }) :
    wpAny (model PySem.Challenge.rw_yi0009_01.row.prog w) A (call (.ref 418) [.ref xh, .int c tc]) Q E s := by
  obtain ⟨hx, hdx, hr₁, hdr, hz⟩ := HS
  have kMark : KstMark := kstMark
  obtain ⟨A1, A2, A3, A4, A5⟩ := A
  (have hA' : A3 = some (env :: outer) := hA)
  subst hA'
  clear hA
  refine wpAny_call ?_
  walk_at "ENTER"
  k_steps
  all_goals (try k_data)
  with_reducible rename Fr _ _ _ _ => lF
  with_reducible rename News _ _ _ _ => lN
  with_reducible rename And _ (AllLt _ _) => lA
  with_reducible rename And _ (And _ (AllLt _ _)) => lB
  with_reducible rename _ < _ => lC
  exact hret _ _ _ _ _ _ _ _ _ lF (news_sub lN (by kcf_all)) (by l_ints) (by rw [List.length_set]; exact hHlen) (allLt_mem lA.2) lB.1 lC
theorem op_ok {f C : Addr} {g : Int → Int → Int} (B : Below A₀ base outer h₀) (F : Fr h₀ L s.heap m) (X : (hd.heap_1 w.params).In h₀) (N : News h₀ L s.heap R) (T : Top p loose mean mg mb h₀) (hA : A.frames = some (env :: outer)) (hF : env.frame = some L) (hK : env.scope.kind = .function) (hdp : A.depth + 15 < recursionLimit)
    (hop : OpRow f C g) (HS : Has w R C xh dxh ch r dr zl zvs nz t1 t2 u1 u2 u3 u4 u5 u6 u7) (hch : (ch, W.listOf hvs.toArray nh) ∈ R) (hh : IntsAre hvs H) (hHlen : H.length = 256)
    (hret : ∀ x1 dx1 c1 q1 q2 vs1 n1 h tk, Fr h₀ L h m → News h₀ L h ((x1, instObj C dx1) :: (dx1, dictOf (polyD w r c1 q1 q2) 2) :: (c1, W.listOf vs1.toArray n1) :: R) → IntsAre vs1 (H.set (Int.toNat 0) (g (H.getD (Int.toNat 0) 0) c)) → (H.set (Int.toNat 0) (g (H.getD (Int.toNat 0) 0) c)).length = 256 → (∀ p ∈ R, p.1 < c1) → c1 < dx1 → dx1 < x1 → Q (.ref x1) { s with heap := h, toks := tk }) :
    wpAny (model PySem.Challenge.rw_yi0009_01.row.prog w) A (call (.ref f) [.ref xh, .int c tc]) Q E s := by
  cases hop
  · exact add_P B F X N T hA hF hK hdp HS hch hh hHlen hret
  · exact sub_P B F X N T hA hF hK hdp HS hch hh hHlen hret
  · exact add_N B F X N T hA hF hK hdp HS hch hh hHlen hret
  · exact sub_N B F X N T hA hF hK hdp HS hch hh hHlen hret
end
end
local macro_rules | `(tactic| walk_at "call ref") => `(tactic| (k_here; (with_reducible show wpAny _ _ (call (Value.ref _) [Value.ref _, Value.int _ _] []) _ _ _); k_dflt (refine' op_ok ?k1 ?k2 ?k3 ?k4 ?k5 ?k6 ?k7 ?k8 ?k9 ?k0 ?k10 ?k11 ?k12 ?k13 ?_; (case k0 => first | exact .addP | exact .subP | exact .addN | exact .subN); (case k6 => first | exact rfl | assumption); (case k7 => first | exact rfl | assumption); (case k8 => first | assumption | exact rfl); (case k1 => k_asm); (case k2 => k_asm); (case k3 => k_asm); (case k4 => k_asm); (case k5 => k_asm); (case k9 => k_room); (case k10 => exact ⟨by k_mem, by k_mem, by k_mem, by k_mem, by k_mem⟩); (case k11 => k_mem); (case k12 => l_ints); (case k13 => walk_at "LEN"); k_whole; intro x1' dx1' c1' q1' q2' vs1' n1' h' tk' F' N' i' e' l1 l2 l3; (try k_lt l1); (try k_lt2 l2); (try k_lt2 l3); (try dsimp only at N' i' e'); (try k_sweep); (try dsimp only [W.CmpBack]))))
theorem reset_K3 {prog : PySem.Program} {w : PySem.World} {A : PySem.Around} {E : PySem.Value → PySem.Shared → Prop} {Q : PySem.Value → PySem.Shared → Prop} {s : PySem.Shared} (h : Q .none s) : PySem.wpAny (PySem.model prog w) A (pure .none) Q E s := by
  w_top off
  first
  | (walk1; fail "reset")
  | exact PySem.wpAny_pure h
section -- K3
inductive NegRow : Addr → Prop
  | P : NegRow 350
  | N : NegRow 426
section
variable {w : World} {p : Program} {loose : List Str} {mean : ExcName → Option Value} {mg mb : Str → Option Value} {outer : List Env} {A A₀ : Around} {env : Env} {base h₀ : Heap} {L : Addr} {s : Shared} {Q E : Value → Shared → Prop}
  {R : List (Addr × Obj)} {m : Str → Option Value} {r dr zl xh dxh ch : Addr} {t t1 t2 u1 u2 u3 u4 u5 u6 u7 : Tok} {zvs hvs : List Value} {nz nh : Nat} {H : List Int}
theorem neg_P (B : Below A₀ base outer h₀) (F : Fr h₀ L s.heap m) (X : (hd.heap_1 w.params).In h₀) (N : News h₀ L s.heap R) (T : Top p loose mean mg mb h₀) (hA : A.frames = some (env :: outer)) (hF : env.frame = some L) (hK : env.scope.kind = .function) (hH : A.handled = none) (hdp : A.depth + 15 < recursionLimit)
    (HS : Has w R 350 xh dxh ch r dr zl zvs nz t1 t2 u1 u2 u3 u4 u5 u6 u7) (hch : (ch, W.listOf hvs.toArray nh) ∈ R) (hh : IntsAre hvs H) (hHlen : H.length = 256)
    (hret : ∀ x1 dx1 c1 q1 q2 vs1 n1 h tk, Fr h₀ L h m → News h₀ L h ((x1, instObj 350 dx1) :: (dx1, dictOf (polyD w r c1 q1 q2) 2) :: (c1, W.listOf vs1.toArray n1) :: R) → IntsAre vs1 (H.map fun x => (-x).fmod 3329) → (H.map fun x => (-x).fmod 3329).length = 256 → Q (.ref x1) { s with heap := h, toks := tk }) :
    wpAny (model PySem.Challenge.rw_yi0009_01.row.prog w) A (call (.ref 127) [.ref xh]) Q E s := by
  obtain ⟨hx, hdx, hr₁, hdr, hz⟩ := HS
  have kMark : KstMark := kstMark
  obtain ⟨A1, A2, A3, A4, A5⟩ := A
  (have hA' : A3 = some (env :: outer) := hA)
  subst hA'
  clear hA
  (have hH' : A1 = none := hH)
  subst hH'
  clear hH
  refine wpAny_call ?_
  walk_at "ENTER"
  k_steps
  all_goals (try k_data)
  with_reducible rename Fr _ _ _ _ => lF
  with_reducible rename News _ _ _ _ => lN
  exact hret _ _ _ _ _ _ _ _ _ lF (news_sub lN (by kcf_all)) (by l_ints) (by rw [List.length_map]; exact hHlen)
theorem neg_N (B : Below A₀ base outer h₀) (F : Fr h₀ L s.heap m) (X : (hd.heap_1 w.params).In h₀) (N : News h₀ L s.heap R) (T : Top p loose mean mg mb h₀) (hA : A.frames = some (env :: outer)) (hF : env.frame = some L) (hK : env.scope.kind = .function) (hH : A.handled = none) (hdp : A.depth + 15 < recursionLimit)
    (HS : Has w R 426 xh dxh ch r dr zl zvs nz t1 t2 u1 u2 u3 u4 u5 u6 u7) (hch : (ch, W.listOf hvs.toArray nh) ∈ R) (hh : IntsAre hvs H) (hHlen : H.length = 256)
    (hret : ∀ x1 dx1 c1 q1 q2 vs1 n1 h tk, Fr h₀ L h m → News h₀ L h ((x1, instObj 350 dx1) :: (dx1, dictOf (polyD w r c1 q1 q2) 2) :: (c1, W.listOf vs1.toArray n1) :: R) → IntsAre vs1 (H.map fun x => (-x).fmod 3329) → (H.map fun x => (-x).fmod 3329).length = 256 → Q (.ref x1) { s with heap := h, toks := tk }) :
    wpAny (model PySem.Challenge.rw_yi0009_01.row.prog w) A (call (.ref 127) [.ref xh]) Q E s := by
  obtain ⟨hx, hdx, hr₁, hdr, hz⟩ := HS
  have kMark : KstMark := kstMark
  obtain ⟨A1, A2, A3, A4, A5⟩ := A
  (have hA' : A3 = some (env :: outer) := hA)
  subst hA'
  clear hA
  (have hH' : A1 = none := hH)
  subst hH'
  clear hH
  refine wpAny_call ?_
  walk_at "ENTER"
  k_steps
  all_goals (try k_data)
  with_reducible rename Fr _ _ _ _ => lF
  with_reducible rename News _ _ _ _ => lN
  exact hret _ _ _ _ _ _ _ _ _ lF (news_sub lN (by kcf_all)) (by l_ints) (by rw [List.length_map]; exact hHlen)
theorem neg_ok {C : Addr} (B : Below A₀ base outer h₀) (F : Fr h₀ L s.heap m) (X : (hd.heap_1 w.params).In h₀) (N : News h₀ L s.heap R) (T : Top p loose mean mg mb h₀) (hA : A.frames = some (env :: outer)) (hF : env.frame = some L) (hK : env.scope.kind = .function) (hH : A.handled = none) (hdp : A.depth + 15 < recursionLimit)
    (hop : NegRow C) (HS : Has w R C xh dxh ch r dr zl zvs nz t1 t2 u1 u2 u3 u4 u5 u6 u7) (hch : (ch, W.listOf hvs.toArray nh) ∈ R) (hh : IntsAre hvs H) (hHlen : H.length = 256)
    (hret : ∀ x1 dx1 c1 q1 q2 vs1 n1 h tk, Fr h₀ L h m → News h₀ L h ((x1, instObj 350 dx1) :: (dx1, dictOf (polyD w r c1 q1 q2) 2) :: (c1, W.listOf vs1.toArray n1) :: R) → IntsAre vs1 (H.map fun x => (-x).fmod 3329) → (H.map fun x => (-x).fmod 3329).length = 256 → Q (.ref x1) { s with heap := h, toks := tk }) :
    wpAny (model PySem.Challenge.rw_yi0009_01.row.prog w) A (call (.ref 127) [.ref xh]) Q E s := by
  cases hop
  · exact neg_P B F X N T hA hF hK hH hdp HS hch hh hHlen hret
  · exact neg_N B F X N T hA hF hK hH hdp HS hch hh hHlen hret
theorem rc_1 (B : Below A₀ base outer h₀) (F : Fr h₀ L s.heap m) (X : (hd.heap_1 w.params).In h₀) (N : News h₀ L s.heap R) (T : Top p loose mean mg mb h₀) (hA : A.frames = some (env :: outer)) (hF : env.frame = some L) (hK : env.scope.kind = .function) (hH : A.handled = none) (hdp : A.depth + 15 < recursionLimit)
    (hr : (r, instObj 282 dr) ∈ R) (hdr : (dr, dictOf (ringD w zl u1 u2 u3 u4 u5 u6 u7) 4) ∈ R)
    (hret : ∀ x1 dx1 c1 q1 q2 vs1 n1 h tk, Fr h₀ L h m → News h₀ L h ((x1, instObj 350 dx1) :: (dx1, dictOf (polyD w r c1 q1 q2) 2) :: (c1, W.listOf vs1.toArray n1) :: R) → IntsAre vs1 ([1] ++ List.replicate 255 0) → Q (.ref x1) { s with heap := h, toks := tk }) :
    wpAny (model PySem.Challenge.rw_yi0009_01.row.prog w) A (call (.ref r) [.int 1 t]) Q E s := by
  have kMark : KstMark := kstMark
  obtain ⟨A1, A2, A3, A4, A5⟩ := A
  (have hA' : A3 = some (env :: outer) := hA)
  subst hA'
  clear hA
  (have hH' : A1 = none := hH)
  subst hH'
  clear hH
  refine wpAny_call ?_
  refine' kco_code ?k1 ?k2 ?k3 ?k4 ?k5 ?k6 ?_
  case k1 => k_in
  case k2 => k_inst
  case k3 => rfl
  case k4 => k_is
  case k5 => k_is
  case k6 => k_is
  (try dsimp only)
  walk_at "ENTER"
  k_steps
  all_goals (try k_data)
  with_reducible rename Fr _ _ _ _ => lF
  with_reducible rename News _ _ _ _ => lN
  exact hret _ _ _ _ _ _ _ _ _ lF (news_sub lN (by kcf_all)) (by first | assumption | l_ints)
end
end
local macro_rules | `(tactic| walk_at "call ref") => `(tactic| (k_here; (with_reducible show wpAny _ _ (call (Value.ref 127) [Value.ref _] []) _ _ _); k_dflt (refine' neg_ok ?k1 ?k2 ?k3 ?k4 ?k5 ?k6 ?k7 ?k8 ?kh ?k9 ?k0 ?k10 ?k11 ?k12 ?k13 ?_; (case k6 => first | exact rfl | assumption); (case k7 => first | exact rfl | assumption); (case k8 => first | assumption | exact rfl); (case kh => first | exact rfl | assumption); (case k1 => k_asm); (case k2 => k_asm); (case k3 => k_asm); (case k4 => k_asm); (case k5 => k_asm); (case k9 => k_room); (case k10 => exact ⟨by k_mem, by k_mem, by k_mem, by k_mem, by k_mem⟩); (case k0 => first | exact .P | exact .N); (case k11 => k_mem); (case k12 => l_ints); (case k13 => walk_at "LEN"); k_whole; intro x1' dx1' c1' q1' q2' vs1' n1' h' tk' F' N' i' e'; (try dsimp only at N'); (try k_sweep); (try dsimp only [W.CmpBack]))))
local macro_rules | `(tactic| walk_at "call ref") => `(tactic| (k_here; (with_reducible show wpAny _ _ (call (Value.ref _) ([Value.int _ _] ++ []) []) _ _ _); kco_here; k_dflt (refine' rc_1 ?k1 ?k2 ?k3 ?k4 ?k5 ?k6 ?k7 ?k8 ?kh ?k9 ?k10 ?k11 ?_; (case k6 => first | exact rfl | assumption); (case k7 => first | exact rfl | assumption); (case k8 => first | assumption | exact rfl); (case kh => first | exact rfl | assumption); (case k1 => k_asm); (case k2 => k_asm); (case k3 => k_asm); (case k4 => k_asm); (case k5 => k_asm); (case k9 => k_room); (case k10 => k_mem); (case k11 => k_mem); k_whole; intro x1' dx1' c1' q1' q2' vs1' n1' h' tk' F' N' i'; (try dsimp only at N'); (try k_sweep))))
theorem reset_C4 {prog : PySem.Program} {w : PySem.World} {A : PySem.Around} {E : PySem.Value → PySem.Shared → Prop} {Q : PySem.Value → PySem.Shared → Prop} {s : PySem.Shared} (h : Q .none s) : PySem.wpAny (PySem.model prog w) A (pure .none) Q E s := by
  w_top off
  first
  | (walk1; fail "reset")
  | exact PySem.wpAny_pure h
section -- C4
section
variable {w : World} {p : Program} {loose : List Str} {mean : ExcName → Option Value} {mg mb : Str → Option Value} {dp un : Nat} {gd : Option (List Code)} {cn : Str} {cs : Scope} {a : Addr} {ccd : Value} {cl : List (Str × Addr)} {outer : List Env} {A₀ : Around} {base h₀ : Heap} {L : Addr} {m : Str → Option Value} {news : List (Addr × Obj)} {s : Shared} {Q E : Value → Shared → Prop}
theorem thick_ok {y dy cy r P : Addr} {R : List (Addr × Obj)} {vs : List Value} {ns : List Int} {n : Nat} {ps : Array Value} {q1 q2 : Tok} (B : Below A₀ base outer h₀) (F : Fr h₀ L s.heap m) (X : (hd.heap_1 w.params).In h₀) (N : News h₀ L s.heap ((P, tabO ps) :: R)) (T : Top p loose mean mg mb h₀) (hcs : cs.kind = .function)
    (hdp : dp + 10 < 1000) (hu : un + 100 < 9900) (hCA : CodeHere h₀ 446 P) (htr : TriplesOk ps.toList) (hPR : ∀ p ∈ R, p.1 ≠ P) (hy : (y, instObj 350 dy) ∈ R) (hdy : (dy, dictOf (polyD w r cy q1 q2) 2) ∈ R) (hcy : (cy, W.listOf vs.toArray n) ∈ R) (hi : IntsAre vs ns) (hlen : ns.length = 256) (hb : ∀ x ∈ ns, 0 ≤ x ∧ x < 3329) (hg : AllBare s.gens)
    (hret : ∀ D s' ps' ys k, Fr h₀ L s'.heap m → News h₀ L s'.heap ((D, W.listOf ys.toArray k) :: (P, tabO ps') :: R) → TriplesOk ps'.toList → AllBare s'.gens → s'.os = s.os → IntsAre ys (ns.map fun x => (128 * x).fmod 3329) → Q (.ref D) s') :
    wpAny (model PySem.Challenge.rw_yi0009_01.row.prog w) (ktrTop dp un gd cn cs L a ccd cl outer) (call (.ref 447) [.ref y]) Q E s := by
  refine wpAny_call ?_
  have kMark : KstMark := kstMark
  walk_at "ENTER"
  repeat' (first | ((fail_if_success (with_reducible show wpAny _ _ (eval (PySem.Expr.GeneratorExp _ _ _ _) _) _ _ _)); first | (k_unfold; (try dsimp only)) | (k_end; wrow_close) | walk1 | (dsimp only; walk1) | (leave1; walk_say "STEP leave1"; try dsimp only)))
  with_reducible rename Fr _ _ _ _ => lF
  with_reducible rename News _ _ _ _ => lN
  with_reducible rename Top _ _ _ _ _ _ => lT
  obtain ⟨bm, ob, hb1, hb2, hb3, hb4, hb5, hb6⟩ := lT.bmain
  refine my_genexp (c := 446) (P := P) (ps := ps) (R := R) lF (hCA.keeps (Fr.keep (by assumption))) htr ⟨lT.g, hb1, hb2, hb3, hb4, hb5, hb6⟩ lT.nolimit rfl rfl rfl rfl (by decide) rfl rfl rfl (by k_room) (fun p hp => hPR p hp) ?_ (fun _ => rfl)
  repeat' ((with_reducible show wpAny _ _ _ _ _ _); first | walk1 | (dsimp only; walk1))
  refine ⟨cy, vs.toArray, fun _ y => y = .bool true, rfl, lN.isList (.tail _ hcy), lF, hg, lN, hPR _ hcy, ?_, ?_⟩
  · intro code C A' E' i v t m₂ hA hD hU hv hn hm
    have hv' : vs[i]? = some v := by simpa using hv
    have hil : i < ns.length := by
      rw [← hi.length]
      exact (List.getElem?_eq_some_iff.mp hv').1
    obtain ⟨tx, htx⟩ := hi.get i ns[i] (by simp [hil])
    rw [htx] at hv'
    have hbx := hb ns[i] (List.getElem_mem hil)
    generalize ns[i] = nx at hv' hbx
    cases hv'
    repeat' ((with_reducible show wpAny _ _ _ _ _ _); first | ((with_reducible show wpAny _ _ (eval (PySem.Expr.Name _ _) _) _ _ _); refine wpAny_Name (wpAny_loadName_local rfl rfl hn hm ?_)) | walk1 | (dsimp only; walk1))
    refine ite_pos (by simpa using hbx.1) ?_
    repeat' ((with_reducible show wpAny _ _ _ _ _ _); first | ((with_reducible show wpAny _ _ (eval (PySem.Expr.Name _ _) _) _ _ _); refine wpAny_Name (wpAny_loadName_local rfl rfl hn hm ?_)) | walk1 | (dsimp only; walk1))
    exact ⟨by simpa using hbx.2, _, _, rfl, fun _ _ e => e⟩
  · intro a1 s₅ ps' K F5 G5 hos N5 htr' hLK hK X5
    clear lF lN
    repeat' ((with_reducible show wpAny _ _ _ _ _ _); (fail_if_success (with_reducible show wpAny _ _ (call (Value.builtin "all") _) _ _ _)); first | walk1 | (dsimp only; walk1))
    refine my_all F5 G5 X5 hLK N5 hK ?_
    clear F5 N5 X5 hK
    intro s6 F6 G6 hos6 N6
    obtain ⟨hp6, g6, d6, tk6, os6⟩ := s6
    dsimp only at F6 G6 hos6 N6
    repeat' (first | ((fail_if_success (with_reducible show wpAny _ _ (eval (PySem.Expr.ListComp _ _ _) _) _ _ _)); (fail_if_success (with_reducible show wpAny _ _ (eval (PySem.Expr.ListComp _ _ _ _) _) _ _ _)); first | (k_unfold; (try dsimp only)) | (k_end; wrow_close) | walk1 | (dsimp only; walk1) | (leave1; walk_say "STEP leave1"; try dsimp only)))
    refine LCg.ListComp_U (F₀ := by k_asm) (by with_unfolding_all rfl) (by decide) (by rfl) (by decide) (by rfl) ?_
    repeat' ((with_reducible show wpAny _ _ _ _ _ _); first | (k_unfold; (try dsimp only)) | walk1 | (dsimp only; walk1) | (leave1; walk_say "STEP leave1"; try dsimp only))
    refine LCg.CompSrc.ledger (by rfl) (by k_asm) (by k_asm) (by k_mem) (sz256 (by assumption) (by assumption)) ?_
    intro g'
    refine' kcf_list (fun x => (128 * x).fmod 3329) (by assumption) (fun k' t' I' oI' C' oC' D' m' ys' h' tk' E' hk' hC' hx' F' N' off' ne' hMark' => ?_) ?_
    · k_steps
    · unfold KPfDone
      intro ys hys
      unfold LCg.FinE
      intro D' h'' tk'' F'' N'' o1'
      k_steps
      exact hret _ _ ps' _ _ (by k_asm) (by k_asm) htr' (by assumption) (by dsimp only; rw [hos6, hos]) hys
end
end
theorem reset_C5 {prog : PySem.Program} {w : PySem.World} {A : PySem.Around} {E : PySem.Value → PySem.Shared → Prop} {Q : PySem.Value → PySem.Shared → Prop} {s : PySem.Shared} (h : Q .none s) : PySem.wpAny (PySem.model prog w) A (pure .none) Q E s := by
  w_top off
  first
  | (walk1; fail "reset")
  | exact PySem.wpAny_pure h
section -- C5
theorem enter_try {prog : Program} {w : World} {A A₀ : Around} {s : Shared} {base h₀ : Heap} {L : Addr} {m mg mb : Str → Option Value} {news : List (Addr × Obj)} {K : Frag} {p : Program} {loose : List Str} {mean : ExcName → Option Value} {env : Env} {R : Result → Shared → Prop} {name qual : Str} {params : Arguments} {body : List Stmt} {scope : Scope} {dV kV doc pm cdv ct oc : Value} {an od : Option Addr} {osl : Array (Option Value)} {f : Addr} {args : Args} {binds : List (Str × Value)}
    (B : Below A₀ base [] h₀) (F : Fr h₀ L s.heap m) (X₀ : K.In h₀) (N : News h₀ L s.heap news) (T : Top p loose mean mg mb h₀) (hA : A.frames = some [env]) (hf : env.frame = some L) (hke : env.scope.kind = .function)
    (ho : K.lookup f = some ⟨oc, od, .func (fnOf name qual params body scope dV kV doc pm an cdv ct), osl⟩) (hcd : codeIn K cdv qual = true) (hroom : A.depth < recursionLimit)
    (hbind : BindsTo s (fnOf name qual params body scope dV kV doc pm an cdv ct) args binds) (hloc : ∀ y ∈ binds, scope.names.lookup y.1 = some .local)
    (h : ∀ g L' h₁, Fr h₀ L g m → Fr g L' h₁ (fun y => binds.reverse.lookup y) → News g L' h₁ news → Below A base [env] g → K.In g → Top p loose mean mg mb g → KtsDicts ([env].filterMap (·.frame)) g →
      wpAny (model prog w) (A.deeper (envOf qual scope L' f cdv)) (execs body (envOf qual scope L' f cdv))
        (fun fl s' => LeaveS0 ([env].filterMap (·.frame)) h₀ L m g R (match fl with | .ret v => v | _ => .none) s')
        (fun e s' => wpAny (model prog w) (A.deeper (envOf qual scope L' f cdv)) (leaving (envOf qual scope L' f cdv) e) (fun _ s'' => R (.error e) s'') (fun e' s'' => R (.error e') s'') s')
        { s with heap := h₁, toks := s.toks + binds.length })
    (hco : scope.isCoroutine = false) (hgen : scope.isGenerator = false) (hk : scope.kind = .function)
    (hcell : ∀ x ∈ scope.names, x.2 ≠ .cell) : codeAny (model prog w) A (.call (.ref f) args) R s := by
  obtain ⟨FG, BG, st, _⟩ := groundX (R := R) B F N hA hf hke
  have X := X₀.keeps F.keep
  have hfs : [env].filterMap (·.frame) = [L] := by simp [hf]
  obtain ⟨oL, es, ep, hL, hd, hk1, hk2⟩ := FG.ns
  refine codeAny_call_def (fd := fnOf name qual params body scope dV kV doc pm an cdv ct) (body := body) (binds := binds) hroom (X _ _ ho) rfl (T.nolimit.keeps F.keep) (codeRec_of X hcd) rfl hbind hcell hloc (fun h₁ hns hk₁ => ?_) hco hgen hk
  refine wpAny_mono (h _ s.heap.objs.size h₁ FG ⟨hns, fun b o e => hk₁ b o (of_hideAll _ e), Nat.le_of_eq (hideAll_size _ _)⟩
    (fun p hp => ⟨hk₁ _ _ (N p hp).1, Nat.ne_of_lt (Heap.lt_size (N p hp).1), hideAll_none _ (List.mem_map_of_mem hp)⟩) BG (X₀.keeps st) (T.keeps st) (by rw [hfs]; intro b hb; cases List.mem_singleton.mp hb; exact ⟨oL, es, ep, hL, hd⟩)) (fun fl s' hl => ?_) fun _ _ y => y
  rw [hfs] at hl
  obtain ⟨g', L', m', news', T', F', N', k⟩ := hl
  have nL : h₀.get? L = none := by
    cases q : h₀.get? L with
    | none => rfl
    | some o => exact absurd (Nat.lt_of_lt_of_le (Heap.lt_size q) F.above) (Nat.lt_irrefl _)
  obtain ⟨sl, hs⟩ := T'.frame L oL hL (List.mem_singleton.mpr rfl)
  refine k ⟨⟨_, es, ep, F'.keep _ _ hs, hd, hk1, hk2⟩, fun b o e => F'.keep b o (T'.other b o (st b o e) fun q => ?_), F.above⟩ fun p hp => ⟨(N' p hp).1, fun q => ?_, ?_⟩
  · rw [List.mem_singleton.mp q, nL] at e
    cases e
  · have := (N' p hp).2.2
    rw [q, hs] at this
    cases this
  · cases q : h₀.get? p.1 with
    | none => rfl
    | some o =>
      have e : g'.get? p.1 = some o := T'.other _ _ (st _ _ q) fun z => by
        rw [List.mem_singleton.mp z, nL] at q
        cases q
      rw [(N' p hp).2.2] at e
      cases e
section
variable {w : World} {p : Program} {loose : List Str} {mean : ExcName → Option Value} {mg mb : Str → Option Value} {dp un : Nat} {gd : Option (List Code)} {cn : Str} {cs : Scope} {a : Addr} {ccd : Value} {cl : List (Str × Addr)} {A₀ : Around} {base h₀ : Heap} {L : Addr} {m : Str → Option Value} {s : Shared} {Q E : Value → Shared → Prop}
theorem noway_ok {x dx r c1 : Addr} {q1 q2 : Tok} {R : List (Addr × Obj)} (B : Below A₀ base [] h₀) (F : Fr h₀ L s.heap m) (X : (hd.heap_1 w.params).In h₀) (N : News h₀ L s.heap R) (T : Top p loose mean mg mb h₀) (XB : (hd.heap_1 w.params).In base) (TB : Top p loose mean mg mb base) (hcs : cs.kind = .function)
    (hdp : dp + 10 < 1000) (hu : un + 100 < 9900) (hx : (x, instObj 350 dx) ∈ R) (hdx : (dx, dictOf (polyD w r c1 q1 q2) 2) ∈ R)
    (hret : ∀ h' tk', Fr h₀ L h' m → News h₀ L h' R → Q (.bool true) { s with heap := h', toks := tk' }) :
    wpAny (model PySem.Challenge.rw_yi0009_01.row.prog w) (ktrTop dp un gd cn cs L a ccd cl []) (call (.ref 442) [.ref x]) Q E s := by
  refine wpAny_call ?_
  have kMark : KstMark := kstMark
  refine' enter_try ?k1 ?k2 ?k3 ?k4 ?k5 ?kA ?kF ?kK ?k6 ?k7 ?k8 ?k9 ?kB ?_ ?c2 ?c3 ?c4 ?c5; (case kA => exact rfl); (case kF => exact rfl); (case kK => assumption); (case k1 => k_asm); (case k2 => k_asm); (case k3 => k_asm); (case k4 => k_asm); (case k5 => k_asm); (case k6 => k_is); (case k7 => k_is); (case k8 => k_room); (case k9 => first | exact BindsTo.of_eq rfl | exact binds_K (by k_in) rfl (by k_is) rfl rfl rfl); (case c5 => decide); (case kB => exact locs rfl); (case c2 => exact rfl); (case c3 => exact rfl); (case c4 => exact rfl); k_whole; intro g' L' h' FG' F' N' B' X' T' D'; (try dsimp only); (try k_lift B'); (try k_fold)
  k_steps
  exact hret _ _ (by k_asm) (by k_asm)
end
end
theorem reset_C6 {prog : PySem.Program} {w : PySem.World} {A : PySem.Around} {E : PySem.Value → PySem.Shared → Prop} {Q : PySem.Value → PySem.Shared → Prop} {s : PySem.Shared} (h : Q .none s) : PySem.wpAny (PySem.model prog w) A (pure .none) Q E s := by
  w_top off
  first
  | (walk1; fail "reset")
  | exact PySem.wpAny_pure h
section -- C6
section
variable {w : World} {p : Program} {loose : List Str} {mean : ExcName → Option Value} {mg mb : Str → Option Value} {dp un : Nat} {gd : Option (List Code)} {cn : Str} {cs : Scope} {fa : Addr} {ccd : Value} {cl : List (Str × Addr)} {outer : List Env} {A₀ : Around} {base h₀ : Heap} {L : Addr} {s : Shared} {Q E : Value → Shared → Prop}
  {R : List (Addr × Obj)} {m : Str → Option Value} {r dr zl xh dxh ch : Addr} {c : Int} {tc t1 t2 u1 u2 u3 u4 u5 u6 u7 : Tok} {zvs hvs : List Value} {nz nh : Nat} {H : List Int}
theorem bin_C6 (B : Below A₀ base outer h₀) (F : Fr h₀ L s.heap m) (X : (hd.heap_1 w.params).In h₀) (N : News h₀ L s.heap R) (T : Top p loose mean mg mb h₀) (hcs : cs = lawS w)
    (hdp : dp + 20 < 1000) (hu : un + 200 < 9900) (HS : Has w R 426 xh dxh ch r dr zl zvs nz t1 t2 u1 u2 u3 u4 u5 u6 u7) (hch : (ch, W.listOf hvs.toArray nh) ∈ R) (hh : IntsAre hvs H) (hHlen : H.length = 256)
    (hret : ∀ x1 dx1 c1 q1 q2 vs1 n1 h tk, Fr h₀ L h m → News h₀ L h ((x1, instObj 426 dx1) :: (dx1, dictOf (polyD w r c1 q1 q2) 2) :: (c1, W.listOf vs1.toArray n1) :: R) → IntsAre vs1 (H.set (Int.toNat 0) ((H.getD (Int.toNat 0) 0 + c).fmod 3329)) → (∀ p ∈ R, p.1 < c1) → c1 < dx1 → dx1 < x1 → Q (.ref x1) { s with heap := h, toks := tk }) :
    wpAny (model PySem.Challenge.rw_yi0009_01.row.prog w) (ktrTop dp un gd cn cs L fa ccd cl outer) (binaryOp .Add (.ref xh) (.int c tc)) Q E s := by
  obtain ⟨hx, hdx, hr₁, hdr, hz⟩ := HS
  have kMark : KstMark := kstMark
  unfold lawS at *
  (rename _ = scopeAt _ _ => hcs)
  conv at hcs => rhs; whnf
  subst hcs
  k_steps
  all_goals (try k_data)
  with_reducible rename Fr _ _ _ _ => lF
  with_reducible rename News _ _ _ _ => lN
  exact hret _ _ _ _ _ _ _ _ _ lF lN (by assumption) (by assumption) (by assumption) (by assumption)
end
end
theorem reset_C7 {prog : PySem.Program} {w : PySem.World} {A : PySem.Around} {E : PySem.Value → PySem.Shared → Prop} {Q : PySem.Value → PySem.Shared → Prop} {s : PySem.Shared} (h : Q .none s) : PySem.wpAny (PySem.model prog w) A (pure .none) Q E s := by
  w_top off
  first
  | (walk1; fail "reset")
  | exact PySem.wpAny_pure h
section -- C7
section
variable {w : World} {p : Program} {loose : List Str} {mean : ExcName → Option Value} {mg mb : Str → Option Value} {dp un : Nat} {gd : Option (List Code)} {cn : Str} {cs : Scope} {fa : Addr} {ccd : Value} {cl : List (Str × Addr)} {outer : List Env} {A₀ : Around} {base h₀ : Heap} {L : Addr} {s : Shared} {Q E : Value → Shared → Prop}
  {R : List (Addr × Obj)} {m : Str → Option Value} {r dr zl xh dxh ch : Addr} {c : Int} {tc t1 t2 u1 u2 u3 u4 u5 u6 u7 : Tok} {zvs hvs : List Value} {nz nh : Nat} {H : List Int}
theorem bin_C7 (B : Below A₀ base outer h₀) (F : Fr h₀ L s.heap m) (X : (hd.heap_1 w.params).In h₀) (N : News h₀ L s.heap R) (T : Top p loose mean mg mb h₀) (hcs : cs = lawS w)
    (hdp : dp + 20 < 1000) (hu : un + 200 < 9900) (HS : Has w R 426 xh dxh ch r dr zl zvs nz t1 t2 u1 u2 u3 u4 u5 u6 u7) (hch : (ch, W.listOf hvs.toArray nh) ∈ R) (hh : IntsAre hvs H) (hHlen : H.length = 256)
    (hret : ∀ x1 dx1 c1 q1 q2 vs1 n1 h tk, Fr h₀ L h m → News h₀ L h ((x1, instObj 426 dx1) :: (dx1, dictOf (polyD w r c1 q1 q2) 2) :: (c1, W.listOf vs1.toArray n1) :: R) → IntsAre vs1 (H.set (Int.toNat 0) ((H.getD (Int.toNat 0) 0 + c).fmod 3329)) → (∀ p ∈ R, p.1 < c1) → c1 < dx1 → dx1 < x1 → Q (.ref x1) { s with heap := h, toks := tk }) :
    wpAny (model PySem.Challenge.rw_yi0009_01.row.prog w) (ktrTop dp un gd cn cs L fa ccd cl outer) (binaryOp .Add (.int c tc) (.ref xh)) Q E s := by
  obtain ⟨hx, hdx, hr₁, hdr, hz⟩ := HS
  have kMark : KstMark := kstMark
  unfold lawS at *
  (rename _ = scopeAt _ _ => hcs)
  conv at hcs => rhs; whnf
  subst hcs
  k_steps
  all_goals (try k_data)
  with_reducible rename Fr _ _ _ _ => lF
  with_reducible rename News _ _ _ _ => lN
  exact hret _ _ _ _ _ _ _ _ _ lF lN (by assumption) (by assumption) (by assumption) (by assumption)
end
end
theorem reset_C8 {prog : PySem.Program} {w : PySem.World} {A : PySem.Around} {E : PySem.Value → PySem.Shared → Prop} {Q : PySem.Value → PySem.Shared → Prop} {s : PySem.Shared} (h : Q .none s) : PySem.wpAny (PySem.model prog w) A (pure .none) Q E s := by
  w_top off
  first
  | (walk1; fail "reset")
  | exact PySem.wpAny_pure h
section -- C8
section
variable {w : World} {p : Program} {loose : List Str} {mean : ExcName → Option Value} {mg mb : Str → Option Value} {dp un : Nat} {gd : Option (List Code)} {cn : Str} {cs : Scope} {fa : Addr} {ccd : Value} {cl : List (Str × Addr)} {outer : List Env} {A₀ : Around} {base h₀ : Heap} {L : Addr} {s : Shared} {Q E : Value → Shared → Prop}
  {R : List (Addr × Obj)} {m : Str → Option Value} {r dr zl xh dxh ch : Addr} {c : Int} {tc t1 t2 u1 u2 u3 u4 u5 u6 u7 : Tok} {zvs hvs : List Value} {nz nh : Nat} {H : List Int}
theorem bin_C8 (B : Below A₀ base outer h₀) (F : Fr h₀ L s.heap m) (X : (hd.heap_1 w.params).In h₀) (N : News h₀ L s.heap R) (T : Top p loose mean mg mb h₀) (hcs : cs = lawS w)
    (hdp : dp + 20 < 1000) (hu : un + 200 < 9900) (HS : Has w R 426 xh dxh ch r dr zl zvs nz t1 t2 u1 u2 u3 u4 u5 u6 u7) (hch : (ch, W.listOf hvs.toArray nh) ∈ R) (hh : IntsAre hvs H) (hHlen : H.length = 256)
    (hret : ∀ x1 dx1 c1 q1 q2 vs1 n1 h tk, Fr h₀ L h m → News h₀ L h ((x1, instObj 426 dx1) :: (dx1, dictOf (polyD w r c1 q1 q2) 2) :: (c1, W.listOf vs1.toArray n1) :: R) → IntsAre vs1 (H.set (Int.toNat 0) ((H.getD (Int.toNat 0) 0 - c).fmod 3329)) → (∀ p ∈ R, p.1 < c1) → c1 < dx1 → dx1 < x1 → Q (.ref x1) { s with heap := h, toks := tk }) :
    wpAny (model PySem.Challenge.rw_yi0009_01.row.prog w) (ktrTop dp un gd cn cs L fa ccd cl outer) (binaryOp .Sub (.ref xh) (.int c tc)) Q E s := by
  obtain ⟨hx, hdx, hr₁, hdr, hz⟩ := HS
  have kMark : KstMark := kstMark
  unfold lawS at *
  (rename _ = scopeAt _ _ => hcs)
  conv at hcs => rhs; whnf
  subst hcs
  k_steps
  all_goals (try k_data)
  with_reducible rename Fr _ _ _ _ => lF
  with_reducible rename News _ _ _ _ => lN
  exact hret _ _ _ _ _ _ _ _ _ lF lN (by assumption) (by assumption) (by assumption) (by assumption)
end
end
theorem reset_C9 {prog : PySem.Program} {w : PySem.World} {A : PySem.Around} {E : PySem.Value → PySem.Shared → Prop} {Q : PySem.Value → PySem.Shared → Prop} {s : PySem.Shared} (h : Q .none s) : PySem.wpAny (PySem.model prog w) A (pure .none) Q E s := by
  w_top off
  first
  | (walk1; fail "reset")
  | exact PySem.wpAny_pure h
section -- C9
section
variable {w : World} {p : Program} {loose : List Str} {mean : ExcName → Option Value} {mg mb : Str → Option Value} {dp un : Nat} {gd : Option (List Code)} {cn : Str} {cs : Scope} {fa : Addr} {ccd : Value} {cl : List (Str × Addr)} {outer : List Env} {A₀ : Around} {base h₀ : Heap} {L : Addr} {s : Shared} {Q : Flow → Shared → Prop} {E : Value → Shared → Prop}
  {R : List (Addr × Obj)} {m : Str → Option Value} {r dr zl la lm lu ld ln xf dxf cf lr xh dxh ch x1 dx1 c1 : Addr} {c : Int} {tc t1 t2 q1 q2 u1 u2 u3 u4 u5 u6 u7 : Tok} {zvs avs mvs uvs dvs nvs fvs rvs hvs vs1 : List Value} {nz na nm' nu nd nn nf nr nh n1 : Nat} {as ms ups downs unders H ns1 : List Int}
local macro_rules | `(tactic| walk_at "LAW") => `(tactic| ((unfold lawS at *; (rename _ = scopeAt _ _ => hcs); (conv at hcs => rhs; whnf); subst hcs); (have hB : lawB w = lawB w := rfl); (unfold lawB at hB); (conv at hB => rhs; whnf); (unfold lawB); (rw [hB]); (simp only [List.drop_succ_cons, List.drop_zero, List.take_succ_cons, List.take_zero]); clear hB))
local macro_rules | `(tactic| walk_at "call type:list") => `(tactic| (k_here; (with_reducible show wpAny _ _ (call (Value.type "list") [Value.ref _]) _ _ _); k_dflt (refine' list_own ?k1 ?k2 ?k3 ?k4 ?k5 ?_; (case k1 => k_asm); (case k2 => k_asm); (case k3 => k_mem); (case k4 => l_ints); (case k5 => walk_at "LEN"); k_whole; intro D' c' h' F' N' l1; (try k_lt l1); (try k_sweep))))
def forT (st : Stmt) : PySem.Expr := match st with | .For t _ _ _ _ => t | _ => default
def forB (st : Stmt) : List Stmt := match st with | .For _ _ b _ _ => b | _ => []
noncomputable def st18 (w : World) : Stmt := ((lawB w).drop 18).headD default
theorem turn18 {P t lw : Addr} {ps : Array Value} {nt nw : Nat} {wvs : List Value} {ws : List Int} (B : Below A₀ base outer h₀) (F : Fr h₀ L s.heap m) (X : (hd.heap_1 w.params).In h₀) (N : News h₀ L s.heap ((c1, W.listOf vs1.toArray n1) :: (P, tabO ps) :: R)) (T : Top p loose mean mg mb h₀) (hcs : cs = lawS w)
    (hdp : dp + 20 < 1000) (hu : un + 200 < 9900) (H1 : Has w R 426 x1 dx1 c1 r dr zl zvs nz t1 t2 u1 u2 u3 u4 u5 u6 u7) (h1 : IntsAre vs1 ns1) (h1len : ns1.length = 256) (hcl : ∀ p ∈ (P, tabO ps) :: R, p.1 ≠ c1) (hzi : IntsAre zvs zs)
    (ht : (t, ({ cls := .type "tuple", data := .seq #[.ref x1, .ref lw] nt } : Obj)) ∈ R) (hlw : (lw, W.listOf wvs.toArray nw) ∈ R) (hwi : IntsAre wvs ws) (hT : (fromNtt ns1).map (fun x => (128 * x).fmod 3329) = ws) (hb : ∀ x ∈ fromNtt ns1, 0 ≤ x ∧ x < 3329)
    (hg : Hide (AllBare s.gens)) (hCA : Hide (CodeHere h₀ 446 P)) (htr : Hide (TriplesOk ps.toList)) (hPR : Hide (∀ p ∈ R, p.1 ≠ P))
    (hQ : ∀ ps' s', Fr h₀ L s'.heap (fun y => if y = nm "want" then some (.ref lw) else if y = nm "p" then some (.ref x1) else m y) → News h₀ L s'.heap ((P, tabO ps') :: R) → TriplesOk ps'.toList → AllBare s'.gens → s'.os = s.os → Q .next s') :
    wpAny (model PySem.Challenge.rw_yi0009_01.row.prog w) (ktrTop dp un gd cn cs L fa ccd cl outer) (assign (forT (st18 w)) (envX cn cs L fa ccd cl) (.ref t)) (fun _ s₂ => wpAny (model PySem.Challenge.rw_yi0009_01.row.prog w) (ktrTop dp un gd cn cs L fa ccd cl outer) (execs (forB (st18 w)) (envX cn cs L fa ccd cl)) Q E s₂) E s := by
  have HX1 : Has w ((P, tabO ps) :: R) 426 x1 dx1 c1 r dr zl zvs nz t1 t2 u1 u2 u3 u4 u5 u6 u7 := ⟨.tail _ H1.x, .tail _ H1.dx, .tail _ H1.r, .tail _ H1.dr, .tail _ H1.z⟩
  obtain ⟨hx1, hdx1, hr₂, hdr₂, hz₂⟩ := H1
  have hcc : (c1, W.listOf vs1.toArray n1) ∈ (c1, W.listOf vs1.toArray n1) :: (P, tabO ps) :: R := .head _
  have hx1 := List.mem_cons_of_mem (c1, W.listOf vs1.toArray n1) (List.mem_cons_of_mem (P, tabO ps) hx1)
  have hdx1 := List.mem_cons_of_mem (c1, W.listOf vs1.toArray n1) (List.mem_cons_of_mem (P, tabO ps) hdx1)
  have ht := List.mem_cons_of_mem (c1, W.listOf vs1.toArray n1) (List.mem_cons_of_mem (P, tabO ps) ht)
  have hlw' := List.mem_cons_of_mem (c1, W.listOf vs1.toArray n1) (List.mem_cons_of_mem (P, tabO ps) hlw)
  have kMark : KstMark := kstMark
  unfold lawS at *
  (rename _ = scopeAt _ _ => hcs)
  conv at hcs => rhs; whnf
  subst hcs
  have hB : st18 w = st18 w := rfl
  unfold st18 lawB at hB
  conv at hB => rhs; whnf
  unfold st18 lawB
  rw [hB]
  clear hB
  simp only [forT, forB]
  repeat' (first | ((fail_if_success (with_reducible show wpAny _ _ (call (Value.ref 380) _) _ _ _)); first | (k_unfold; (try dsimp only)) | (k_end; wrow_close) | walk1 | (dsimp only; walk1) | (leave1; walk_say "STEP leave1"; try dsimp only)))
  dsimp only [List.cons_append, List.nil_append]
  with_reducible rename Fr _ _ _ _ => lF
  with_reducible rename News _ _ _ _ => lN
  k_dflt (refine' from_ntt_ok (by k_asm) lF (by k_asm) lN (by k_asm) ?k6 ?k7 ?k8 (by assumption) HX1 (by assumption) (by assumption) (by assumption) ?_; (case k6 => first | exact rfl | assumption); (case k7 => omega); (case k8 => omega); k_whole; clear lF lN; intro y' dy' vs' q1' q2' h' tk' F' N' i' l1 l2; (try k_lt l1); (try k_lt2 l2); (try dsimp only at N'); (try k_sweep))
  repeat' (first | ((fail_if_success (with_reducible show wpAny _ _ (call (Value.ref 447) _) _ _ _)); first | (k_unfold; (try dsimp only)) | (k_end; wrow_close) | walk1 | (dsimp only; walk1) | (leave1; walk_say "STEP leave1"; try dsimp only)))
  with_reducible rename Fr _ _ _ _ => lF
  with_reducible rename News _ _ _ _ => lN
  have lN2 : News h₀ L _ ((P, tabO ps) :: (y', instObj 350 dy') :: (dy', dictOf (polyD w r c1 q1' q2') 2) :: (c1, W.listOf vs'.toArray n1) :: R) := news_sub lN (by kcf_all)
  have hPc : P ≠ c1 := hcl _ (.head _)
  have hPl := l1
  simp only [AllLt] at hPl
  obtain ⟨_, hP2, _⟩ := hPl
  have hP2 : P < dy' := hP2
  k_dflt (refine thick_ok (by k_asm) lF (by k_asm) lN2 (by k_asm) ?_ ?_ ?_ hCA.out htr.out ?_ (.head _) (.tail _ (.head _)) (.tail _ (.tail _ (.head _))) (by assumption) ?_ hb hg.out ?_)
  · exact rfl
  · omega
  · omega
  · refine List.forall_mem_cons.mpr ⟨fun e => ?_, List.forall_mem_cons.mpr ⟨fun e => ?_, List.forall_mem_cons.mpr ⟨fun e => hPc e.symm, hPR.out⟩⟩⟩
    · exact absurd e (Nat.ne_of_gt (Nat.lt_trans hP2 l2))
    · exact absurd e (Nat.ne_of_gt hP2)
  · rw [len_fromNtt]; exact h1len
  clear lF lN lN2
  intro D s' ps' ys k F3 N3 htr3 hg3 hos3 hys
  obtain ⟨hp6, g6, d6, tk6, os6⟩ := s'
  dsimp only at F3 N3 hg3 hos3
  have hD : (D, W.listOf ys.toArray k) ∈ (D, W.listOf ys.toArray k) :: (P, tabO ps') :: (y', instObj 350 dy') :: (dy', dictOf (polyD w r c1 q1' q2') 2) :: (c1, W.listOf vs'.toArray n1) :: R := .head _
  have hlw2 : (lw, W.listOf wvs.toArray nw) ∈ (D, W.listOf ys.toArray k) :: (P, tabO ps') :: (y', instObj 350 dy') :: (dy', dictOf (polyD w r c1 q1' q2') 2) :: (c1, W.listOf vs'.toArray n1) :: R := .tail _ (.tail _ (.tail _ (.tail _ (.tail _ hlw))))
  k_steps
  all_goals (try k_data)
  with_reducible rename Fr _ _ _ _ => lF
  with_reducible rename News _ _ _ _ => lN
  exact hQ ps' _ lF (news_sub lN (by kcf_all)) htr3 hg3 hos3
end
end
theorem reset_C10 {prog : PySem.Program} {w : PySem.World} {A : PySem.Around} {E : PySem.Value → PySem.Shared → Prop} {Q : PySem.Value → PySem.Shared → Prop} {s : PySem.Shared} (h : Q .none s) : PySem.wpAny (PySem.model prog w) A (pure .none) Q E s := by
  w_top off
  first
  | (walk1; fail "reset")
  | exact PySem.wpAny_pure h
section -- C10
section
variable {w : World} {p : Program} {loose : List Str} {mean : ExcName → Option Value} {mg mb : Str → Option Value} {dp un : Nat} {gd : Option (List Code)} {cn : Str} {cs : Scope} {fa : Addr} {ccd : Value} {cl : List (Str × Addr)} {outer : List Env} {A₀ : Around} {base h₀ : Heap} {L : Addr} {s : Shared} {Q : Flow → Shared → Prop} {E : Value → Shared → Prop}
  {R : List (Addr × Obj)} {m : Str → Option Value} {r dr zl la lm lu ld ln xf dxf cf lr xh dxh ch x1 dx1 c1 : Addr} {c : Int} {tc t1 t2 q1 q2 u1 u2 u3 u4 u5 u6 u7 : Tok} {zvs avs mvs uvs dvs nvs fvs rvs hvs vs1 : List Value} {nz na nm' nu nd nn nf nr nh n1 : Nat} {as ms ups downs unders H ns1 : List Int}
local macro_rules | `(tactic| walk_at "LAW") => `(tactic| ((unfold lawS at *; (rename _ = scopeAt _ _ => hcs); (conv at hcs => rhs; whnf); subst hcs); (have hB : lawB w = lawB w := rfl); (unfold lawB at hB); (conv at hB => rhs; whnf); (unfold lawB); (rw [hB]); (simp only [List.drop_succ_cons, List.drop_zero, List.take_succ_cons, List.take_zero]); clear hB))
local macro_rules | `(tactic| walk_at "call type:list") => `(tactic| (k_here; (with_reducible show wpAny _ _ (call (Value.type "list") [Value.ref _]) _ _ _); k_dflt (refine' list_own ?k1 ?k2 ?k3 ?k4 ?k5 ?_; (case k1 => k_asm); (case k2 => k_asm); (case k3 => k_mem); (case k4 => l_ints); (case k5 => walk_at "LEN"); k_whole; intro D' c' h' F' N' l1; (try k_lt l1); (try k_sweep))))
structure El where
  t : Addr
  x : Addr
  dx : Addr
  c : Addr
  lw : Addr
  q1 : Tok
  q2 : Tok
  vs : List Value
  wvs : List Value
  n : Nat
  nt : Nat
  nw : Nat
  ns : List Int
  ws : List Int
structure El.Good (w : World) (r : Addr) (R : List (Addr × Obj)) (e : El) : Prop where
  x : (e.x, instObj 426 e.dx) ∈ R
  dx : (e.dx, dictOf (polyD w r e.c e.q1 e.q2) 2) ∈ R
  i : IntsAre e.vs e.ns
  len : e.ns.length = 256
  t : (e.t, ({ cls := .type "tuple", data := .seq #[.ref e.x, .ref e.lw] e.nt } : Obj)) ∈ R
  lw : (e.lw, W.listOf e.wvs.toArray e.nw) ∈ R
  wi : IntsAre e.wvs e.ws
  eq : (fromNtt e.ns).map (fun x => (128 * x).fmod 3329) = e.ws
  bd : ∀ x ∈ fromNtt e.ns, 0 ≤ x ∧ x < 3329
def ledE (es : List El) : List (Addr × Obj) := es.map fun e => (e.c, W.listOf e.vs.toArray e.n)
def Que (w : World) (r : Addr) (R : List (Addr × Obj)) : List El → Prop
  | [] => True
  | e :: es => El.Good w r R e ∧ (∀ p ∈ ledE es ++ R, p.1 ≠ e.c) ∧ Que w r R es
def J18 (w : World) (r P l : Addr) (R : List (Addr × Obj)) (names : List (Str × Value)) (items : Array Value) (i : Nat) (m : Str → Option Value) (news : List (Addr × Obj)) : Prop :=
  (∀ p ∈ names, m p.1 = some p.2) ∧ ∃ (es : List El) (ps : Array Value), TriplesOk ps.toList ∧ news = (P, tabO ps) :: (ledE es ++ R) ∧ Que w r R es ∧ items.toList.drop i = es.map (fun e => Value.ref e.t) ∧ (∀ p ∈ ledE es ++ R, p.1 ≠ P) ∧ (∀ p ∈ news, p.1 ≠ l)
theorem post18 {P l : Addr} {n : Nat} {names : List (Str × Value)} {es : List El} {ps : Array Value} {items : Array Value} {os₀ : OsState} {elts : List PySem.Expr} {x1 : Nat} {tp pos : Pos} {iter : PySem.Expr} {body els : List Stmt} (B : Below A₀ base outer h₀) (F : Fr h₀ L s.heap m) (X : (hd.heap_1 w.params).In h₀) (N : News h₀ L s.heap ((l, W.listOf items n) :: (P, tabO ps) :: (ledE es ++ R))) (T : Top p loose mean mg mb h₀) (hcs : cs = lawS w)
    (hdp : dp + 20 < 1000) (hu : un + 200 < 9900) (hr : (r, instObj 282 dr) ∈ R) (hdr : (dr, dictOf (ringD w zl u1 u2 u3 u4 u5 u6 u7) 4) ∈ R) (hz : (zl, W.listOf zvs.toArray nz) ∈ R) (hzi : IntsAre zvs zs)
    (hnames : ∀ p ∈ names, m p.1 = some p.2) (hfree : ∀ p ∈ names, p.1 ≠ nm "p" ∧ p.1 ≠ nm "want") (hst : st18 w = .For (.Tuple elts x1 tp) iter body els pos)
    (hg : AllBare s.gens) (hos : s.os = os₀) (hCA : CodeHere h₀ 446 P) (htr : TriplesOk ps.toList) (hque : Que w r R es) (hit : items.toList = es.map (fun e => Value.ref e.t)) (hP : ∀ p ∈ ledE es ++ R, p.1 ≠ P) (hl : ∀ p ∈ (P, tabO ps) :: (ledE es ++ R), p.1 ≠ l)
    (hQ : ∀ m' ps' s', Fr h₀ L s'.heap m' → (∀ p ∈ names, m' p.1 = some p.2) → News h₀ L s'.heap ((P, tabO ps') :: R) → TriplesOk ps'.toList → AllBare s'.gens → s'.os = os₀ → Q .next s') :
    ForPost PySem.Challenge.rw_yi0009_01.row.prog w (ktrTop dp un gd cn cs L fa ccd cl outer) E Q (envX cn cs L fa ccd cl) h₀ elts x1 tp body os₀ (.ref l) s := by
  refine ⟨l, n, m, (P, tabO ps) :: (ledE es ++ R), items, J18 w r P l R names items, rfl, F, N, hg, hos, ⟨hnames, es, ps, htr, rfl, hque, by simpa using hit, hP, hl⟩, ?_, ?_, ?_⟩
  · intro i v hv
    have h1 : items.toList[i]? = some v := by simpa using hv
    rw [hit, List.getElem?_map] at h1
    cases h2 : es[i]? with
    | none => rw [h2] at h1; cases h1
    | some e => rw [h2] at h1; exact ⟨e.t, (Option.some.inj h1).symm⟩
  · rintro i v I o m₁ news₁ s₁ hv ⟨hnm, es₁, ps₁, htr₁, rfl, hq, hd, hP₁, hl₁⟩ hI hlI F₁ N₁ G₁ O₁
    have h1 : items.toList[i]? = some v := by simpa using hv
    have h2 : (items.toList.drop i)[0]? = some v := by rw [List.getElem?_drop]; simpa using h1
    cases es₁ with
    | nil => rw [hd] at h2; cases h2
    | cons e es₂ =>
      rw [hd] at h2
      have hve : v = .ref e.t := (Option.some.inj h2).symm
      subst hve
      obtain ⟨hG, hne, hq₂⟩ := hq
      have hec : (e.c, W.listOf e.vs.toArray e.n) ∈ (P, tabO ps₁) :: (ledE (e :: es₂) ++ R) := .tail _ (.head _)
      have hsub : ∀ p ∈ ledE es₂ ++ R, p ∈ (P, tabO ps₁) :: (ledE (e :: es₂) ++ R) := fun p hp => .tail _ (.tail _ hp)
      have up : ∀ p ∈ R, p ∈ (I, o) :: (l, W.listOf items n) :: (ledE es₂ ++ R) := fun p hp => .tail _ (.tail _ (List.mem_append_right _ hp))
      have t18 := turn18 (cl := cl) (ccd := ccd) (fa := fa) (cn := cn) (gd := gd) (L := L) (w := w) (P := P) (t := e.t) (lw := e.lw) (ps := ps₁) (nt := e.nt) (nw := e.nw) (wvs := e.wvs) (ws := e.ws) (R := (I, o) :: (l, W.listOf items n) :: (ledE es₂ ++ R)) (s := s₁) (E := E) (c1 := e.c) (vs1 := e.vs) (n1 := e.n) (ns1 := e.ns) (x1 := e.x) (dx1 := e.dx)
        (Q := fun f s₃ => match f with | .ret v => Q (.ret v) s₃ | .brk => Q .next s₃ | _ => ForEnd h₀ (envX cn cs L fa ccd cl).locals I o l (W.listOf items n) os₀ (J18 w r P l R names items (i + 1)) s₃)
        B F₁ X (fun p hp => by
          rcases List.mem_cons.mp hp with rfl | hp
          · exact N₁ _ (.tail _ (.tail _ hec))
          · rcases List.mem_cons.mp hp with rfl | hp
            · exact N₁ _ (.tail _ (.tail _ (.head _)))
            · rcases List.mem_cons.mp hp with rfl | hp
              · exact N₁ _ (.head _)
              · rcases List.mem_cons.mp hp with rfl | hp
                · exact N₁ _ (.tail _ (.head _))
                · exact N₁ _ (.tail _ (.tail _ (hsub p hp)))) T hcs hdp hu
        ⟨up _ hG.x, up _ hG.dx, up _ hr, up _ hdr, up _ hz⟩ hG.i hG.len (fun p hp => by
          rcases List.mem_cons.mp hp with rfl | hp
          · exact fun q => hP₁ _ (List.mem_append_left _ (List.mem_map_of_mem (List.mem_cons_self (a := e) (l := es₂)))) q.symm
          · rcases List.mem_cons.mp hp with rfl | hp
            · exact fun q => hI _ hec q.symm
            · rcases List.mem_cons.mp hp with rfl | hp
              · exact fun q => hl₁ _ hec q.symm
              · exact hne p hp) hzi (up _ hG.t) (up _ hG.lw) hG.wi hG.eq hG.bd ⟨G₁⟩ ⟨hCA⟩ ⟨htr₁⟩ ⟨fun p hp => by
          rcases List.mem_cons.mp hp with rfl | hp
          · exact fun q => hI _ (.head _) q.symm
          · rcases List.mem_cons.mp hp with rfl | hp
            · exact fun q => hl₁ _ (.head _) q.symm
            · exact hP₁ p (by
                rcases List.mem_append.mp hp with hp | hp
                · exact List.mem_append_left _ (List.mem_cons_of_mem _ hp)
                · exact List.mem_append_right _ hp)⟩ (fun ps' s' F' N' htr' hg' hos' => by
          have hIP : P ≠ I := hI _ (.head _)
          have hlP : P ≠ l := hl₁ _ (.head _)
          refine ⟨_, (P, tabO ps') :: (ledE es₂ ++ R), F', news_sub N' ?_, ?_, hg', hos'.trans O₁, ?_, es₂, ps', htr', rfl, hq₂, ?_, ?_, ?_⟩
          · intro p hp
            rcases List.mem_cons.mp hp with rfl | hp
            · exact .tail _ (.head _)
            · rcases List.mem_cons.mp hp with rfl | hp
              · exact .tail _ (.tail _ (.head _))
              · rcases List.mem_cons.mp hp with rfl | hp
                · exact .head _
                · exact .tail _ (.tail _ (.tail _ hp))
          · intro p hp
            rcases List.mem_cons.mp hp with rfl | hp
            · exact hIP
            · exact hI p (hsub p hp)
          · intro p hp
            have := hfree p hp
            show (if p.1 = nm "want" then _ else if p.1 = nm "p" then _ else _) = _
            rw [if_neg this.2, if_neg this.1]
            exact hnm p hp
          · have := congrArg List.tail hd
            rw [List.tail_drop] at this
            exact this
          · exact fun p hp => hP₁ p (by
                rcases List.mem_append.mp hp with hp | hp
                · exact List.mem_append_left _ (List.mem_cons_of_mem _ hp)
                · exact List.mem_append_right _ hp)
          · intro p hp
            rcases List.mem_cons.mp hp with rfl | hp
            · exact hlP
            · exact hl₁ p (hsub p hp))
      rw [hst] at t18
      exact t18
  · rintro m₁ news₁ s₁ ⟨hnm, es₁, ps₁, htr₁, rfl, hq, hd, hP₁, hl₁⟩ F₁ N₁ G₁ O₁
    have : es₁ = [] := by
      have h1 : items.toList.drop items.size = [] := by simp
      rw [h1] at hd
      exact (List.map_eq_nil_iff.mp hd.symm)
    subst this
    exact hQ m₁ ps₁ s₁ F₁ hnm N₁ htr₁ G₁ O₁
theorem fin18 {P l t1 x1 dx1 c1 t2 x2 dx2 c2 t3 x3 dx3 c3 : Addr} {n n1 n2 n3 nt1 nt2 nt3 : Nat} {q1 q2 q3 q4 q5 q6 : Tok} {vs1 vs2 vs3 : List Value} {ns1 ns3 : List Int} {names : List (Str × Value)} {ps : Array Value} {os₀ : OsState} {elts : List PySem.Expr} {y1 : Nat} {tp pos : Pos} {iter : PySem.Expr} {body els : List Stmt} (B : Below A₀ base outer h₀) (F : Fr h₀ L s.heap m) (X : (hd.heap_1 w.params).In h₀)
    (N : News h₀ L s.heap ((l, W.listOf #[.ref t1, .ref t2, .ref t3] n) :: (t3, ({ cls := .type "tuple", data := .seq #[.ref x3, .ref ld] nt3 } : Obj)) :: (x3, instObj 426 dx3) :: (dx3, dictOf (polyD w r c3 q5 q6) 2) :: (c3, W.listOf vs3.toArray n3) :: (t2, ({ cls := .type "tuple", data := .seq #[.ref x2, .ref lu] nt2 } : Obj)) :: (x2, instObj 426 dx2) :: (dx2, dictOf (polyD w r c2 q3 q4) 2) :: (c2, W.listOf vs2.toArray n2) :: (t1, ({ cls := .type "tuple", data := .seq #[.ref x1, .ref lu] nt1 } : Obj)) :: (x1, instObj 426 dx1) :: (dx1, dictOf (polyD w r c1 q1 q2) 2) :: (c1, W.listOf vs1.toArray n1) :: (P, tabO ps) :: R))
    (hl : ∀ p ∈ (t3, ({ cls := .type "tuple", data := .seq #[.ref x3, .ref ld] nt3 } : Obj)) :: (x3, instObj 426 dx3) :: (dx3, dictOf (polyD w r c3 q5 q6) 2) :: (c3, W.listOf vs3.toArray n3) :: (t2, ({ cls := .type "tuple", data := .seq #[.ref x2, .ref lu] nt2 } : Obj)) :: (x2, instObj 426 dx2) :: (dx2, dictOf (polyD w r c2 q3 q4) 2) :: (c2, W.listOf vs2.toArray n2) :: (t1, ({ cls := .type "tuple", data := .seq #[.ref x1, .ref lu] nt1 } : Obj)) :: (x1, instObj 426 dx1) :: (dx1, dictOf (polyD w r c1 q1 q2) 2) :: (c1, W.listOf vs1.toArray n1) :: (P, tabO ps) :: R, p.1 ≠ l)
    (T : Top p loose mean mg mb h₀) (hcs : cs = lawS w) (hdp : dp + 20 < 1000) (hu : un + 200 < 9900) (hr : (r, instObj 282 dr) ∈ R) (hdr : (dr, dictOf (ringD w zl u1 u2 u3 u4 u5 u6 u7) 4) ∈ R) (hz : (zl, W.listOf zvs.toArray nz) ∈ R) (hzi : IntsAre zvs zs) (hlu : (lu, W.listOf uvs.toArray nu) ∈ R) (hui : IntsAre uvs ups) (hld : (ld, W.listOf dvs.toArray nd) ∈ R) (hdi : IntsAre dvs downs)
    (hnames : ∀ p ∈ names, m p.1 = some p.2) (hfree : ∀ p ∈ names, p.1 ≠ nm "p" ∧ p.1 ≠ nm "want") (hst : st18 w = .For (.Tuple elts y1 tp) iter body els pos)
    (hg : AllBare s.gens) (hos : s.os = os₀) (hCA : CodeHere h₀ 446 P) (htr : TriplesOk ps.toList) (hPR : ∀ p ∈ R, p.1 ≠ P)
    (i1 : IntsAre vs1 ns1) (i2 : IntsAre vs2 ns1) (i3 : IntsAre vs3 ns3) (e1 : ns1.length = 256) (e3 : ns3.length = 256)
    (hT1 : (fromNtt ns1).map (fun x => (128 * x).fmod 3329) = ups) (hT3 : (fromNtt ns3).map (fun x => (128 * x).fmod 3329) = downs) (hb1 : ∀ x ∈ fromNtt ns1, 0 ≤ x ∧ x < 3329) (hb3 : ∀ x ∈ fromNtt ns3, 0 ≤ x ∧ x < 3329)
    (a1 : @LT.lt Nat _ P c1 ∧ AllLt c1 R) (a2 : @LT.lt Nat _ c1 dx1) (a3 : @LT.lt Nat _ dx1 x1) (a4 : @LT.lt Nat _ x1 t1) (b1 : @LT.lt Nat _ t1 c2) (b2 : @LT.lt Nat _ c2 dx2) (b3 : @LT.lt Nat _ dx2 x2) (b4 : @LT.lt Nat _ x2 t2) (d1 : @LT.lt Nat _ t2 c3) (d2 : @LT.lt Nat _ c3 dx3) (d3 : @LT.lt Nat _ dx3 x3) (d4 : @LT.lt Nat _ x3 t3)
    (hQ : ∀ m' ps' s', Fr h₀ L s'.heap m' → (∀ p ∈ names, m' p.1 = some p.2) → News h₀ L s'.heap ((P, tabO ps') :: R) → TriplesOk ps'.toList → AllBare s'.gens → s'.os = os₀ → Q .next s') :
    ForPost PySem.Challenge.rw_yi0009_01.row.prog w (ktrTop dp un gd cn cs L fa ccd cl outer) E Q (envX cn cs L fa ccd cl) h₀ elts y1 tp body os₀ (.ref l) s := by
  have aR := allLt_mem a1.2
  have a0 := a1.1
  let R3 : List (Addr × Obj) := (t3, ({ cls := .type "tuple", data := .seq #[.ref x3, .ref ld] nt3 } : Obj)) :: (x3, instObj 426 dx3) :: (dx3, dictOf (polyD w r c3 q5 q6) 2) :: (t2, ({ cls := .type "tuple", data := .seq #[.ref x2, .ref lu] nt2 } : Obj)) :: (x2, instObj 426 dx2) :: (dx2, dictOf (polyD w r c2 q3 q4) 2) :: (t1, ({ cls := .type "tuple", data := .seq #[.ref x1, .ref lu] nt1 } : Obj)) :: (x1, instObj 426 dx1) :: (dx1, dictOf (polyD w r c1 q1 q2) 2) :: R
  have up : ∀ p ∈ R, p ∈ R3 := fun p hp => .tail _ (.tail _ (.tail _ (.tail _ (.tail _ (.tail _ (.tail _ (.tail _ (.tail _ hp))))))))
  have g1 : El.Good w r R3 ⟨t1, x1, dx1, c1, lu, q1, q2, vs1, uvs, n1, nt1, nu, ns1, ups⟩ := ⟨.tail _ (.tail _ (.tail _ (.tail _ (.tail _ (.tail _ (.tail _ (.head _))))))), .tail _ (.tail _ (.tail _ (.tail _ (.tail _ (.tail _ (.tail _ (.tail _ (.head _)))))))), i1, e1, .tail _ (.tail _ (.tail _ (.tail _ (.tail _ (.tail _ (.head _)))))), up _ hlu, hui, hT1, hb1⟩
  have g2 : El.Good w r R3 ⟨t2, x2, dx2, c2, lu, q3, q4, vs2, uvs, n2, nt2, nu, ns1, ups⟩ := ⟨.tail _ (.tail _ (.tail _ (.tail _ (.head _)))), .tail _ (.tail _ (.tail _ (.tail _ (.tail _ (.head _))))), i2, e1, .tail _ (.tail _ (.tail _ (.head _))), up _ hlu, hui, hT1, hb1⟩
  have g3 : El.Good w r R3 ⟨t3, x3, dx3, c3, ld, q5, q6, vs3, dvs, n3, nt3, nd, ns3, downs⟩ := ⟨.tail _ (.head _), .tail _ (.tail _ (.head _)), i3, e3, .head _, up _ hld, hdi, hT3, hb3⟩
  have o1 : ∀ p ∈ R, p.1 < c1 := aR
  have key : ∀ (c : Addr), (∀ p ∈ R, p.1 ≠ c) → @Ne Nat t1 c → @Ne Nat x1 c → @Ne Nat dx1 c → @Ne Nat t2 c → @Ne Nat x2 c → @Ne Nat dx2 c → @Ne Nat t3 c → @Ne Nat x3 c → @Ne Nat dx3 c → ∀ p ∈ R3, p.1 ≠ c := by
    intro c k0 k1 k2 k3 k4 k5 k6 k7 k8 k9
    exact List.forall_mem_cons.mpr ⟨k7, List.forall_mem_cons.mpr ⟨k8, List.forall_mem_cons.mpr ⟨k9, List.forall_mem_cons.mpr ⟨k4, List.forall_mem_cons.mpr ⟨k5, List.forall_mem_cons.mpr ⟨k6, List.forall_mem_cons.mpr ⟨k1, List.forall_mem_cons.mpr ⟨k2, List.forall_mem_cons.mpr ⟨k3, k0⟩⟩⟩⟩⟩⟩⟩⟩⟩
  have w1 : ∀ p ∈ R3, p.1 ≠ c1 := key c1 (fun p hp => Nat.ne_of_lt (o1 p hp)) (by omega) (by omega) (by omega) (by omega) (by omega) (by omega) (by omega) (by omega) (by omega)
  have w2 : ∀ p ∈ R3, p.1 ≠ c2 := key c2 (fun p hp => Nat.ne_of_lt (Nat.lt_trans (o1 p hp) (show @LT.lt Nat _ c1 _ by omega))) (by omega) (by omega) (by omega) (by omega) (by omega) (by omega) (by omega) (by omega) (by omega)
  have w3 : ∀ p ∈ R3, p.1 ≠ c3 := key c3 (fun p hp => Nat.ne_of_lt (Nat.lt_trans (o1 p hp) (show @LT.lt Nat _ c1 _ by omega))) (by omega) (by omega) (by omega) (by omega) (by omega) (by omega) (by omega) (by omega) (by omega)
  have wP : ∀ p ∈ R3, p.1 ≠ P := key P hPR (by omega) (by omega) (by omega) (by omega) (by omega) (by omega) (by omega) (by omega) (by omega)
  have n12 : @Ne Nat c2 c1 := by omega
  have n13 : @Ne Nat c3 c1 := by omega
  have n23 : @Ne Nat c3 c2 := by omega
  refine post18 (P := P) (l := l) (n := n) (names := names) (ps := ps) (R := R3) (es := [⟨t1, x1, dx1, c1, lu, q1, q2, vs1, uvs, n1, nt1, nu, ns1, ups⟩, ⟨t2, x2, dx2, c2, lu, q3, q4, vs2, uvs, n2, nt2, nu, ns1, ups⟩, ⟨t3, x3, dx3, c3, ld, q5, q6, vs3, dvs, n3, nt3, nd, ns3, downs⟩])
    B F X (news_sub N ?_) T hcs hdp hu (up _ hr) (up _ hdr) (up _ hz) hzi hnames hfree hst hg hos hCA htr ⟨g1, ?_, g2, ?_, g3, ?_, trivial⟩ rfl ?_ ?_ ?_
  · show ∀ p ∈ (l, W.listOf #[.ref t1, .ref t2, .ref t3] n) :: (P, tabO ps) :: (c1, W.listOf vs1.toArray n1) :: (c2, W.listOf vs2.toArray n2) :: (c3, W.listOf vs3.toArray n3) :: R3, _
    kcf_all
  · exact List.forall_mem_cons.mpr ⟨n12, List.forall_mem_cons.mpr ⟨n13, w1⟩⟩
  · exact List.forall_mem_cons.mpr ⟨n23, w2⟩
  · exact w3
  · exact List.forall_mem_cons.mpr ⟨show @Ne Nat c1 P by omega, List.forall_mem_cons.mpr ⟨show @Ne Nat c2 P by omega, List.forall_mem_cons.mpr ⟨show @Ne Nat c3 P by omega, wP⟩⟩⟩
  · have hs : ∀ p ∈ (P, tabO ps) :: (c1, W.listOf vs1.toArray n1) :: (c2, W.listOf vs2.toArray n2) :: (c3, W.listOf vs3.toArray n3) :: R3, p.1 ≠ l := fun p hp => hl p ((show ∀ p ∈ (P, tabO ps) :: (c1, W.listOf vs1.toArray n1) :: (c2, W.listOf vs2.toArray n2) :: (c3, W.listOf vs3.toArray n3) :: R3, p ∈ _ from by kcf_all) p hp)
    exact hs
  · intro m' ps' s' F' hn' N' htr' hg' ho'
    exact hQ m' ps' s' F' hn' (news_sub N' (List.forall_mem_cons.mpr ⟨.head _, fun p hp => .tail _ (up p hp)⟩)) htr' hg' ho'
end
end
theorem reset_C11 {prog : PySem.Program} {w : PySem.World} {A : PySem.Around} {E : PySem.Value → PySem.Shared → Prop} {Q : PySem.Value → PySem.Shared → Prop} {s : PySem.Shared} (h : Q .none s) : PySem.wpAny (PySem.model prog w) A (pure .none) Q E s := by
  w_top off
  first
  | (walk1; fail "reset")
  | exact PySem.wpAny_pure h
section -- C11
section
variable {w : World} {p : Program} {loose : List Str} {mean : ExcName → Option Value} {mg mb : Str → Option Value} {dp un : Nat} {gd : Option (List Code)} {cn : Str} {cs : Scope} {a : Addr} {ccd : Value} {cl : List (Str × Addr)} {outer : List Env} {A₀ : Around} {base h₀ : Heap} {L : Addr} {m : Str → Option Value} {news : List (Addr × Obj)} {s : Shared} {Q E : Value → Shared → Prop}
@[irreducible] def drw (ns : List Int) (k : Int) : Int := if k < (ns.length : Int) then ns.getD k.toNat 0 else 200 + 17 * k + 31 * k * k
local macro_rules | `(tactic| is_list) => `(tactic| exact Heap.IsList.at (by assumption) (fun o e => Fr.keep (by assumption) _ o e))
theorem drw_eq (ns : List Int) (k : Int) : drw ns k = if k < (ns.length : Int) then ns.getD k.toNat 0 else 200 + 17 * k + 31 * k * k := by delta drw; rfl
theorem draw_ok {l0 : Addr} {vals : List Value} {ns : List Int} {k : Int} {t : Tok} (B : Below A₀ base outer h₀) (F : Fr h₀ L s.heap m) (X : (hd.heap_1 w.params).In h₀) (N : News h₀ L s.heap news) (T : Top p loose mean mg mb h₀) (hcs : cs.kind = .function)
    (hdp : dp + 10 < 1000) (hu : un + 100 < 9900) (hl : h₀.IsList l0 vals.toArray) (hi : IntsAre vals ns) (hlen : ns.length ≤ 63) (h0 : 0 ≤ k) (h1 : k < 1000)
    (hret : ∀ t' h' tk', Fr h₀ L h' m → News h₀ L h' news → Q (.int (drw ns k) t') { s with heap := h', toks := tk' }) :
    wpAny (model PySem.Challenge.rw_yi0009_01.row.prog w) (ktrTop dp un gd cn cs L a ccd cl outer) (call (.ref 435) [.ref l0, .int k t]) Q E s := by
  refine wpAny_call ?_
  have kMark : KstMark := kstMark
  walk_at "ENTER"
  with_reducible rename Fr h₀ _ _ _ => lF
  have hl2 := hl.at fun o e => lF.keep _ o e
  clear hl
  k_steps
  · have e : drw ns k = ns.getD k.toNat 0 := by rw [drw_eq]; exact if_pos (by assumption)
    rw [← e]
    exact hret _ _ _ (by k_asm) (by k_asm)
  · have e : drw ns k = 200 + 17 * k + 31 * k * k := by rw [drw_eq]; exact if_neg (by assumption)
    rw [← e]
    exact hret _ _ _ (by k_asm) (by k_asm)
end
end
local macro_rules | `(tactic| walk_at "LAW") => `(tactic| ((unfold lawS at *; (rename _ = scopeAt _ _ => hcs); (conv at hcs => rhs; whnf); subst hcs); (with_reducible rename PySem.World => w9); (have hB : lawB w9 = lawB w9 := rfl); (unfold lawB at hB); (conv at hB => rhs; whnf); (unfold lawB); (rw [hB]); (simp only [List.drop_succ_cons, List.drop_zero, List.take_succ_cons, List.take_zero]); clear hB))
local macro_rules | `(tactic| walk_at "eval Name") => `(tactic| (k_here; (with_reducible show wpAny _ _ (eval (PySem.Expr.Name (PySem.Str.ofString "script") _) (envX _ _ _ _ _ _)) _ _ _); k_dflt (refine nameX_C (by k_asm) (by assumption) (by k_mem) (by assumption) ?_)))
local macro_rules | `(tactic| walk_at "call ref") => `(tactic| (k_here; (with_reducible show wpAny _ _ (call (Value.ref 435) _) _ _ _); k_dflt (refine' draw_ok ?k1 ?k2 ?k3 ?k4 ?k5 ?k6 ?k7 ?k8 ?k9 ?k10 ?k11 ?k12 ?k13 ?_; (case k1 => k_asm); (case k2 => k_asm); (case k3 => k_asm); (case k4 => k_asm); (case k5 => k_asm); (case k6 => first | exact rfl | assumption); (case k7 => omega); (case k8 => omega); (case k9 => assumption); (case k10 => assumption); (case k11 => assumption); (case k12 => omega); (case k13 => omega); k_whole; intro t' h' tk' F' N'; (try k_sweep))))
local macro_rules | `(tactic| walk_at "call type:list") => `(tactic| (k_here; (with_reducible show wpAny _ _ (call (Value.type "list") [Value.ref _]) _ _ _); k_dflt (refine' list_own ?k1 ?k2 ?k3 ?k4 ?k5 ?_; (case k1 => k_asm); (case k2 => k_asm); (case k3 => k_mem); (case k4 => l_ints); (case k5 => walk_at "LEN"); k_whole; intro D' c' h' F' N' l1; (try k_lt l1); (try k_sweep))))
theorem reset_G0 {prog : PySem.Program} {w : PySem.World} {A : PySem.Around} {E : PySem.Value → PySem.Shared → Prop} {Q : PySem.Value → PySem.Shared → Prop} {s : PySem.Shared} (h : Q .none s) : PySem.wpAny (PySem.model prog w) A (pure .none) Q E s := by
  w_top off
  first
  | (walk1; fail "reset")
  | exact PySem.wpAny_pure h
section -- G0
section
variable {w : World} {p : Program} {loose : List Str} {mean : ExcName → Option Value} {mg mb : Str → Option Value} {dp un : Nat} {gd : Option (List Code)} {cn : Str} {cs : Scope} {fa : Addr} {ccd : Value} {cl : List (Str × Addr)} {outer : List Env} {A₀ : Around} {base h₀ : Heap} {L : Addr} {s : Shared} {Q : Flow → Shared → Prop} {E : Value → Shared → Prop}
  {R : List (Addr × Obj)} {m : Str → Option Value} {r dr zl la lf c0 l0 P : Addr} {o0 oP : Obj} {c mn : Int} {tc tm u1 u2 u3 u4 u5 u6 u7 : Tok} {zvs vals avs mvs fvs : List Value} {nz na nf : Nat} {as ms ns fs : List Int}
local macro_rules | `(tactic| walk_at "call ref") => `(tactic| (k_here; (with_reducible show wpAny _ _ (call (Value.ref 282) _) _ _ _); k_dflt (refine' ring_ok ?k1 ?k2 ?k3 ?k4 ?k5 ?k6 ?k7 ?k8 ?_; (case k1 => k_asm); (case k2 => k_asm); (case k3 => k_asm); (case k4 => k_asm); (case k5 => k_asm); (case k6 => first | exact rfl | assumption); (case k7 => omega); (case k8 => omega); k_whole; intro r' dr' zl' zvs' nz' v1' v2' v3' v4' v5' v6' v7' h' tk' F' N' i')))
theorem G0 (B : Below A₀ base outer h₀) (F : Fr h₀ L s.heap m) (hm₀ : ∀ p ∈ ([] : List (Str × Value)), m p.1 = some p.2) (X : (hd.heap_1 w.params).In h₀) (N : News h₀ L s.heap [(c0, o0), (P, oP)]) (T : Top p loose mean mg mb h₀) (hcs : cs = lawS w)
    (hdp : dp + 20 < 1000) (hu : un + 200 < 9900) 
    (hQ : ∀ r dr zl zvs nz u1 u2 u3 u4 u5 u6 u7 h tk, Fr h₀ L h (fun y => if y = nm "ring" then some (.ref r) else m y) → News h₀ L h ((r, instObj 282 dr) :: (dr, dictOf (ringD w zl u1 u2 u3 u4 u5 u6 u7) 4) :: (zl, W.listOf zvs.toArray nz) :: [(c0, o0), (P, oP)]) → IntsAre zvs zs → Q .next { s with heap := h, toks := tk }) :
    wpAny (model PySem.Challenge.rw_yi0009_01.row.prog w) (ktrTop dp un gd cn cs L fa ccd cl outer) (execs (List.take 1 (List.drop 0 (lawB w))) (envX cn cs L fa ccd cl)) Q E s := by
  have e₀ : kstB m [] = m := by
    funext z
    exact kstB_eq hm₀ fun _ => rfl
  rw [← e₀] at F
  have hQ' := hQ
  (try rw [← e₀] at hQ')
  clear hQ
  clear e₀ hm₀
  dsimp only [kstB] at F
  have kMark : KstMark := kstMark
  walk_at "LAW"
  k_steps
  all_goals (try k_data)
  with_reducible rename Fr _ _ _ _ => lF
  with_reducible rename News _ _ _ _ => lN
  exact hQ' _ _ _ _ _ _ _ _ _ _ _ _ _ _ lF lN (by assumption)

end
end
theorem reset_G1 {prog : PySem.Program} {w : PySem.World} {A : PySem.Around} {E : PySem.Value → PySem.Shared → Prop} {Q : PySem.Value → PySem.Shared → Prop} {s : PySem.Shared} (h : Q .none s) : PySem.wpAny (PySem.model prog w) A (pure .none) Q E s := by
  w_top off
  first
  | (walk1; fail "reset")
  | exact PySem.wpAny_pure h
section -- G1
section
variable {w : World} {p : Program} {loose : List Str} {mean : ExcName → Option Value} {mg mb : Str → Option Value} {dp un : Nat} {gd : Option (List Code)} {cn : Str} {cs : Scope} {fa : Addr} {ccd : Value} {cl : List (Str × Addr)} {outer : List Env} {A₀ : Around} {base h₀ : Heap} {L : Addr} {s : Shared} {Q : Flow → Shared → Prop} {E : Value → Shared → Prop}
  {R : List (Addr × Obj)} {m : Str → Option Value} {r dr zl la lf c0 l0 P : Addr} {o0 oP : Obj} {c mn : Int} {tc tm u1 u2 u3 u4 u5 u6 u7 : Tok} {zvs vals avs mvs fvs : List Value} {nz na nf : Nat} {as ms ns fs : List Int}
theorem G1 (B : Below A₀ base outer h₀) (F : Fr h₀ L s.heap m) (hm₀ : ∀ p ∈ ([] : List (Str × Value)), m p.1 = some p.2) (X : (hd.heap_1 w.params).In h₀) (N : News h₀ L s.heap R) (T : Top p loose mean mg mb h₀) (hcs : cs = lawS w)
    (hdp : dp + 20 < 1000) (hu : un + 200 < 9900) (hcc : cl.lookup (nm "script") = some c0) (hc0 : (c0, o0) ∈ R) (ho0 : o0.data = .cell (some (.ref l0))) (hl0 : h₀.IsList l0 vals.toArray) (hns : IntsAre vals ns) (hnl : ns.length ≤ 63)
    (hQ : ∀ tc h tk, Fr h₀ L h (fun y => if y = nm "c" then some (.int (drw ns 0) tc) else m y) → News h₀ L h (R) → Q .next { s with heap := h, toks := tk }) :
    wpAny (model PySem.Challenge.rw_yi0009_01.row.prog w) (ktrTop dp un gd cn cs L fa ccd cl outer) (execs (List.take 1 (List.drop 1 (lawB w))) (envX cn cs L fa ccd cl)) Q E s := by
  have e₀ : kstB m [] = m := by
    funext z
    exact kstB_eq hm₀ fun _ => rfl
  rw [← e₀] at F
  have hQ' := hQ
  (try rw [← e₀] at hQ')
  clear hQ
  clear e₀ hm₀
  dsimp only [kstB] at F
  have kMark : KstMark := kstMark
  walk_at "LAW"
  k_steps
  all_goals (try k_data)
  with_reducible rename Fr _ _ _ _ => lF
  with_reducible rename News _ _ _ _ => lN
  exact hQ' _ _ _ lF lN

end
end
theorem reset_G2 {prog : PySem.Program} {w : PySem.World} {A : PySem.Around} {E : PySem.Value → PySem.Shared → Prop} {Q : PySem.Value → PySem.Shared → Prop} {s : PySem.Shared} (h : Q .none s) : PySem.wpAny (PySem.model prog w) A (pure .none) Q E s := by
  w_top off
  first
  | (walk1; fail "reset")
  | exact PySem.wpAny_pure h
section -- G2
section
variable {w : World} {p : Program} {loose : List Str} {mean : ExcName → Option Value} {mg mb : Str → Option Value} {dp un : Nat} {gd : Option (List Code)} {cn : Str} {cs : Scope} {fa : Addr} {ccd : Value} {cl : List (Str × Addr)} {outer : List Env} {A₀ : Around} {base h₀ : Heap} {L : Addr} {s : Shared} {Q : Flow → Shared → Prop} {E : Value → Shared → Prop}
  {R : List (Addr × Obj)} {m : Str → Option Value} {r dr zl la lf c0 l0 P : Addr} {o0 oP : Obj} {c mn : Int} {tc tm u1 u2 u3 u4 u5 u6 u7 : Tok} {zvs vals avs mvs fvs : List Value} {nz na nf : Nat} {as ms ns fs : List Int}
theorem G2 (B : Below A₀ base outer h₀) (F : Fr h₀ L s.heap m) (hm₀ : ∀ p ∈ ([] : List (Str × Value)), m p.1 = some p.2) (X : (hd.heap_1 w.params).In h₀) (N : News h₀ L s.heap R) (T : Top p loose mean mg mb h₀) (hcs : cs = lawS w)
    (hdp : dp + 20 < 1000) (hu : un + 200 < 9900) (hcc : cl.lookup (nm "script") = some c0) (hc0 : (c0, o0) ∈ R) (ho0 : o0.data = .cell (some (.ref l0))) (hl0 : h₀.IsList l0 vals.toArray) (hns : IntsAre vals ns) (hnl : ns.length ≤ 63)
    (hQ : ∀ tm h tk, Fr h₀ L h (fun y => if y = nm "many" then some (.int (if 256 < (drw ns 1).fmod 300 then 256 else (drw ns 1).fmod 300) tm) else m y) → News h₀ L h (R) → Q .next { s with heap := h, toks := tk }) :
    wpAny (model PySem.Challenge.rw_yi0009_01.row.prog w) (ktrTop dp un gd cn cs L fa ccd cl outer) (execs (List.take 1 (List.drop 2 (lawB w))) (envX cn cs L fa ccd cl)) Q E s := by
  have e₀ : kstB m [] = m := by
    funext z
    exact kstB_eq hm₀ fun _ => rfl
  rw [← e₀] at F
  have hQ' := hQ
  (try rw [← e₀] at hQ')
  clear hQ
  clear e₀ hm₀
  dsimp only [kstB] at F
  have kMark : KstMark := kstMark
  walk_at "LAW"
  k_steps
  all_goals (try k_data)
  with_reducible rename Fr _ _ _ _ => lF
  with_reducible rename News _ _ _ _ => lN
  exact hQ' _ _ _ lF lN

end
end
theorem reset_G3 {prog : PySem.Program} {w : PySem.World} {A : PySem.Around} {E : PySem.Value → PySem.Shared → Prop} {Q : PySem.Value → PySem.Shared → Prop} {s : PySem.Shared} (h : Q .none s) : PySem.wpAny (PySem.model prog w) A (pure .none) Q E s := by
  w_top off
  first
  | (walk1; fail "reset")
  | exact PySem.wpAny_pure h
section -- G3
section
variable {w : World} {p : Program} {loose : List Str} {mean : ExcName → Option Value} {mg mb : Str → Option Value} {dp un : Nat} {gd : Option (List Code)} {cn : Str} {cs : Scope} {fa : Addr} {ccd : Value} {cl : List (Str × Addr)} {outer : List Env} {A₀ : Around} {base h₀ : Heap} {L : Addr} {s : Shared} {Q : Flow → Shared → Prop} {E : Value → Shared → Prop}
  {R : List (Addr × Obj)} {m : Str → Option Value} {r dr zl la lf c0 l0 P : Addr} {o0 oP : Obj} {c mn : Int} {tc tm u1 u2 u3 u4 u5 u6 u7 : Tok} {zvs vals avs mvs fvs : List Value} {nz na nf : Nat} {as ms ns fs : List Int}
theorem clos_script {env : Env} {c0 : Addr} {scope : Scope} (hcc : env.cells.lookup (nm "script") = some c0) (hs : scope.names = [(nm ".0", NameKind.local), (nm "i", NameKind.local), (nm "_law_draw", NameKind.globalImplicit), (nm "script", NameKind.free)]) :
    closureFor scope env = pure [(nm "script", c0)] := by
  have e : cellOf env (nm "script") = pure c0 := by
    unfold cellOf
    rw [hcc]
  unfold closureFor
  rw [hs]
  simp only [List.forIn_cons, List.forIn_nil]
  have k1 : (NameKind.local == NameKind.free) = false := rfl
  have k2 : (NameKind.globalImplicit == NameKind.free) = false := rfl
  have k3 : (NameKind.free == NameKind.free) = true := rfl
  simp only [k1, k2, k3, Bool.false_eq_true, if_false, if_true]
  rw [e]
  rfl
theorem G3 (B : Below A₀ base outer h₀) (F : Fr h₀ L s.heap m) (hm₀ : ∀ p ∈ ([(nm "many", .int mn tm)] : List (Str × Value)), m p.1 = some p.2) (X : (hd.heap_1 w.params).In h₀) (N : News h₀ L s.heap R) (T : Top p loose mean mg mb h₀) (hcs : cs = lawS w)
    (hdp : dp + 20 < 1000) (hu : un + 200 < 9900) (hcc : cl.lookup (nm "script") = some c0) (hc0 : (c0, o0) ∈ R) (ho0 : o0.data = .cell (some (.ref l0))) (hl0 : h₀.IsList l0 vals.toArray) (hns : IntsAre vals ns) (hnl : ns.length ≤ 63) (hm1 : 0 ≤ mn) (hm2 : mn ≤ 256)
    (hQ : ∀ la avs na h tk, Fr h₀ L h (fun y => if y = nm "a" then some (.ref la) else m y) → News h₀ L h ((la, W.listOf avs.toArray na) :: R) → IntsAre avs ((rangeKs 0 mn.toNat).map (fun i => drw ns (2 + i)) ++ List.replicate (256 - mn).toNat 0) → (∀ p ∈ R, p.1 < la) → Q .next { s with heap := h, toks := tk }) :
    wpAny (model PySem.Challenge.rw_yi0009_01.row.prog w) (ktrTop dp un gd cn cs L fa ccd cl outer) (execs (List.take 1 (List.drop 3 (lawB w))) (envX cn cs L fa ccd cl)) Q E s := by
  have e₀ : kstB m [(nm "many", .int mn tm)] = m := by
    funext z
    exact kstB_eq hm₀ fun _ => rfl
  rw [← e₀] at F
  have hQ' := hQ
  (try rw [← e₀] at hQ')
  clear hQ
  clear e₀ hm₀
  dsimp only [kstB] at F
  have kMark : KstMark := kstMark
  walk_at "LAW"
  repeat' (first | ((fail_if_success (with_reducible show wpAny _ _ (eval (PySem.Expr.ListComp _ _ _ _) _) _ _ _)); (fail_if_success (with_reducible show wpAny _ _ (exec (PySem.Stmt.Assign _ (PySem.Expr.ListComp _ _ _ _) _) _) _ _ _)); first | (k_unfold; (try dsimp only)) | (k_end; wrow_close) | walk1 | (dsimp only; walk1) | (leave1; walk_say "STEP leave1"; try dsimp only)))
  refine LCg.ListComp_U (cl := [(nm "script", c0)]) (F₀ := by k_asm) (clos_script hcc rfl) (by decide) (by rfl) (by decide) (by rfl) ?_
  repeat' ((with_reducible show wpAny _ _ _ _ _ _); first | (k_unfold; (try dsimp only)) | walk1 | (dsimp only; walk1) | (leave1; walk_say "STEP leave1"; try dsimp only))
  refine LCg.CompSrc.range (n := mn.toNat) (by rfl) (by k_asm) (by k_asm) (by assumption) (small_one (by decide) (by decide) (by omega) (by omega)) (by rw [rangeSize_nat, Int.sub_zero]) (by rw [sizeLine_eq]; omega) ?_
  intro g'
  refine' kcf_range (fun i => drw ns (2 + i)) (fun k' t' I' oI' C' oC' D' m' ys' h' tk' E' hlo' hhi' hC' hx' F' N' off' ne' hMark' => ?_) ?_
  · have hc1 : (c0, o0) ∈ (I', oI') :: (C', oC') :: (D', LCg.lst ys') :: R := .tail _ (.tail _ (.tail _ hc0))
    k_steps
  · unfold KPfDone
    intro ys hys
    unfold LCg.FinE
    intro D' h'' tk'' F'' N'' o1'
    k_steps
    with_reducible rename Fr _ _ _ _ => lF
    with_reducible rename News _ _ _ _ => lN
    with_reducible rename _ ∧ _ ∧ _ ∧ AllLt _ _ => lA
    with_reducible rename IntsAre _ (_ ++ _) => lI
    rw [List.flatten_replicate_singleton] at lI
    exact hQ' _ _ _ _ _ lF (news_sub lN (by kcf_all)) lI (allLt_mem lA.2.2.2)

end
end
theorem reset_G4 {prog : PySem.Program} {w : PySem.World} {A : PySem.Around} {E : PySem.Value → PySem.Shared → Prop} {Q : PySem.Value → PySem.Shared → Prop} {s : PySem.Shared} (h : Q .none s) : PySem.wpAny (PySem.model prog w) A (pure .none) Q E s := by
  w_top off
  first
  | (walk1; fail "reset")
  | exact PySem.wpAny_pure h
section -- G4
section
variable {w : World} {p : Program} {loose : List Str} {mean : ExcName → Option Value} {mg mb : Str → Option Value} {dp un : Nat} {gd : Option (List Code)} {cn : Str} {cs : Scope} {fa : Addr} {ccd : Value} {cl : List (Str × Addr)} {outer : List Env} {A₀ : Around} {base h₀ : Heap} {L : Addr} {s : Shared} {Q : Flow → Shared → Prop} {E : Value → Shared → Prop}
  {R : List (Addr × Obj)} {m : Str → Option Value} {r dr zl la lf c0 l0 P : Addr} {o0 oP : Obj} {c mn : Int} {tc tm u1 u2 u3 u4 u5 u6 u7 : Tok} {zvs vals avs mvs fvs : List Value} {nz na nf : Nat} {as ms ns fs : List Int}
theorem G4 (B : Below A₀ base outer h₀) (F : Fr h₀ L s.heap m) (hm₀ : ∀ p ∈ ([(nm "a", .ref la)] : List (Str × Value)), m p.1 = some p.2) (X : (hd.heap_1 w.params).In h₀) (N : News h₀ L s.heap R) (T : Top p loose mean mg mb h₀) (hcs : cs = lawS w)
    (hdp : dp + 20 < 1000) (hu : un + 200 < 9900) (hla : (la, W.listOf avs.toArray na) ∈ R) (ha : IntsAre avs as) (hlen : as.length = 256)
    (hQ : ∀ lm mvs nmm h tk, Fr h₀ L h (fun y => if y = nm "minus" then some (.ref lm) else m y) → News h₀ L h ((lm, W.listOf mvs.toArray nmm) :: R) → IntsAre mvs (as.map fun x => (-x).fmod 3329) → Q .next { s with heap := h, toks := tk }) :
    wpAny (model PySem.Challenge.rw_yi0009_01.row.prog w) (ktrTop dp un gd cn cs L fa ccd cl outer) (execs (List.take 1 (List.drop 4 (lawB w))) (envX cn cs L fa ccd cl)) Q E s := by
  have e₀ : kstB m [(nm "a", .ref la)] = m := by
    funext z
    exact kstB_eq hm₀ fun _ => rfl
  rw [← e₀] at F
  have hQ' := hQ
  (try rw [← e₀] at hQ')
  clear hQ
  clear e₀ hm₀
  dsimp only [kstB] at F
  have kMark : KstMark := kstMark
  walk_at "LAW"
  repeat' (first | ((fail_if_success (with_reducible show wpAny _ _ (eval (PySem.Expr.ListComp _ _ _ _) _) _ _ _)); (fail_if_success (with_reducible show wpAny _ _ (exec (PySem.Stmt.Assign _ (PySem.Expr.ListComp _ _ _ _) _) _) _ _ _)); first | (k_unfold; (try dsimp only)) | (k_end; wrow_close) | walk1 | (dsimp only; walk1) | (leave1; walk_say "STEP leave1"; try dsimp only)))
  refine LCg.Assign_ListComp_U (F₀ := by k_asm) (by rfl) (by with_unfolding_all rfl) (by with_unfolding_all rfl) (by decide) (by rfl) (by decide) (by rfl) (by rfl) (by rfl) ?_
  repeat' ((with_reducible show wpAny _ _ _ _ _ _); first | (k_unfold; (try dsimp only)) | walk1 | (dsimp only; walk1) | (leave1; walk_say "STEP leave1"; try dsimp only))
  refine LCg.CompSrc.ledger (by rfl) (by k_asm) (by k_asm) (by k_mem) (sz256 (by assumption) (by assumption)) ?_
  intro g'
  refine' kcf_list (fun x => (-x).fmod 3329) (by assumption) (fun k' t' I' oI' C' oC' D' m' ys' h' tk' E' hk' hC' hx' F' N' off' ne' hMark' => ?_) ?_
  · k_steps
  · unfold KPfDone
    intro ys hys
    unfold LCg.FinA
    intro D' h'' tk'' F'' N'' o1'
    k_steps
    with_reducible rename Fr _ _ _ _ => lF
    with_reducible rename News _ _ _ _ => lN
    exact hQ' _ _ _ _ _ lF lN hys

end
end
theorem reset_G5 {prog : PySem.Program} {w : PySem.World} {A : PySem.Around} {E : PySem.Value → PySem.Shared → Prop} {Q : PySem.Value → PySem.Shared → Prop} {s : PySem.Shared} (h : Q .none s) : PySem.wpAny (PySem.model prog w) A (pure .none) Q E s := by
  w_top off
  first
  | (walk1; fail "reset")
  | exact PySem.wpAny_pure h
section -- G5
section
variable {w : World} {p : Program} {loose : List Str} {mean : ExcName → Option Value} {mg mb : Str → Option Value} {dp un : Nat} {gd : Option (List Code)} {cn : Str} {cs : Scope} {fa : Addr} {ccd : Value} {cl : List (Str × Addr)} {outer : List Env} {A₀ : Around} {base h₀ : Heap} {L : Addr} {s : Shared} {Q : Flow → Shared → Prop} {E : Value → Shared → Prop}
  {R : List (Addr × Obj)} {m : Str → Option Value} {r dr zl la lf c0 l0 P : Addr} {o0 oP : Obj} {c mn : Int} {tc tm u1 u2 u3 u4 u5 u6 u7 : Tok} {zvs vals avs mvs fvs : List Value} {nz na nf : Nat} {as ms ns fs : List Int}
theorem G5 (B : Below A₀ base outer h₀) (F : Fr h₀ L s.heap m) (hm₀ : ∀ p ∈ ([] : List (Str × Value)), m p.1 = some p.2) (X : (hd.heap_1 w.params).In h₀) (N : News h₀ L s.heap R) (T : Top p loose mean mg mb h₀) (hcs : cs = lawS w)
    (hdp : dp + 20 < 1000) (hu : un + 200 < 9900) 
    (hQ : ∀ lf nf h tk, Fr h₀ L h (fun y => if y = nm "first" then some (.ref lf) else m y) → News h₀ L h ((lf, W.listOf ([] : List Value).toArray nf) :: R) → (∀ p ∈ R, p.1 < lf) → Q .next { s with heap := h, toks := tk }) :
    wpAny (model PySem.Challenge.rw_yi0009_01.row.prog w) (ktrTop dp un gd cn cs L fa ccd cl outer) (execs (List.take 1 (List.drop 5 (lawB w))) (envX cn cs L fa ccd cl)) Q E s := by
  have e₀ : kstB m [] = m := by
    funext z
    exact kstB_eq hm₀ fun _ => rfl
  rw [← e₀] at F
  have hQ' := hQ
  (try rw [← e₀] at hQ')
  clear hQ
  clear e₀ hm₀
  dsimp only [kstB] at F
  have kMark : KstMark := kstMark
  walk_at "LAW"
  repeat' (first | ((fail_if_success (with_reducible show wpAny _ _ (eval (PySem.Expr.ListComp _ _ _ _) _) _ _ _)); (fail_if_success (with_reducible show wpAny _ _ (newList _) _ _ _)); first | (k_unfold; (try dsimp only)) | (k_end; wrow_close) | walk1 | (dsimp only; walk1) | (leave1; walk_say "STEP leave1"; try dsimp only)))
  with_reducible rename Fr _ _ _ _ => lF
  with_reducible rename News _ _ _ _ => lN
  refine newList_N lF lN (fun h9 F9 N9 => ?_) (by simp only [sizeLine_eq, List.length_nil]; omega)
  have lt := fun p hp => Heap.lt_size (lN p hp).1
  clear lF lN
  k_steps
  all_goals (try k_data)
  with_reducible rename Fr _ _ _ _ => lF
  with_reducible rename News _ _ _ _ => lN
  exact hQ' _ _ _ _ lF lN lt

end
end
theorem reset_G6 {prog : PySem.Program} {w : PySem.World} {A : PySem.Around} {E : PySem.Value → PySem.Shared → Prop} {Q : PySem.Value → PySem.Shared → Prop} {s : PySem.Shared} (h : Q .none s) : PySem.wpAny (PySem.model prog w) A (pure .none) Q E s := by
  w_top off
  first
  | (walk1; fail "reset")
  | exact PySem.wpAny_pure h
section -- G6
section
variable {w : World} {p : Program} {loose : List Str} {mean : ExcName → Option Value} {mg mb : Str → Option Value} {dp un : Nat} {gd : Option (List Code)} {cn : Str} {cs : Scope} {fa : Addr} {ccd : Value} {cl : List (Str × Addr)} {outer : List Env} {A₀ : Around} {base h₀ : Heap} {L : Addr} {s : Shared} {Q : Flow → Shared → Prop} {E : Value → Shared → Prop}
  {R : List (Addr × Obj)} {m : Str → Option Value} {r dr zl la lf c0 l0 P : Addr} {o0 oP : Obj} {c mn : Int} {tc tm u1 u2 u3 u4 u5 u6 u7 : Tok} {zvs vals avs mvs fvs : List Value} {nz na nf : Nat} {as ms ns fs : List Int}
local macro_rules | `(tactic| passes_own) => `(tactic| assumption)
structure SF where
  i : Nat
  vs : List Value
  n : Nat
theorem pz_bd : ∀ m : Fin 128, 0 ≤ pz m.val ∧ pz m.val < 3329 := by decide +kernel
theorem pz_bits {k : Int} (h0 : 0 ≤ k) (h1 : k < 128) : Builtin.Int.intBits (pz k.toNat) ≤ 64 := by
  have := pz_bd ⟨k.toNat, by omega⟩
  dsimp only at this
  exact PySem.intBits_le_64 (by omega) (by omega)
theorem pow17 {prog : Program} {A : Around} {E Q : Value → Shared → Prop} {s : Shared} {k : Int} {t u v : Tok} (h0 : 0 ≤ k) (h1 : k < 128) (h : ∀ tk, Q (.int (pz k.toNat) tk) { s with toks := tk + 1 }) :
    wpAny (model prog w) A (call (.builtin "pow") [.int 17 t, .int (256 - k) u, .int 3329 v]) Q E s := by
  refine pow3 (by omega) (by decide) fun tk => ?_
  have e : ((Builtin.powMod ((17 : Int) % (((3329 : Int).natAbs : Nat) : Int)).toNat ((256 : Int) - k).natAbs (3329 : Int).natAbs : Nat) : Int) = pz k.toNat := by
    unfold pz
    congr 2
    omega
  rw [e]; exact h tk
theorem my_append {prog : Program} {A : Around} {E Q : Value → Shared → Prop} {s : Shared} {m : Str → Option Value} {l : Addr} {x : Value} {vs : List Value} {n : Nat} {rest : List (Addr × Obj)} (F : Fr h₀ L s.heap m) (N : News h₀ L s.heap ((l, W.listOf vs.toArray n) :: rest)) (h2 : ∀ p ∈ rest, p.1 ≠ l) (hsz : vs.length ≤ sizeLine)
    (h : ∀ h', Fr h₀ L h' m → News h₀ L h' ((l, W.listOf (vs ++ [x]).toArray (n + 1)) :: rest) → Q .none { s with heap := h' }) : wpAny (model prog w) A (call (.builtin "list.append") [.ref l, x]) Q E s := by
  have hl := N _ (.head _)
  refine append_at (hsz := by simpa using hsz) hl.1 fun h' hs hD => h h' (F.change hs hl.2.1 hl.2.2) fun q hq => ?_
  rcases List.mem_cons.mp hq with rfl | hq
  · refine ⟨?_, hl.2⟩
    rw [hD]
    simp [W.listOf]
  · exact ⟨hs.extBut _ _ (h2 q hq) (N q (.tail _ hq)).1, (N q (.tail _ hq)).2⟩
local macro_rules | `(tactic| walk_at "call builtin:pow") => `(tactic| ((with_reducible show wpAny _ _ (call (Value.builtin "pow") [Value.int _ _, Value.int _ _, Value.int _ _]) _ _ _); refine pow17 (by omega) (by omega) ?_; intro _))
local macro_rules | `(tactic| mul_fits) => `(tactic| exact PySem.IntMulOk.of_right (pz_bits (by omega) (by omega)))
theorem G6 (B : Below A₀ base outer h₀) (F : Fr h₀ L s.heap m) (hm₀ : ∀ p ∈ ([(nm "ring", .ref r), (nm "c", .int c tc), (nm "a", .ref la), (nm "minus", .ref lm), (nm "first", .ref lf)] : List (Str × Value)), m p.1 = some p.2) (X : (hd.heap_1 w.params).In h₀) (N : News h₀ L s.heap ((lf, W.listOf ([] : List Value).toArray nf) :: R)) (T : Top p loose mean mg mb h₀) (hcs : cs = lawS w)
    (hdp : dp + 20 < 1000) (hu : un + 200 < 9900) (hcl : ∀ p ∈ R, p.1 ≠ lf) (hE : PassesOwn (model PySem.Challenge.rw_yi0009_01.row.prog w) (ktrTop dp un gd cn cs L fa ccd cl outer) (envX cn cs L fa ccd cl) E)
    (hQ : ∀ m' fvs nf h tk, Fr h₀ L h m' → (∀ p ∈ ([(nm "ring", .ref r), (nm "c", .int c tc), (nm "a", .ref la), (nm "minus", .ref lm), (nm "first", .ref lf)] : List (Str × Value)), m' p.1 = some p.2) → News h₀ L h ((lf, W.listOf fvs.toArray nf) :: R) → IntsAre fvs (fsL c 128) → Q .next { s with heap := h, toks := tk }) :
    wpAny (model PySem.Challenge.rw_yi0009_01.row.prog w) (ktrTop dp un gd cn cs L fa ccd cl outer) (execs (List.take 1 (List.drop 6 (lawB w))) (envX cn cs L fa ccd cl)) Q E s := by
  have e₀ : kstB m [(nm "ring", .ref r), (nm "c", .int c tc), (nm "a", .ref la), (nm "minus", .ref lm), (nm "first", .ref lf)] = m := by
    funext z
    exact kstB_eq hm₀ fun _ => rfl
  rw [← e₀] at F
  have hQ' := hQ
  (try rw [← e₀] at hQ')
  clear hQ
  clear e₀ hm₀
  dsimp only [kstB] at F
  have kMark : KstMark := kstMark
  walk_at "LAW"
  repeat' (first | ((fail_if_success (with_reducible show wpAny _ _ (pyIter _) _ _ _)); first | (k_unfold; (try dsimp only)) | (k_end; wrow_close) | walk1 | (dsimp only; walk1) | (leave1; walk_say "STEP leave1"; try dsimp only)))
  with_reducible rename Fr _ _ _ _ => lF
  with_reducible rename News _ _ _ _ => lN
  with_reducible rename IsRange _ _ _ _ _ _ _ _ => lR
  refine my_range (σ := SF) (n := 128) (fun _ => [(nm "ring", .ref r), (nm "c", .int c tc), (nm "a", .ref la), (nm "minus", .ref lm), (nm "first", .ref lf)])
    (fun e => (lf, W.listOf e.vs.toArray e.n) :: R) (fun i e => e.i = i ∧ IntsAre e.vs (fsL c i)) ⟨0, [], nf⟩ (fun _ => rfl) rfl lR (small_one (by omega) (by omega) (by omega) (by omega)) (by rw [rangeSize_nat]; rfl) lF lN (by walk_at "NAMES") ⟨rfl, .nil⟩ ?_ ?_
  · clear lF lN
    rintro i e tj u3 h3 tk3 own hin hoff ⟨he1, he2⟩ F3 N3
    dsimp only [kstB, List.cons_append] at F3 N3
    have hlen := IntsAre.length he2
    rw [len_fsL] at hlen
    have hRo : ∀ p ∈ R ++ own, p.1 ≠ lf := List.forall_mem_append.mpr ⟨hcl, fun p hp => hoff p hp _ (.head _)⟩
    repeat' (first | ((fail_if_success (with_reducible show wpAny _ _ (call (Value.builtin "list.append") _) _ _ _)); (fail_if_success (with_reducible show TurnEnd _ _ _ _ _ _ _)); first | (k_unfold; (try dsimp only)) | (k_end; wrow_close) | walk1 | (dsimp only; walk1) | (leave1; walk_say "STEP leave1"; try dsimp only)))
    with_reducible rename Fr _ _ _ _ => lF
    with_reducible rename News _ _ _ _ => lN
    refine my_append lF lN hRo (by rw [sizeLine_eq]; omega) ?_
    clear lF lN
    intro h9 F9 N9
    repeat' (first | ((fail_if_success (with_reducible show wpAny _ _ (call (Value.builtin "list.append") _) _ _ _)); (fail_if_success (with_reducible show TurnEnd _ _ _ _ _ _ _)); first | (k_unfold; (try dsimp only)) | (k_end; wrow_close) | walk1 | (dsimp only; walk1) | (leave1; walk_say "STEP leave1"; try dsimp only)))
    with_reducible rename Fr _ _ _ _ => lF
    with_reducible rename News _ _ _ _ => lN
    refine my_append lF lN hRo (by rw [sizeLine_eq]; simp only [List.length_append, List.length_cons, List.length_nil]; omega) ?_
    clear lF lN
    intro h9 F9 N9
    repeat' (first | ((fail_if_success (with_reducible show wpAny _ _ (call (Value.builtin "list.append") _) _ _ _)); (fail_if_success (with_reducible show TurnEnd _ _ _ _ _ _ _)); first | (k_unfold; (try dsimp only)) | (k_end; wrow_close) | walk1 | (dsimp only; walk1) | (leave1; walk_say "STEP leave1"; try dsimp only)))
    with_reducible rename Fr _ _ _ _ => lF
    with_reducible rename News _ _ _ _ => lN
    have hz : (0 + (i : Int)).toNat = i := by omega
    refine TurnEnd.intro (SF.mk (i + 1) _ _) lF lN (fun p hp => hp) (by walk_at "NAMES") ⟨rfl, ?_⟩
    rw [hz]
    exact IntsAre.append (IntsAre.append he2 (.cons _ _ .nil)) (.cons _ _ .nil)
  · clear lF lN
    rintro e u3 h3 tk3 ⟨he1, he2⟩ F3 N3
    dsimp only [kstB] at F3
    walk_at "TO LOOP"
    with_reducible rename Fr _ _ _ _ => lF
    with_reducible rename News _ _ _ _ => lN
    exact hQ' _ _ _ _ _ lF (by walk_at "NAMES") lN he2

end
end
theorem reset_G7 {prog : PySem.Program} {w : PySem.World} {A : PySem.Around} {E : PySem.Value → PySem.Shared → Prop} {Q : PySem.Value → PySem.Shared → Prop} {s : PySem.Shared} (h : Q .none s) : PySem.wpAny (PySem.model prog w) A (pure .none) Q E s := by
  w_top off
  first
  | (walk1; fail "reset")
  | exact PySem.wpAny_pure h
section -- G7
section
variable {w : World} {p : Program} {loose : List Str} {mean : ExcName → Option Value} {mg mb : Str → Option Value} {dp un : Nat} {gd : Option (List Code)} {cn : Str} {cs : Scope} {fa : Addr} {ccd : Value} {cl : List (Str × Addr)} {outer : List Env} {A₀ : Around} {base h₀ : Heap} {L : Addr} {s : Shared} {Q : Flow → Shared → Prop} {E : Value → Shared → Prop}
  {R : List (Addr × Obj)} {m : Str → Option Value} {r dr zl la lf c0 l0 P : Addr} {o0 oP : Obj} {c mn : Int} {tc tm u1 u2 u3 u4 u5 u6 u7 : Tok} {zvs vals avs mvs fvs : List Value} {nz na nf : Nat} {as ms ns fs : List Int}
theorem G7 (B : Below A₀ base outer h₀) (F : Fr h₀ L s.heap m) (hm₀ : ∀ p ∈ ([(nm "a", .ref la), (nm "first", .ref lf)] : List (Str × Value)), m p.1 = some p.2) (X : (hd.heap_1 w.params).In h₀) (N : News h₀ L s.heap R) (T : Top p loose mean mg mb h₀) (hcs : cs = lawS w)
    (hdp : dp + 20 < 1000) (hu : un + 200 < 9900) (hla : (la, W.listOf avs.toArray na) ∈ R) (ha : IntsAre avs as) (hlen : as.length = 256) (hlf : (lf, W.listOf fvs.toArray nf) ∈ R) (hf : IntsAre fvs fs) (hfl : fs.length = 256)
    (hQ : ∀ lu uvs nu h tk, Fr h₀ L h (fun y => if y = nm "up" then some (.ref lu) else m y) → News h₀ L h ((lu, W.listOf uvs.toArray nu) :: R) → IntsAre uvs (List.zipWith (fun x y => (128 * x + y).fmod 3329) as fs) → Q .next { s with heap := h, toks := tk }) :
    wpAny (model PySem.Challenge.rw_yi0009_01.row.prog w) (ktrTop dp un gd cn cs L fa ccd cl outer) (execs (List.take 1 (List.drop 7 (lawB w))) (envX cn cs L fa ccd cl)) Q E s := by
  have e₀ : kstB m [(nm "a", .ref la), (nm "first", .ref lf)] = m := by
    funext z
    exact kstB_eq hm₀ fun _ => rfl
  rw [← e₀] at F
  have hQ' := hQ
  (try rw [← e₀] at hQ')
  clear hQ
  clear e₀ hm₀
  dsimp only [kstB] at F
  have kMark : KstMark := kstMark
  walk_at "LAW"
  repeat' (first | ((fail_if_success (with_reducible show wpAny _ _ (exec (PySem.Stmt.Assign _ (PySem.Expr.ListComp _ _ _ _) _) _) _ _ _)); first | (k_unfold; (try dsimp only)) | (k_end; wrow_close) | walk1 | (dsimp only; walk1) | (leave1; walk_say "STEP leave1"; try dsimp only)))
  refine my_zip (m := _) (by k_asm) rfl (by with_unfolding_all rfl) (by with_unfolding_all rfl) (by decide) (by rfl) (by decide) (by rfl) (by rfl) (by decide) (by rfl) (by rfl) ?_
  repeat' ((with_reducible show wpAny _ _ _ _ _ _); (fail_if_success (with_reducible show wpAny _ _ (call (Value.type "zip") _) _ _ _)); first | (k_unfold; (try dsimp only)) | walk1 | (dsimp only; walk1) | (leave1; walk_say "STEP leave1"; try dsimp only))
  with_reducible rename Fr _ _ _ _ => lF
  with_reducible rename News _ _ _ _ => lN
  refine zip_call (fun x y => (128 * x + y).fmod 3329) lF lN hla hlf ha hf hlen hfl ?_ ?_
  · clear lF lN
    intro C m₂ k1 k2 t1 t2 s' Q' E' hn h1 h2 hq
    obtain ⟨hp6, g6, d6, tk6, os6⟩ := s'
    repeat' ((with_reducible show wpAny _ _ _ _ _ _); first | ((with_reducible show wpAny _ _ (eval (PySem.Expr.Name (PySem.Str.ofString "x") _) _) _ _ _); refine wpAny_Name (wpAny_loadName_local rfl rfl hn h1 ?_)) | ((with_reducible show wpAny _ _ (eval (PySem.Expr.Name (PySem.Str.ofString "y") _) _) _ _ _); refine wpAny_Name (wpAny_loadName_local rfl rfl hn h2 ?_)) | walk1 | (dsimp only; walk1))
    exact hq _ _
  · clear lF lN
    rintro s₂ ⟨g9, rfl⟩ vs hI D h9 tk9 F9 N9 lt9
    k_steps
    with_reducible rename Fr _ _ _ _ => lF
    with_reducible rename News _ _ _ _ => lN
    exact hQ' _ _ _ _ _ lF lN hI

end
end
theorem reset_G8 {prog : PySem.Program} {w : PySem.World} {A : PySem.Around} {E : PySem.Value → PySem.Shared → Prop} {Q : PySem.Value → PySem.Shared → Prop} {s : PySem.Shared} (h : Q .none s) : PySem.wpAny (PySem.model prog w) A (pure .none) Q E s := by
  w_top off
  first
  | (walk1; fail "reset")
  | exact PySem.wpAny_pure h
section -- G8
section
variable {w : World} {p : Program} {loose : List Str} {mean : ExcName → Option Value} {mg mb : Str → Option Value} {dp un : Nat} {gd : Option (List Code)} {cn : Str} {cs : Scope} {fa : Addr} {ccd : Value} {cl : List (Str × Addr)} {outer : List Env} {A₀ : Around} {base h₀ : Heap} {L : Addr} {s : Shared} {Q : Flow → Shared → Prop} {E : Value → Shared → Prop}
  {R : List (Addr × Obj)} {m : Str → Option Value} {r dr zl la lf c0 l0 P : Addr} {o0 oP : Obj} {c mn : Int} {tc tm u1 u2 u3 u4 u5 u6 u7 : Tok} {zvs vals avs mvs fvs : List Value} {nz na nf : Nat} {as ms ns fs : List Int}
theorem G8 (B : Below A₀ base outer h₀) (F : Fr h₀ L s.heap m) (hm₀ : ∀ p ∈ ([(nm "a", .ref la), (nm "first", .ref lf)] : List (Str × Value)), m p.1 = some p.2) (X : (hd.heap_1 w.params).In h₀) (N : News h₀ L s.heap R) (T : Top p loose mean mg mb h₀) (hcs : cs = lawS w)
    (hdp : dp + 20 < 1000) (hu : un + 200 < 9900) (hla : (la, W.listOf avs.toArray na) ∈ R) (ha : IntsAre avs as) (hlen : as.length = 256) (hlf : (lf, W.listOf fvs.toArray nf) ∈ R) (hf : IntsAre fvs fs) (hfl : fs.length = 256)
    (hQ : ∀ lu uvs nu h tk, Fr h₀ L h (fun y => if y = nm "down" then some (.ref lu) else m y) → News h₀ L h ((lu, W.listOf uvs.toArray nu) :: R) → IntsAre uvs (List.zipWith (fun x y => (128 * x - y).fmod 3329) as fs) → Q .next { s with heap := h, toks := tk }) :
    wpAny (model PySem.Challenge.rw_yi0009_01.row.prog w) (ktrTop dp un gd cn cs L fa ccd cl outer) (execs (List.take 1 (List.drop 8 (lawB w))) (envX cn cs L fa ccd cl)) Q E s := by
  have e₀ : kstB m [(nm "a", .ref la), (nm "first", .ref lf)] = m := by
    funext z
    exact kstB_eq hm₀ fun _ => rfl
  rw [← e₀] at F
  have hQ' := hQ
  (try rw [← e₀] at hQ')
  clear hQ
  clear e₀ hm₀
  dsimp only [kstB] at F
  have kMark : KstMark := kstMark
  walk_at "LAW"
  repeat' (first | ((fail_if_success (with_reducible show wpAny _ _ (exec (PySem.Stmt.Assign _ (PySem.Expr.ListComp _ _ _ _) _) _) _ _ _)); first | (k_unfold; (try dsimp only)) | (k_end; wrow_close) | walk1 | (dsimp only; walk1) | (leave1; walk_say "STEP leave1"; try dsimp only)))
  refine my_zip (m := _) (by k_asm) rfl (by with_unfolding_all rfl) (by with_unfolding_all rfl) (by decide) (by rfl) (by decide) (by rfl) (by rfl) (by decide) (by rfl) (by rfl) ?_
  repeat' ((with_reducible show wpAny _ _ _ _ _ _); (fail_if_success (with_reducible show wpAny _ _ (call (Value.type "zip") _) _ _ _)); first | (k_unfold; (try dsimp only)) | walk1 | (dsimp only; walk1) | (leave1; walk_say "STEP leave1"; try dsimp only))
  with_reducible rename Fr _ _ _ _ => lF
  with_reducible rename News _ _ _ _ => lN
  refine zip_call (fun x y => (128 * x - y).fmod 3329) lF lN hla hlf ha hf hlen hfl ?_ ?_
  · clear lF lN
    intro C m₂ k1 k2 t1 t2 s' Q' E' hn h1 h2 hq
    obtain ⟨hp6, g6, d6, tk6, os6⟩ := s'
    repeat' ((with_reducible show wpAny _ _ _ _ _ _); first | ((with_reducible show wpAny _ _ (eval (PySem.Expr.Name (PySem.Str.ofString "x") _) _) _ _ _); refine wpAny_Name (wpAny_loadName_local rfl rfl hn h1 ?_)) | ((with_reducible show wpAny _ _ (eval (PySem.Expr.Name (PySem.Str.ofString "y") _) _) _ _ _); refine wpAny_Name (wpAny_loadName_local rfl rfl hn h2 ?_)) | walk1 | (dsimp only; walk1))
    exact hq _ _
  · clear lF lN
    rintro s₂ ⟨g9, rfl⟩ vs hI D h9 tk9 F9 N9 lt9
    k_steps
    with_reducible rename Fr _ _ _ _ => lF
    with_reducible rename News _ _ _ _ => lN
    exact hQ' _ _ _ _ _ lF lN hI

end
end
theorem reset_G9 {prog : PySem.Program} {w : PySem.World} {A : PySem.Around} {E : PySem.Value → PySem.Shared → Prop} {Q : PySem.Value → PySem.Shared → Prop} {s : PySem.Shared} (h : Q .none s) : PySem.wpAny (PySem.model prog w) A (pure .none) Q E s := by
  w_top off
  first
  | (walk1; fail "reset")
  | exact PySem.wpAny_pure h
section -- G9
section
variable {w : World} {p : Program} {loose : List Str} {mean : ExcName → Option Value} {mg mb : Str → Option Value} {dp un : Nat} {gd : Option (List Code)} {cn : Str} {cs : Scope} {fa : Addr} {ccd : Value} {cl : List (Str × Addr)} {outer : List Env} {A₀ : Around} {base h₀ : Heap} {L : Addr} {s : Shared} {Q : Flow → Shared → Prop} {E : Value → Shared → Prop}
  {R : List (Addr × Obj)} {m : Str → Option Value} {r dr zl la lf c0 l0 P : Addr} {o0 oP : Obj} {c mn : Int} {tc tm u1 u2 u3 u4 u5 u6 u7 : Tok} {zvs vals avs mvs fvs : List Value} {nz na nf : Nat} {as ms ns fs : List Int}
theorem G9 (B : Below A₀ base outer h₀) (F : Fr h₀ L s.heap m) (hm₀ : ∀ p ∈ ([(nm "a", .ref la), (nm "first", .ref lf)] : List (Str × Value)), m p.1 = some p.2) (X : (hd.heap_1 w.params).In h₀) (N : News h₀ L s.heap R) (T : Top p loose mean mg mb h₀) (hcs : cs = lawS w)
    (hdp : dp + 20 < 1000) (hu : un + 200 < 9900) (hla : (la, W.listOf avs.toArray na) ∈ R) (ha : IntsAre avs as) (hlen : as.length = 256) (hlf : (lf, W.listOf fvs.toArray nf) ∈ R) (hf : IntsAre fvs fs) (hfl : fs.length = 256)
    (hQ : ∀ lu uvs nu h tk, Fr h₀ L h (fun y => if y = nm "under" then some (.ref lu) else m y) → News h₀ L h ((lu, W.listOf uvs.toArray nu) :: R) → IntsAre uvs (List.zipWith (fun x y => (y - 128 * x).fmod 3329) as fs) → Q .next { s with heap := h, toks := tk }) :
    wpAny (model PySem.Challenge.rw_yi0009_01.row.prog w) (ktrTop dp un gd cn cs L fa ccd cl outer) (execs (List.take 1 (List.drop 9 (lawB w))) (envX cn cs L fa ccd cl)) Q E s := by
  have e₀ : kstB m [(nm "a", .ref la), (nm "first", .ref lf)] = m := by
    funext z
    exact kstB_eq hm₀ fun _ => rfl
  rw [← e₀] at F
  have hQ' := hQ
  (try rw [← e₀] at hQ')
  clear hQ
  clear e₀ hm₀
  dsimp only [kstB] at F
  have kMark : KstMark := kstMark
  walk_at "LAW"
  repeat' (first | ((fail_if_success (with_reducible show wpAny _ _ (exec (PySem.Stmt.Assign _ (PySem.Expr.ListComp _ _ _ _) _) _) _ _ _)); first | (k_unfold; (try dsimp only)) | (k_end; wrow_close) | walk1 | (dsimp only; walk1) | (leave1; walk_say "STEP leave1"; try dsimp only)))
  refine my_zip (m := _) (by k_asm) rfl (by with_unfolding_all rfl) (by with_unfolding_all rfl) (by decide) (by rfl) (by decide) (by rfl) (by rfl) (by decide) (by rfl) (by rfl) ?_
  repeat' ((with_reducible show wpAny _ _ _ _ _ _); (fail_if_success (with_reducible show wpAny _ _ (call (Value.type "zip") _) _ _ _)); first | (k_unfold; (try dsimp only)) | walk1 | (dsimp only; walk1) | (leave1; walk_say "STEP leave1"; try dsimp only))
  with_reducible rename Fr _ _ _ _ => lF
  with_reducible rename News _ _ _ _ => lN
  refine zip_call (fun x y => (y - 128 * x).fmod 3329) lF lN hla hlf ha hf hlen hfl ?_ ?_
  · clear lF lN
    intro C m₂ k1 k2 t1 t2 s' Q' E' hn h1 h2 hq
    obtain ⟨hp6, g6, d6, tk6, os6⟩ := s'
    repeat' ((with_reducible show wpAny _ _ _ _ _ _); first | ((with_reducible show wpAny _ _ (eval (PySem.Expr.Name (PySem.Str.ofString "x") _) _) _ _ _); refine wpAny_Name (wpAny_loadName_local rfl rfl hn h1 ?_)) | ((with_reducible show wpAny _ _ (eval (PySem.Expr.Name (PySem.Str.ofString "y") _) _) _ _ _); refine wpAny_Name (wpAny_loadName_local rfl rfl hn h2 ?_)) | walk1 | (dsimp only; walk1))
    exact hq _ _
  · clear lF lN
    rintro s₂ ⟨g9, rfl⟩ vs hI D h9 tk9 F9 N9 lt9
    k_steps
    with_reducible rename Fr _ _ _ _ => lF
    with_reducible rename News _ _ _ _ => lN
    exact hQ' _ _ _ _ _ lF lN hI

end
end
theorem reset_G10 {prog : PySem.Program} {w : PySem.World} {A : PySem.Around} {E : PySem.Value → PySem.Shared → Prop} {Q : PySem.Value → PySem.Shared → Prop} {s : PySem.Shared} (h : Q .none s) : PySem.wpAny (PySem.model prog w) A (pure .none) Q E s := by
  w_top off
  first
  | (walk1; fail "reset")
  | exact PySem.wpAny_pure h
section -- G10
section
variable {w : World} {p : Program} {loose : List Str} {mean : ExcName → Option Value} {mg mb : Str → Option Value} {dp un : Nat} {gd : Option (List Code)} {cn : Str} {cs : Scope} {fa : Addr} {ccd : Value} {cl : List (Str × Addr)} {outer : List Env} {A₀ : Around} {base h₀ : Heap} {L : Addr} {s : Shared} {Q : Flow → Shared → Prop} {E : Value → Shared → Prop}
  {R : List (Addr × Obj)} {m : Str → Option Value} {r dr zl la lf c0 l0 P : Addr} {o0 oP : Obj} {c mn : Int} {tc tm u1 u2 u3 u4 u5 u6 u7 : Tok} {zvs vals avs mvs fvs : List Value} {nz na nf : Nat} {as ms ns fs : List Int}
theorem G10 (B : Below A₀ base outer h₀) (F : Fr h₀ L s.heap m) (hm₀ : ∀ p ∈ ([(nm "ring", .ref r), (nm "a", .ref la)] : List (Str × Value)), m p.1 = some p.2) (X : (hd.heap_1 w.params).In h₀) (N : News h₀ L s.heap R) (T : Top p loose mean mg mb h₀) (hcs : cs = lawS w)
    (hdp : dp + 20 < 1000) (hu : un + 200 < 9900) (hla : (la, W.listOf avs.toArray na) ∈ R) (ha : IntsAre avs as) (hlen : as.length = 256) (hr₁ : (r, instObj 282 dr) ∈ R) (hdr : (dr, dictOf (ringD w zl u1 u2 u3 u4 u5 u6 u7) 4) ∈ R)
    (hQ : ∀ xf dxf cf fvs nf q1 q2 h tk, Fr h₀ L h (fun y => if y = nm "f" then some (.ref xf) else m y) → News h₀ L h ((xf, instObj 350 dxf) :: (dxf, dictOf (polyD w r cf q1 q2) 2) :: (cf, W.listOf fvs.toArray nf) :: R) → IntsAre fvs as → (∀ p ∈ R, p.1 < cf) → cf < dxf → dxf < xf → Q .next { s with heap := h, toks := tk }) :
    wpAny (model PySem.Challenge.rw_yi0009_01.row.prog w) (ktrTop dp un gd cn cs L fa ccd cl outer) (execs (List.take 1 (List.drop 10 (lawB w))) (envX cn cs L fa ccd cl)) Q E s := by
  have e₀ : kstB m [(nm "ring", .ref r), (nm "a", .ref la)] = m := by
    funext z
    exact kstB_eq hm₀ fun _ => rfl
  rw [← e₀] at F
  have hQ' := hQ
  (try rw [← e₀] at hQ')
  clear hQ
  clear e₀ hm₀
  dsimp only [kstB] at F
  have kMark : KstMark := kstMark
  walk_at "LAW"
  k_steps
  all_goals (try k_data)
  with_reducible rename Fr _ _ _ _ => lF
  with_reducible rename News _ _ _ _ => lN
  with_reducible rename _ ∧ AllLt _ _ => lA
  with_reducible rename ∀ (q : Addr × Obj), q ∈ _ → q.fst < _ => lB
  exact hQ' _ _ _ _ _ _ _ _ _ lF lN ha lB lA.1 (by assumption)

end
end
theorem reset_G11 {prog : PySem.Program} {w : PySem.World} {A : PySem.Around} {E : PySem.Value → PySem.Shared → Prop} {Q : PySem.Value → PySem.Shared → Prop} {s : PySem.Shared} (h : Q .none s) : PySem.wpAny (PySem.model prog w) A (pure .none) Q E s := by
  w_top off
  first
  | (walk1; fail "reset")
  | exact PySem.wpAny_pure h
section -- G11
section
variable {w : World} {p : Program} {loose : List Str} {mean : ExcName → Option Value} {mg mb : Str → Option Value} {dp un : Nat} {gd : Option (List Code)} {cn : Str} {cs : Scope} {fa : Addr} {ccd : Value} {cl : List (Str × Addr)} {outer : List Env} {A₀ : Around} {base h₀ : Heap} {L : Addr} {s : Shared} {Q : Flow → Shared → Prop} {E : Value → Shared → Prop}
  {R : List (Addr × Obj)} {m : Str → Option Value} {r dr zl la lf c0 l0 P : Addr} {o0 oP : Obj} {c mn : Int} {tc tm u1 u2 u3 u4 u5 u6 u7 : Tok} {zvs vals avs mvs fvs : List Value} {nz na nf : Nat} {as ms ns fs : List Int}
theorem G11 (B : Below A₀ base outer h₀) (F : Fr h₀ L s.heap m) (hm₀ : ∀ p ∈ ([(nm "a", .ref la)] : List (Str × Value)), m p.1 = some p.2) (X : (hd.heap_1 w.params).In h₀) (N : News h₀ L s.heap R) (T : Top p loose mean mg mb h₀) (hcs : cs = lawS w)
    (hdp : dp + 20 < 1000) (hu : un + 200 < 9900) (hla : (la, W.listOf avs.toArray na) ∈ R) (ha : IntsAre avs as) (hlen : as.length = 256)
    (hQ : ∀ lr rvs nr h tk, Fr h₀ L h (fun y => if y = nm "rest" then some (.ref lr) else m y) → News h₀ L h ((lr, W.listOf rvs.toArray nr) :: R) → IntsAre rvs (as.drop 1) → (∀ p ∈ R, p.1 < lr) → Q .next { s with heap := h, toks := tk }) :
    wpAny (model PySem.Challenge.rw_yi0009_01.row.prog w) (ktrTop dp un gd cn cs L fa ccd cl outer) (execs (List.take 1 (List.drop 11 (lawB w))) (envX cn cs L fa ccd cl)) Q E s := by
  have e₀ : kstB m [(nm "a", .ref la)] = m := by
    funext z
    exact kstB_eq hm₀ fun _ => rfl
  rw [← e₀] at F
  have hQ' := hQ
  (try rw [← e₀] at hQ')
  clear hQ
  clear e₀ hm₀
  dsimp only [kstB] at F
  have kMark : KstMark := kstMark
  walk_at "LAW"
  k_steps
  all_goals (try k_data)
  with_reducible rename Fr _ _ _ _ => lF
  with_reducible rename News _ _ _ _ => lN
  exact hQ' _ _ _ _ _ lF lN (by assumption) (by assumption)

end
end
theorem reset_G12 {prog : PySem.Program} {w : PySem.World} {A : PySem.Around} {E : PySem.Value → PySem.Shared → Prop} {Q : PySem.Value → PySem.Shared → Prop} {s : PySem.Shared} (h : Q .none s) : PySem.wpAny (PySem.model prog w) A (pure .none) Q E s := by
  w_top off
  first
  | (walk1; fail "reset")
  | exact PySem.wpAny_pure h
section -- G12
section
variable {w : World} {p : Program} {loose : List Str} {mean : ExcName → Option Value} {mg mb : Str → Option Value} {dp un : Nat} {gd : Option (List Code)} {cn : Str} {cs : Scope} {fa : Addr} {ccd : Value} {cl : List (Str × Addr)} {outer : List Env} {A₀ : Around} {base h₀ : Heap} {L : Addr} {s : Shared} {Q : Flow → Shared → Prop} {E : Value → Shared → Prop}
  {R : List (Addr × Obj)} {m : Str → Option Value} {r dr zl la lm lu ld ln xf dxf cf lr xh dxh ch x1 dx1 c1 : Addr} {c : Int} {tc t1 t2 q1 q2 u1 u2 u3 u4 u5 u6 u7 : Tok} {zvs avs mvs uvs dvs nvs fvs rvs hvs vs1 : List Value} {nz na nm' nu nd nn nf nr nh n1 : Nat} {as ms ups downs unders H ns1 : List Int}
theorem set1_G12 {as : List Int} (v : Int) (hlen : as.length = 256) : as.set 0 v = [v] ++ as.drop 1 := by
  cases as with
  | nil => simp at hlen
  | cons a r => rfl
local macro_rules | `(tactic| walk_at "SAME") => `(tactic| first | assumption | rfl | exact set1_G12 _ (by assumption))
theorem G12 (B : Below A₀ base outer h₀) (F : Fr h₀ L s.heap m) (hm₀ : ∀ p ∈ ([(nm "ring", .ref r), (nm "c", .int c tc), (nm "a", .ref la), (nm "minus", .ref lm), (nm "up", .ref lu), (nm "down", .ref ld), (nm "under", .ref ln), (nm "f", .ref xf), (nm "rest", .ref lr)] : List (Str × Value)), m p.1 = some p.2) (X : (hd.heap_1 w.params).In h₀) (N : News h₀ L s.heap R) (T : Top p loose mean mg mb h₀) (hcs : cs = lawS w)
    (hdp : dp + 20 < 1000) (hu : un + 200 < 9900) (HS : Has w R 350 xf dxf cf r dr zl zvs nz t1 t2 u1 u2 u3 u4 u5 u6 u7) (hla : (la, W.listOf avs.toArray na) ∈ R) (ha : IntsAre avs as) (hlen : as.length = 256) (hcf : (cf, W.listOf fvs.toArray nf) ∈ R) (hf : IntsAre fvs as) (hlr : (lr, W.listOf rvs.toArray nr) ∈ R) (hr : IntsAre rvs (as.drop 1)) (hlm : (lm, W.listOf mvs.toArray nm') ∈ R) (hm : IntsAre mvs (as.map fun x => (-x).fmod 3329))
    (hQ : ∀ h tk, Fr h₀ L h m → News h₀ L h R → Q .next { s with heap := h, toks := tk }) :
    wpAny (model PySem.Challenge.rw_yi0009_01.row.prog w) (ktrTop dp un gd cn cs L fa ccd cl outer) (execs (List.take 1 (List.drop 12 (lawB w))) (envX cn cs L fa ccd cl)) Q E s := by
  have e₀ : kstB m [(nm "ring", .ref r), (nm "c", .int c tc), (nm "a", .ref la), (nm "minus", .ref lm), (nm "up", .ref lu), (nm "down", .ref ld), (nm "under", .ref ln), (nm "f", .ref xf), (nm "rest", .ref lr)] = m := by
    funext z
    exact kstB_eq hm₀ fun _ => rfl
  rw [← e₀] at F
  have hQ' := hQ
  (try rw [← e₀] at hQ')
  clear hQ
  clear e₀ hm₀
  obtain ⟨hx, hdx, hr₁, hdr, hz⟩ := HS
  dsimp only [kstB] at F
  have kMark : KstMark := kstMark
  walk_at "LAW"
  k_steps
  all_goals (try k_data)
  with_reducible rename Fr _ _ _ _ => lF
  with_reducible rename News _ _ _ _ => lN
  exact hQ' _ _ lF (fun p hp => lN p (by first | exact hp | (repeat (first | exact hp | refine List.mem_cons_of_mem _ ?_))))

end
end
theorem reset_G13 {prog : PySem.Program} {w : PySem.World} {A : PySem.Around} {E : PySem.Value → PySem.Shared → Prop} {Q : PySem.Value → PySem.Shared → Prop} {s : PySem.Shared} (h : Q .none s) : PySem.wpAny (PySem.model prog w) A (pure .none) Q E s := by
  w_top off
  first
  | (walk1; fail "reset")
  | exact PySem.wpAny_pure h
section -- G13
section
variable {w : World} {p : Program} {loose : List Str} {mean : ExcName → Option Value} {mg mb : Str → Option Value} {dp un : Nat} {gd : Option (List Code)} {cn : Str} {cs : Scope} {fa : Addr} {ccd : Value} {cl : List (Str × Addr)} {outer : List Env} {A₀ : Around} {base h₀ : Heap} {L : Addr} {s : Shared} {Q : Flow → Shared → Prop} {E : Value → Shared → Prop}
  {R : List (Addr × Obj)} {m : Str → Option Value} {r dr zl la lm lu ld ln xf dxf cf lr xh dxh ch x1 dx1 c1 : Addr} {c : Int} {tc t1 t2 q1 q2 u1 u2 u3 u4 u5 u6 u7 : Tok} {zvs avs mvs uvs dvs nvs fvs rvs hvs vs1 : List Value} {nz na nm' nu nd nn nf nr nh n1 : Nat} {as ms ups downs unders H ns1 : List Int}
theorem set1_G13 {as : List Int} (v : Int) (hlen : as.length = 256) : as.set 0 v = [v] ++ as.drop 1 := by
  cases as with
  | nil => simp at hlen
  | cons a r => rfl
local macro_rules | `(tactic| walk_at "SAME") => `(tactic| first | assumption | rfl | exact set1_G13 _ (by assumption))
theorem G13 (B : Below A₀ base outer h₀) (F : Fr h₀ L s.heap m) (hm₀ : ∀ p ∈ ([(nm "ring", .ref r), (nm "c", .int c tc), (nm "a", .ref la), (nm "minus", .ref lm), (nm "up", .ref lu), (nm "down", .ref ld), (nm "under", .ref ln), (nm "f", .ref xf), (nm "rest", .ref lr)] : List (Str × Value)), m p.1 = some p.2) (X : (hd.heap_1 w.params).In h₀) (N : News h₀ L s.heap R) (T : Top p loose mean mg mb h₀) (hcs : cs = lawS w)
    (hdp : dp + 20 < 1000) (hu : un + 200 < 9900) (HS : Has w R 350 xf dxf cf r dr zl zvs nz t1 t2 u1 u2 u3 u4 u5 u6 u7) (hla : (la, W.listOf avs.toArray na) ∈ R) (ha : IntsAre avs as) (hlen : as.length = 256) (hcf : (cf, W.listOf fvs.toArray nf) ∈ R) (hf : IntsAre fvs as) (hlr : (lr, W.listOf rvs.toArray nr) ∈ R) (hr : IntsAre rvs (as.drop 1)) (hlm : (lm, W.listOf mvs.toArray nm') ∈ R) (hm : IntsAre mvs (as.map fun x => (-x).fmod 3329))
    (hQ : ∀ h tk, Fr h₀ L h m → News h₀ L h R → Q .next { s with heap := h, toks := tk }) :
    wpAny (model PySem.Challenge.rw_yi0009_01.row.prog w) (ktrTop dp un gd cn cs L fa ccd cl outer) (execs (List.take 1 (List.drop 13 (lawB w))) (envX cn cs L fa ccd cl)) Q E s := by
  have e₀ : kstB m [(nm "ring", .ref r), (nm "c", .int c tc), (nm "a", .ref la), (nm "minus", .ref lm), (nm "up", .ref lu), (nm "down", .ref ld), (nm "under", .ref ln), (nm "f", .ref xf), (nm "rest", .ref lr)] = m := by
    funext z
    exact kstB_eq hm₀ fun _ => rfl
  rw [← e₀] at F
  have hQ' := hQ
  (try rw [← e₀] at hQ')
  clear hQ
  clear e₀ hm₀
  obtain ⟨hx, hdx, hr₁, hdr, hz⟩ := HS
  dsimp only [kstB] at F
  have kMark : KstMark := kstMark
  walk_at "LAW"
  k_steps
  all_goals (try k_data)
  with_reducible rename Fr _ _ _ _ => lF
  with_reducible rename News _ _ _ _ => lN
  exact hQ' _ _ lF (fun p hp => lN p (by first | exact hp | (repeat (first | exact hp | refine List.mem_cons_of_mem _ ?_))))

end
end
theorem reset_G14 {prog : PySem.Program} {w : PySem.World} {A : PySem.Around} {E : PySem.Value → PySem.Shared → Prop} {Q : PySem.Value → PySem.Shared → Prop} {s : PySem.Shared} (h : Q .none s) : PySem.wpAny (PySem.model prog w) A (pure .none) Q E s := by
  w_top off
  first
  | (walk1; fail "reset")
  | exact PySem.wpAny_pure h
section -- G14
section
variable {w : World} {p : Program} {loose : List Str} {mean : ExcName → Option Value} {mg mb : Str → Option Value} {dp un : Nat} {gd : Option (List Code)} {cn : Str} {cs : Scope} {fa : Addr} {ccd : Value} {cl : List (Str × Addr)} {outer : List Env} {A₀ : Around} {base h₀ : Heap} {L : Addr} {s : Shared} {Q : Flow → Shared → Prop} {E : Value → Shared → Prop}
  {R : List (Addr × Obj)} {m : Str → Option Value} {r dr zl la lm lu ld ln xf dxf cf lr xh dxh ch x1 dx1 c1 : Addr} {c : Int} {tc t1 t2 q1 q2 u1 u2 u3 u4 u5 u6 u7 : Tok} {zvs avs mvs uvs dvs nvs fvs rvs hvs vs1 : List Value} {nz na nm' nu nd nn nf nr nh n1 : Nat} {as ms ups downs unders H ns1 : List Int}
theorem set1_G14 {as : List Int} (v : Int) (hlen : as.length = 256) : as.set 0 v = [v] ++ as.drop 1 := by
  cases as with
  | nil => simp at hlen
  | cons a r => rfl
local macro_rules | `(tactic| walk_at "SAME") => `(tactic| first | assumption | rfl | exact set1_G14 _ (by assumption))
theorem G14 (B : Below A₀ base outer h₀) (F : Fr h₀ L s.heap m) (hm₀ : ∀ p ∈ ([(nm "ring", .ref r), (nm "c", .int c tc), (nm "a", .ref la), (nm "minus", .ref lm), (nm "up", .ref lu), (nm "down", .ref ld), (nm "under", .ref ln), (nm "f", .ref xf), (nm "rest", .ref lr)] : List (Str × Value)), m p.1 = some p.2) (X : (hd.heap_1 w.params).In h₀) (N : News h₀ L s.heap R) (T : Top p loose mean mg mb h₀) (hcs : cs = lawS w)
    (hdp : dp + 20 < 1000) (hu : un + 200 < 9900) (HS : Has w R 350 xf dxf cf r dr zl zvs nz t1 t2 u1 u2 u3 u4 u5 u6 u7) (hla : (la, W.listOf avs.toArray na) ∈ R) (ha : IntsAre avs as) (hlen : as.length = 256) (hcf : (cf, W.listOf fvs.toArray nf) ∈ R) (hf : IntsAre fvs as) (hlr : (lr, W.listOf rvs.toArray nr) ∈ R) (hr : IntsAre rvs (as.drop 1)) (hlm : (lm, W.listOf mvs.toArray nm') ∈ R) (hm : IntsAre mvs (as.map fun x => (-x).fmod 3329))
    (hQ : ∀ h tk, Fr h₀ L h m → News h₀ L h R → Q .next { s with heap := h, toks := tk }) :
    wpAny (model PySem.Challenge.rw_yi0009_01.row.prog w) (ktrTop dp un gd cn cs L fa ccd cl outer) (execs (List.take 1 (List.drop 14 (lawB w))) (envX cn cs L fa ccd cl)) Q E s := by
  have e₀ : kstB m [(nm "ring", .ref r), (nm "c", .int c tc), (nm "a", .ref la), (nm "minus", .ref lm), (nm "up", .ref lu), (nm "down", .ref ld), (nm "under", .ref ln), (nm "f", .ref xf), (nm "rest", .ref lr)] = m := by
    funext z
    exact kstB_eq hm₀ fun _ => rfl
  rw [← e₀] at F
  have hQ' := hQ
  (try rw [← e₀] at hQ')
  clear hQ
  clear e₀ hm₀
  obtain ⟨hx, hdx, hr₁, hdr, hz⟩ := HS
  dsimp only [kstB] at F
  have kMark : KstMark := kstMark
  walk_at "LAW"
  k_steps
  all_goals (try k_data)
  with_reducible rename Fr _ _ _ _ => lF
  with_reducible rename News _ _ _ _ => lN
  exact hQ' _ _ lF (fun p hp => lN p (by first | exact hp | (repeat (first | exact hp | refine List.mem_cons_of_mem _ ?_))))

end
end
theorem reset_G15 {prog : PySem.Program} {w : PySem.World} {A : PySem.Around} {E : PySem.Value → PySem.Shared → Prop} {Q : PySem.Value → PySem.Shared → Prop} {s : PySem.Shared} (h : Q .none s) : PySem.wpAny (PySem.model prog w) A (pure .none) Q E s := by
  w_top off
  first
  | (walk1; fail "reset")
  | exact PySem.wpAny_pure h
section -- G15
section
variable {w : World} {p : Program} {loose : List Str} {mean : ExcName → Option Value} {mg mb : Str → Option Value} {dp un : Nat} {gd : Option (List Code)} {cn : Str} {cs : Scope} {fa : Addr} {ccd : Value} {cl : List (Str × Addr)} {outer : List Env} {A₀ : Around} {base h₀ : Heap} {L : Addr} {s : Shared} {Q : Flow → Shared → Prop} {E : Value → Shared → Prop}
  {R : List (Addr × Obj)} {m : Str → Option Value} {r dr zl la lm lu ld ln xf dxf cf lr xh dxh ch x1 dx1 c1 : Addr} {c : Int} {tc t1 t2 q1 q2 u1 u2 u3 u4 u5 u6 u7 : Tok} {zvs avs mvs uvs dvs nvs fvs rvs hvs vs1 : List Value} {nz na nm' nu nd nn nf nr nh n1 : Nat} {as ms ups downs unders H ns1 : List Int}
theorem sub15 (as : List Int) (c : Int) (hlen : as.length = 256) : List.map (fun x => (-x).fmod 3329) (as.set (Int.toNat 0) ((as.getD (Int.toNat 0) 0 - c).fmod 3329)) = [(c - as.getD (Int.toNat 0) 0).fmod 3329] ++ List.drop 1 (List.map (fun x => (-x).fmod 3329) as) := by
  cases as with
  | nil => simp at hlen
  | cons a r =>
    show (-((a - c).fmod 3329)).fmod 3329 :: _ = (c - a).fmod 3329 :: _
    congr 1
    simp only [Int.fmod_eq_emod_of_nonneg _ (show (0:Int) ≤ 3329 by decide)]
    omega
local macro_rules | `(tactic| walk_at "SAME") => `(tactic| first | assumption | rfl | exact sub15 _ _ (by assumption))
theorem G15 (B : Below A₀ base outer h₀) (F : Fr h₀ L s.heap m) (hm₀ : ∀ p ∈ ([(nm "ring", .ref r), (nm "c", .int c tc), (nm "a", .ref la), (nm "minus", .ref lm), (nm "up", .ref lu), (nm "down", .ref ld), (nm "under", .ref ln), (nm "f", .ref xf), (nm "rest", .ref lr)] : List (Str × Value)), m p.1 = some p.2) (X : (hd.heap_1 w.params).In h₀) (N : News h₀ L s.heap R) (T : Top p loose mean mg mb h₀) (hcs : cs = lawS w)
    (hdp : dp + 20 < 1000) (hu : un + 200 < 9900) (HS : Has w R 350 xf dxf cf r dr zl zvs nz t1 t2 u1 u2 u3 u4 u5 u6 u7) (hla : (la, W.listOf avs.toArray na) ∈ R) (ha : IntsAre avs as) (hlen : as.length = 256) (hcf : (cf, W.listOf fvs.toArray nf) ∈ R) (hf : IntsAre fvs as) (hlr : (lr, W.listOf rvs.toArray nr) ∈ R) (hr : IntsAre rvs (as.drop 1)) (hlm : (lm, W.listOf mvs.toArray nm') ∈ R) (hm : IntsAre mvs (as.map fun x => (-x).fmod 3329))
    (hQ : ∀ h tk, Fr h₀ L h m → News h₀ L h R → Q .next { s with heap := h, toks := tk }) :
    wpAny (model PySem.Challenge.rw_yi0009_01.row.prog w) (ktrTop dp un gd cn cs L fa ccd cl outer) (execs (List.take 1 (List.drop 15 (lawB w))) (envX cn cs L fa ccd cl)) Q E s := by
  have e₀ : kstB m [(nm "ring", .ref r), (nm "c", .int c tc), (nm "a", .ref la), (nm "minus", .ref lm), (nm "up", .ref lu), (nm "down", .ref ld), (nm "under", .ref ln), (nm "f", .ref xf), (nm "rest", .ref lr)] = m := by
    funext z
    exact kstB_eq hm₀ fun _ => rfl
  rw [← e₀] at F
  have hQ' := hQ
  (try rw [← e₀] at hQ')
  clear hQ
  clear e₀ hm₀
  obtain ⟨hx, hdx, hr₁, hdr, hz⟩ := HS
  dsimp only [kstB] at F
  have kMark : KstMark := kstMark
  walk_at "LAW"
  k_steps
  all_goals (try k_data)
  with_reducible rename Fr _ _ _ _ => lF
  with_reducible rename News _ _ _ _ => lN
  exact hQ' _ _ lF (fun p hp => lN p (by first | exact hp | (repeat (first | exact hp | refine List.mem_cons_of_mem _ ?_))))

end
end
theorem reset_G16 {prog : PySem.Program} {w : PySem.World} {A : PySem.Around} {E : PySem.Value → PySem.Shared → Prop} {Q : PySem.Value → PySem.Shared → Prop} {s : PySem.Shared} (h : Q .none s) : PySem.wpAny (PySem.model prog w) A (pure .none) Q E s := by
  w_top off
  first
  | (walk1; fail "reset")
  | exact PySem.wpAny_pure h
section -- G16
section
variable {w : World} {p : Program} {loose : List Str} {mean : ExcName → Option Value} {mg mb : Str → Option Value} {dp un : Nat} {gd : Option (List Code)} {cn : Str} {cs : Scope} {fa : Addr} {ccd : Value} {cl : List (Str × Addr)} {outer : List Env} {A₀ : Around} {base h₀ : Heap} {L : Addr} {s : Shared} {Q : Flow → Shared → Prop} {E : Value → Shared → Prop}
  {R : List (Addr × Obj)} {m : Str → Option Value} {r dr zl la lm lu ld ln xf dxf cf lr xh dxh ch x1 dx1 c1 : Addr} {c : Int} {tc t1 t2 q1 q2 u1 u2 u3 u4 u5 u6 u7 : Tok} {zvs avs mvs uvs dvs nvs fvs rvs hvs vs1 : List Value} {nz na nm' nu nd nn nf nr nh n1 : Nat} {as ms ups downs unders H ns1 : List Int}
theorem G16 (B : Below A₀ base outer h₀) (F : Fr h₀ L s.heap m) (hm₀ : ∀ p ∈ ([(nm "ring", .ref r), (nm "c", .int c tc), (nm "a", .ref la), (nm "minus", .ref lm), (nm "up", .ref lu), (nm "down", .ref ld), (nm "under", .ref ln), (nm "f", .ref xf), (nm "rest", .ref lr)] : List (Str × Value)), m p.1 = some p.2) (X : (hd.heap_1 w.params).In h₀) (N : News h₀ L s.heap R) (T : Top p loose mean mg mb h₀) (hcs : cs = lawS w)
    (hdp : dp + 20 < 1000) (hu : un + 200 < 9900) (HS : Has w R 350 xf dxf cf r dr zl zvs nz t1 t2 u1 u2 u3 u4 u5 u6 u7) (hla : (la, W.listOf avs.toArray na) ∈ R) (ha : IntsAre avs as) (hlen : as.length = 256) (hcf : (cf, W.listOf fvs.toArray nf) ∈ R) (hf : IntsAre fvs as) (hlr : (lr, W.listOf rvs.toArray nr) ∈ R) (hr : IntsAre rvs (as.drop 1)) (hlm : (lm, W.listOf mvs.toArray nm') ∈ R) (hm : IntsAre mvs (as.map fun x => (-x).fmod 3329))
    (hQ : ∀ h tk, Fr h₀ L h m → News h₀ L h R → Q .next { s with heap := h, toks := tk }) :
    wpAny (model PySem.Challenge.rw_yi0009_01.row.prog w) (ktrTop dp un gd cn cs L fa ccd cl outer) (execs (List.take 1 (List.drop 16 (lawB w))) (envX cn cs L fa ccd cl)) Q E s := by
  have e₀ : kstB m [(nm "ring", .ref r), (nm "c", .int c tc), (nm "a", .ref la), (nm "minus", .ref lm), (nm "up", .ref lu), (nm "down", .ref ld), (nm "under", .ref ln), (nm "f", .ref xf), (nm "rest", .ref lr)] = m := by
    funext z
    exact kstB_eq hm₀ fun _ => rfl
  rw [← e₀] at F
  have hQ' := hQ
  (try rw [← e₀] at hQ')
  clear hQ
  clear e₀ hm₀
  obtain ⟨hx, hdx, hr₁, hdr, hz⟩ := HS
  dsimp only [kstB] at F
  have kMark : KstMark := kstMark
  walk_at "LAW"
  k_steps
  all_goals (try k_data)
  with_reducible rename Fr _ _ _ _ => lF
  with_reducible rename News _ _ _ _ => lN
  exact hQ' _ _ lF (fun p hp => lN p (by first | exact hp | (repeat (first | exact hp | refine List.mem_cons_of_mem _ ?_))))

end
end
theorem reset_G17 {prog : PySem.Program} {w : PySem.World} {A : PySem.Around} {E : PySem.Value → PySem.Shared → Prop} {Q : PySem.Value → PySem.Shared → Prop} {s : PySem.Shared} (h : Q .none s) : PySem.wpAny (PySem.model prog w) A (pure .none) Q E s := by
  w_top off
  first
  | (walk1; fail "reset")
  | exact PySem.wpAny_pure h
section -- G17
section
variable {w : World} {p : Program} {loose : List Str} {mean : ExcName → Option Value} {mg mb : Str → Option Value} {dp un : Nat} {gd : Option (List Code)} {cn : Str} {cs : Scope} {fa : Addr} {ccd : Value} {cl : List (Str × Addr)} {outer : List Env} {A₀ : Around} {base h₀ : Heap} {L : Addr} {s : Shared} {Q : Flow → Shared → Prop} {E : Value → Shared → Prop}
  {R : List (Addr × Obj)} {m : Str → Option Value} {r dr zl la lm lu ld ln xf dxf cf lr xh dxh ch x1 dx1 c1 : Addr} {c : Int} {tc t1 t2 q1 q2 u1 u2 u3 u4 u5 u6 u7 : Tok} {zvs avs mvs uvs dvs nvs fvs rvs hvs vs1 : List Value} {nz na nm' nu nd nn nf nr nh n1 : Nat} {as ms ups downs unders H ns1 : List Int}
theorem G17 (B : Below A₀ base outer h₀) (F : Fr h₀ L s.heap m) (hm₀ : ∀ p ∈ ([(nm "ring", .ref r), (nm "c", .int c tc), (nm "a", .ref la), (nm "minus", .ref lm), (nm "up", .ref lu), (nm "down", .ref ld), (nm "under", .ref ln), (nm "f", .ref xf), (nm "rest", .ref lr)] : List (Str × Value)), m p.1 = some p.2) (X : (hd.heap_1 w.params).In h₀) (N : News h₀ L s.heap ((cf, W.listOf fvs.toArray nf) :: R)) (T : Top p loose mean mg mb h₀) (hcs : cs = lawS w)
    (hdp : dp + 20 < 1000) (hu : un + 200 < 9900) (HS : Has w R 350 xf dxf cf r dr zl zvs nz t1 t2 u1 u2 u3 u4 u5 u6 u7) (hf : IntsAre fvs as) (hlen : as.length = 256) (hcl : ∀ p ∈ R, p.1 ≠ cf) (hzi : IntsAre zvs zs)
    (hQ : ∀ x1 dx1 q1 q2 vs1 h tk, Fr h₀ L h (fun y => if y = nm "h" then some (.ref x1) else m y) → News h₀ L h ((x1, instObj 426 dx1) :: (dx1, dictOf (polyD w r cf q1 q2) 2) :: (cf, W.listOf vs1.toArray nf) :: R) → IntsAre vs1 (toNtt as) → (∀ p ∈ R, p.1 < dx1) → cf < dx1 → dx1 < x1 → Q .next { s with heap := h, toks := tk }) :
    wpAny (model PySem.Challenge.rw_yi0009_01.row.prog w) (ktrTop dp un gd cn cs L fa ccd cl outer) (execs (List.take 1 (List.drop 17 (lawB w))) (envX cn cs L fa ccd cl)) Q E s := by
  have e₀ : kstB m [(nm "ring", .ref r), (nm "c", .int c tc), (nm "a", .ref la), (nm "minus", .ref lm), (nm "up", .ref lu), (nm "down", .ref ld), (nm "under", .ref ln), (nm "f", .ref xf), (nm "rest", .ref lr)] = m := by
    funext z
    exact kstB_eq hm₀ fun _ => rfl
  rw [← e₀] at F
  have hQ' := hQ
  (try rw [← e₀] at hQ')
  clear hQ
  clear e₀ hm₀
  obtain ⟨hx, hdx, hr₁, hdr, hz⟩ := HS
  dsimp only [kstB] at F
  have kMark : KstMark := kstMark
  have HXF : Has w R 350 xf dxf cf r dr zl zvs nz t1 t2 u1 u2 u3 u4 u5 u6 u7 := ⟨hx, hdx, hr₁, hdr, hz⟩
  walk_at "LAW"
  have hx := List.mem_cons_of_mem (cf, W.listOf fvs.toArray nf) hx
  have hdx := List.mem_cons_of_mem (cf, W.listOf fvs.toArray nf) hdx
  repeat' (first | ((fail_if_success (with_reducible show wpAny _ _ (call (Value.ref 340) _) _ _ _)); first | (k_unfold; (try dsimp only)) | (k_end; wrow_close) | walk1 | (dsimp only; walk1) | (leave1; walk_say "STEP leave1"; try dsimp only)))
  dsimp only [List.cons_append, List.nil_append]
  with_reducible rename Fr _ _ _ _ => lF
  with_reducible rename News _ _ _ _ => lN
  k_dflt (refine' to_ntt_ok (by k_asm) lF (by k_asm) lN (by k_asm) ?k6 ?k7 ?k8 hcl HXF hzi hf hlen ?_; (case k6 => first | exact rfl | assumption); (case k7 => omega); (case k8 => omega); k_whole; clear lF lN; intro y' dy' vs' q1' q2' h' tk' F' N' i' l1 l2; (try k_lt l1); (try k_lt2 l2); (try dsimp only at N'); (try k_sweep))
  repeat' (first | ((fail_if_success (with_reducible show wpAny _ _ (call (Value.ref 9) _) _ _ _)); first | (k_unfold; (try dsimp only)) | (k_end; wrow_close) | walk1 | (dsimp only; walk1) | (leave1; walk_say "STEP leave1"; try dsimp only)))
  all_goals (try k_data)
  with_reducible rename Fr _ _ _ _ => lF
  with_reducible rename News _ _ _ _ => lN
  exact hQ' _ _ _ _ _ _ _ lF (news_sub lN (by kcf_all)) (by assumption) (allLt_mem l1.2) l1.1 l2

end
end
theorem reset_G18 {prog : PySem.Program} {w : PySem.World} {A : PySem.Around} {E : PySem.Value → PySem.Shared → Prop} {Q : PySem.Value → PySem.Shared → Prop} {s : PySem.Shared} (h : Q .none s) : PySem.wpAny (PySem.model prog w) A (pure .none) Q E s := by
  w_top off
  first
  | (walk1; fail "reset")
  | exact PySem.wpAny_pure h
section -- G18
section
variable {w : World} {p : Program} {loose : List Str} {mean : ExcName → Option Value} {mg mb : Str → Option Value} {dp un : Nat} {gd : Option (List Code)} {cn : Str} {cs : Scope} {fa : Addr} {ccd : Value} {cl : List (Str × Addr)} {outer : List Env} {A₀ : Around} {base h₀ : Heap} {L : Addr} {s : Shared} {Q : Flow → Shared → Prop} {E : Value → Shared → Prop}
  {R : List (Addr × Obj)} {m : Str → Option Value} {r dr zl la lm lu ld ln xf dxf cf lr xh dxh ch x1 dx1 c1 : Addr} {c : Int} {tc t1 t2 q1 q2 u1 u2 u3 u4 u5 u6 u7 : Tok} {zvs avs mvs uvs dvs nvs fvs rvs hvs vs1 : List Value} {nz na nm' nu nd nn nf nr nh n1 : Nat} {as ms ups downs unders H ns1 : List Int}
variable {P : Addr} {ps : Array Value}
local macro_rules | `(tactic| walk_at "binaryOp Add ref") => `(tactic| (k_here; k_dflt (refine' bin_C6 ?k1 ?k2 ?k3 ?k4 ?k5 ?k6 ?k7 ?k8 ?k9 ?k10 ?k11 ?k12 ?_; (case k1 => k_asm); (case k2 => k_asm); (case k3 => k_asm); (case k4 => k_asm); (case k5 => k_asm); (case k6 => exact Hide.out (by assumption)); (case k7 => omega); (case k8 => omega); (case k9 => exact ⟨by k_mem, by k_mem, by k_mem, by k_mem, by k_mem⟩); (case k10 => k_mem); (case k11 => l_ints); (case k12 => walk_at "LEN"); k_whole; intro x1' dx1' c1' q1' q2' vs1' n1' h' tk' F' N' i' l1 l2 l3; (try k_lt l1); (try k_lt2 l2); (try k_lt2 l3); (try dsimp only at N'); (try k_sweep))))
local macro_rules | `(tactic| walk_at "binaryOp Add int ref") => `(tactic| (k_here; k_dflt (refine' bin_C7 ?k1 ?k2 ?k3 ?k4 ?k5 ?k6 ?k7 ?k8 ?k9 ?k10 ?k11 ?k12 ?_; (case k1 => k_asm); (case k2 => k_asm); (case k3 => k_asm); (case k4 => k_asm); (case k5 => k_asm); (case k6 => exact Hide.out (by assumption)); (case k7 => omega); (case k8 => omega); (case k9 => exact ⟨by k_mem, by k_mem, by k_mem, by k_mem, by k_mem⟩); (case k10 => k_mem); (case k11 => l_ints); (case k12 => walk_at "LEN"); k_whole; intro x1' dx1' c1' q1' q2' vs1' n1' h' tk' F' N' i' l1 l2 l3; (try k_lt l1); (try k_lt2 l2); (try k_lt2 l3); (try dsimp only at N'); (try k_sweep))))
local macro_rules | `(tactic| walk_at "binaryOp Sub ref") => `(tactic| (k_here; k_dflt (refine' bin_C8 ?k1 ?k2 ?k3 ?k4 ?k5 ?k6 ?k7 ?k8 ?k9 ?k10 ?k11 ?k12 ?_; (case k1 => k_asm); (case k2 => k_asm); (case k3 => k_asm); (case k4 => k_asm); (case k5 => k_asm); (case k6 => exact Hide.out (by assumption)); (case k7 => omega); (case k8 => omega); (case k9 => exact ⟨by k_mem, by k_mem, by k_mem, by k_mem, by k_mem⟩); (case k10 => k_mem); (case k11 => l_ints); (case k12 => walk_at "LEN"); k_whole; intro x1' dx1' c1' q1' q2' vs1' n1' h' tk' F' N' i' l1 l2 l3; (try k_lt l1); (try k_lt2 l2); (try k_lt2 l3); (try dsimp only at N'); (try k_sweep))))
local macro_rules | `(tactic| walk_at "newTuple") => `(tactic| (k_here; k_dflt (refine' kup_newTuple ?k1 ?k2 ?_ ?k3; (case k1 => k_asm); (case k2 => k_asm); (case k3 => (simp only [sizeLine_eq, List.length_cons, List.length_nil]; omega)); k_whole); intro D' h' F' N' l1; (try k_lt l1); (try k_sweep)))
theorem G18 (B : Below A₀ base outer h₀) (F : Fr h₀ L s.heap m) (hm₀ : ∀ p ∈ ([(nm "ring", .ref r), (nm "c", .int c tc), (nm "a", .ref la), (nm "minus", .ref lm), (nm "up", .ref lu), (nm "down", .ref ld), (nm "under", .ref ln), (nm "f", .ref xf), (nm "rest", .ref lr), (nm "h", .ref xh)] : List (Str × Value)), m p.1 = some p.2) (X : (hd.heap_1 w.params).In h₀) (N : News h₀ L s.heap ((P, tabO ps) :: R)) (T : Top p loose mean mg mb h₀) (hcs : cs = lawS w)
    (hdp : dp + 20 < 1000) (hu : un + 200 < 9900) (HS : Has w R 426 xh dxh ch r dr zl zvs nz t1 t2 u1 u2 u3 u4 u5 u6 u7) (hch : (ch, W.listOf hvs.toArray nh) ∈ R) (hh : IntsAre hvs H) (hHlen : H.length = 256) (hzi : IntsAre zvs zs)  (hlu : (lu, W.listOf uvs.toArray nu) ∈ R) (hui : IntsAre uvs ups) (hld : (ld, W.listOf dvs.toArray nd) ∈ R) (hdi : IntsAre dvs downs) (hg : Hide (AllBare s.gens)) (hCA : Hide (CodeHere h₀ 446 P)) (htr : Hide (TriplesOk ps.toList)) (hPR : Hide (∀ p ∈ R, p.1 ≠ P)) (hT1 : (fromNtt (H.set (Int.toNat 0) ((H.getD (Int.toNat 0) 0 + c).fmod 3329))).map (fun x => (128 * x).fmod 3329) = ups) (hT3 : (fromNtt (H.set (Int.toNat 0) ((H.getD (Int.toNat 0) 0 - c).fmod 3329))).map (fun x => (128 * x).fmod 3329) = downs) (hb1 : ∀ x ∈ fromNtt (H.set (Int.toNat 0) ((H.getD (Int.toNat 0) 0 + c).fmod 3329)), 0 ≤ x ∧ x < 3329) (hb3 : ∀ x ∈ fromNtt (H.set (Int.toNat 0) ((H.getD (Int.toNat 0) 0 - c).fmod 3329)), 0 ≤ x ∧ x < 3329) (hE : PassesOwn (model PySem.Challenge.rw_yi0009_01.row.prog w) (ktrTop dp un gd cn cs L fa ccd cl outer) (envX cn cs L fa ccd cl) E)
    (hQ : ∀ m' ps' s', Fr h₀ L s'.heap m' → (∀ p ∈ ([(nm "ring", .ref r), (nm "c", .int c tc), (nm "a", .ref la), (nm "minus", .ref lm), (nm "up", .ref lu), (nm "down", .ref ld), (nm "under", .ref ln), (nm "f", .ref xf), (nm "rest", .ref lr), (nm "h", .ref xh)] : List (Str × Value)), m' p.1 = some p.2) → News h₀ L s'.heap ((P, tabO ps') :: R) → TriplesOk ps'.toList → AllBare s'.gens → s'.os = s.os → Q .next s') :
    wpAny (model PySem.Challenge.rw_yi0009_01.row.prog w) (ktrTop dp un gd cn cs L fa ccd cl outer) (execs (List.take 1 (List.drop 18 (lawB w))) (envX cn cs L fa ccd cl)) Q E s := by
  have e₀ : kstB m [(nm "ring", .ref r), (nm "c", .int c tc), (nm "a", .ref la), (nm "minus", .ref lm), (nm "up", .ref lu), (nm "down", .ref ld), (nm "under", .ref ln), (nm "f", .ref xf), (nm "rest", .ref lr), (nm "h", .ref xh)] = m := by
    funext z
    exact kstB_eq hm₀ fun _ => rfl
  rw [← e₀] at F
  have hQ' := hQ
  (try rw [← e₀] at hQ')
  clear hQ
  clear e₀ hm₀
  obtain ⟨hx, hdx, hr₁, hdr, hz⟩ := HS
  dsimp only [kstB] at F
  have kMark : KstMark := kstMark
  have hcs0 : Hide (cs = lawS w) := ⟨hcs⟩
  walk_at "LAW"
  have hr₀ := hr₁
  have hdr₀ := hdr
  have hz₀ := hz
  have hlu₀ := hlu
  have hld₀ := hld
  have hx := List.mem_cons_of_mem (P, tabO ps) hx
  have hdx := List.mem_cons_of_mem (P, tabO ps) hdx
  have hr₁ := List.mem_cons_of_mem (P, tabO ps) hr₁
  have hdr := List.mem_cons_of_mem (P, tabO ps) hdr
  have hz := List.mem_cons_of_mem (P, tabO ps) hz
  have hch := List.mem_cons_of_mem (P, tabO ps) hch
  have hlu := List.mem_cons_of_mem (P, tabO ps) hlu
  have hld := List.mem_cons_of_mem (P, tabO ps) hld
  repeat' (first | ((fail_if_success (with_reducible show wpAny _ _ (exec (PySem.Stmt.For _ _ _ _ _) _) _ _ _)); first | (k_unfold; (try dsimp only)) | (k_end; wrow_close) | walk1 | (dsimp only; walk1) | (leave1; walk_say "STEP leave1"; try dsimp only)))
  with_reducible rename Fr _ _ _ _ => lF
  with_reducible rename News _ _ _ _ => lN
  refine my_for (os₀ := s.os) lF rfl hE ?_ (by intro _; rfl)
  clear hE
  repeat' (first | ((fail_if_success (with_reducible show wpAny _ _ (newList _) _ _ _)); first | (k_unfold; (try dsimp only)) | walk1 | (dsimp only; walk1) | (leave1; walk_say "STEP leave1"; try dsimp only)))
  with_reducible rename Fr _ _ _ _ => lF
  with_reducible rename News _ _ _ _ => lN
  refine newList_N lF lN (fun h9 F9 N9 => ?_) (by simp only [sizeLine_eq, List.length_cons, List.length_nil]; omega)
  refine' fin18 (names := [(nm "ring", .ref r), (nm "c", .int c tc), (nm "a", .ref la), (nm "minus", .ref lm), (nm "up", .ref lu), (nm "down", .ref ld), (nm "under", .ref ln), (nm "f", .ref xf), (nm "rest", .ref lr), (nm "h", .ref xh)]) (by k_asm) F9 (by k_asm) N9 (fun p hp => Nat.ne_of_lt (Heap.lt_size (lN p hp).1)) (by k_asm) hcs0.out hdp hu hr₀ hdr₀ hz₀ hzi hlu₀ hui hld₀ hdi ?n1 ?n2 ?n3 hg.out rfl hCA.out htr.out hPR.out (by assumption) (by assumption) (by assumption) (by rw [List.length_set]; exact hHlen) (by rw [List.length_set]; exact hHlen) hT1 hT3 hb1 hb3 (by assumption) ?b2 ?b3 ?b4 ?b5 ?b6 ?b7 ?b8 ?b9 ?b10 ?b11 ?b12 ?n4
  case n3 =>
    unfold st18 lawB
    with_unfolding_all rfl
  case b2 => first | assumption | omega
  case b3 => first | assumption | omega
  case b4 => first | assumption | omega
  case b5 => first | assumption | omega
  case b6 => first | assumption | omega
  case b7 => first | assumption | omega
  case b8 => first | assumption | omega
  case b9 => first | assumption | omega
  case b10 => first | assumption | omega
  case b11 => first | assumption | omega
  case b12 => first | assumption | omega
  case n1 => walk_at "NAMES"
  case n2 => repeat (first | exact List.forall_mem_nil _ | refine List.forall_mem_cons.mpr ⟨⟨by dsimp only; decide, by dsimp only; decide⟩, ?_⟩)
  case n4 => exact fun m' ps' s' F hn N t g o => wpAny_execs_nil (hQ' m' ps' s' F hn N t g o)

end
end
theorem reset_G19 {prog : PySem.Program} {w : PySem.World} {A : PySem.Around} {E : PySem.Value → PySem.Shared → Prop} {Q : PySem.Value → PySem.Shared → Prop} {s : PySem.Shared} (h : Q .none s) : PySem.wpAny (PySem.model prog w) A (pure .none) Q E s := by
  w_top off
  first
  | (walk1; fail "reset")
  | exact PySem.wpAny_pure h
section -- G19
section
variable {w : World} {p : Program} {loose : List Str} {mean : ExcName → Option Value} {mg mb : Str → Option Value} {dp un : Nat} {gd : Option (List Code)} {cn : Str} {cs : Scope} {fa : Addr} {ccd : Value} {cl : List (Str × Addr)} {outer : List Env} {A₀ : Around} {base h₀ : Heap} {L : Addr} {s : Shared} {Q : Flow → Shared → Prop} {E : Value → Shared → Prop}
  {R : List (Addr × Obj)} {m : Str → Option Value} {r dr zl la lm lu ld ln xf dxf cf lr xh dxh ch x1 dx1 c1 : Addr} {c : Int} {tc t1 t2 q1 q2 u1 u2 u3 u4 u5 u6 u7 : Tok} {zvs avs mvs uvs dvs nvs fvs rvs hvs vs1 : List Value} {nz na nm' nu nd nn nf nr nh n1 : Nat} {as ms ups downs unders H ns1 : List Int}
theorem G19 (B : Below A₀ base outer h₀) (F : Fr h₀ L s.heap m) (hm₀ : ∀ p ∈ ([(nm "ring", .ref r), (nm "c", .int c tc), (nm "a", .ref la), (nm "minus", .ref lm), (nm "up", .ref lu), (nm "down", .ref ld), (nm "under", .ref ln), (nm "f", .ref xf), (nm "rest", .ref lr), (nm "h", .ref xh)] : List (Str × Value)), m p.1 = some p.2) (X : (hd.heap_1 w.params).In h₀) (N : News h₀ L s.heap R) (T : Top p loose mean mg mb h₀) (hcs : cs = lawS w)
    (hdp : dp + 20 < 1000) (hu : un + 200 < 9900) (HS : Has w R 426 xh dxh ch r dr zl zvs nz t1 t2 u1 u2 u3 u4 u5 u6 u7) (hch : (ch, W.listOf hvs.toArray nh) ∈ R) (hh : IntsAre hvs H) (hHlen : H.length = 256)
    (hQ : ∀ x1 dx1 c1 q1 q2 vs1 n1 h tk, Fr h₀ L h (fun y => if y = nm "turned" then some (.ref x1) else m y) → News h₀ L h ((x1, instObj 350 dx1) :: (dx1, dictOf (polyD w r c1 q1 q2) 2) :: (c1, W.listOf vs1.toArray n1) :: R) → IntsAre vs1 (H.map fun x => (-x).fmod 3329) → Q .next { s with heap := h, toks := tk }) :
    wpAny (model PySem.Challenge.rw_yi0009_01.row.prog w) (ktrTop dp un gd cn cs L fa ccd cl outer) (execs (List.take 1 (List.drop 19 (lawB w))) (envX cn cs L fa ccd cl)) Q E s := by
  have e₀ : kstB m [(nm "ring", .ref r), (nm "c", .int c tc), (nm "a", .ref la), (nm "minus", .ref lm), (nm "up", .ref lu), (nm "down", .ref ld), (nm "under", .ref ln), (nm "f", .ref xf), (nm "rest", .ref lr), (nm "h", .ref xh)] = m := by
    funext z
    exact kstB_eq hm₀ fun _ => rfl
  rw [← e₀] at F
  have hQ' := hQ
  (try rw [← e₀] at hQ')
  clear hQ
  clear e₀ hm₀
  obtain ⟨hx, hdx, hr₁, hdr, hz⟩ := HS
  dsimp only [kstB] at F
  have kMark : KstMark := kstMark
  walk_at "LAW"
  k_steps
  all_goals (try k_data)
  with_reducible rename Fr _ _ _ _ => lF
  with_reducible rename News _ _ _ _ => lN
  refine hQ' _ _ _ _ _ _ _ _ _ lF (news_sub lN (by kcf_all)) ?_
  first | assumption | l_ints

end
end
theorem reset_G20 {prog : PySem.Program} {w : PySem.World} {A : PySem.Around} {E : PySem.Value → PySem.Shared → Prop} {Q : PySem.Value → PySem.Shared → Prop} {s : PySem.Shared} (h : Q .none s) : PySem.wpAny (PySem.model prog w) A (pure .none) Q E s := by
  w_top off
  first
  | (walk1; fail "reset")
  | exact PySem.wpAny_pure h
section -- G20
section
variable {w : World} {p : Program} {loose : List Str} {mean : ExcName → Option Value} {mg mb : Str → Option Value} {dp un : Nat} {gd : Option (List Code)} {cn : Str} {cs : Scope} {fa : Addr} {ccd : Value} {cl : List (Str × Addr)} {outer : List Env} {A₀ : Around} {base h₀ : Heap} {L : Addr} {s : Shared} {Q : Flow → Shared → Prop} {E : Value → Shared → Prop}
  {R : List (Addr × Obj)} {m : Str → Option Value} {r dr zl la lm lu ld ln xf dxf cf lr xh dxh ch x1 dx1 c1 : Addr} {c : Int} {tc t1 t2 q1 q2 u1 u2 u3 u4 u5 u6 u7 : Tok} {zvs avs mvs uvs dvs nvs fvs rvs hvs vs1 : List Value} {nz na nm' nu nd nn nf nr nh n1 : Nat} {as ms ups downs unders H ns1 : List Int}
local macro_rules | `(tactic| walk_at "call ref") => `(tactic| (k_here; (with_reducible show wpAny _ _ (call (Value.ref 442) _) _ _ _); k_dflt (refine' noway_ok ?k1 ?k2 ?k3 ?k4 ?k5 ?k6 ?k7 ?k8 ?k9 ?k10 ?k11 ?k12 ?_; (case k1 => k_asm); (case k2 => k_asm); (case k3 => k_asm); (case k4 => k_asm); (case k5 => k_asm); (case k6 => exact Hide.out (by assumption)); (case k7 => exact Hide.out (by assumption)); (case k8 => first | exact rfl | assumption); (case k9 => omega); (case k10 => omega); (case k11 => k_mem); (case k12 => k_mem); k_whole; intro h' tk' F' N'; (try k_sweep))))
theorem G20 (B : Below A₀ base [] h₀) (F : Fr h₀ L s.heap m) (hm₀ : ∀ p ∈ ([(nm "ring", .ref r), (nm "c", .int c tc), (nm "a", .ref la), (nm "minus", .ref lm), (nm "up", .ref lu), (nm "down", .ref ld), (nm "under", .ref ln), (nm "f", .ref xf), (nm "rest", .ref lr), (nm "h", .ref xh), (nm "turned", .ref x1)] : List (Str × Value)), m p.1 = some p.2) (X : (hd.heap_1 w.params).In h₀) (N : News h₀ L s.heap R) (T : Top p loose mean mg mb h₀) (hcs : cs = lawS w)
    (hdp : dp + 20 < 1000) (hu : un + 200 < 9900) (XB : Hide ((hd.heap_1 w.params).In base)) (TB : Hide (Top p loose mean mg mb base)) (H1 : Has w R 350 x1 dx1 c1 r dr zl zvs nz t1 t2 u1 u2 u3 u4 u5 u6 u7) (hc1 : (c1, W.listOf vs1.toArray n1) ∈ R) (h1 : IntsAre vs1 ns1) (h1len : ns1.length = 256)
    (hQ : ∀ h tk, Fr h₀ L h m → News h₀ L h R → Q .next { s with heap := h, toks := tk }) :
    wpAny (model PySem.Challenge.rw_yi0009_01.row.prog w) (ktrTop dp un gd cn cs L fa ccd cl []) (execs (List.take 1 (List.drop 20 (lawB w))) (envX cn cs L fa ccd cl)) Q E s := by
  have e₀ : kstB m [(nm "ring", .ref r), (nm "c", .int c tc), (nm "a", .ref la), (nm "minus", .ref lm), (nm "up", .ref lu), (nm "down", .ref ld), (nm "under", .ref ln), (nm "f", .ref xf), (nm "rest", .ref lr), (nm "h", .ref xh), (nm "turned", .ref x1)] = m := by
    funext z
    exact kstB_eq hm₀ fun _ => rfl
  rw [← e₀] at F
  have hQ' := hQ
  (try rw [← e₀] at hQ')
  clear hQ
  clear e₀ hm₀
  have HX1 := H1
  obtain ⟨hx1, hdx1, hr₂, hdr₂, hz₂⟩ := H1
  have hrr := hr₂
  have hdrr := hdr₂
  dsimp only [kstB] at F
  have kMark : KstMark := kstMark
  walk_at "LAW"
  k_steps
  all_goals (try k_data)
  with_reducible rename Fr _ _ _ _ => lF
  with_reducible rename News _ _ _ _ => lN
  exact hQ' _ _ lF (fun p hp => lN p (by first | exact hp | (repeat (first | exact hp | refine List.mem_cons_of_mem _ ?_))))

end
end
theorem reset_G21 {prog : PySem.Program} {w : PySem.World} {A : PySem.Around} {E : PySem.Value → PySem.Shared → Prop} {Q : PySem.Value → PySem.Shared → Prop} {s : PySem.Shared} (h : Q .none s) : PySem.wpAny (PySem.model prog w) A (pure .none) Q E s := by
  w_top off
  first
  | (walk1; fail "reset")
  | exact PySem.wpAny_pure h
section -- G21
section
variable {w : World} {p : Program} {loose : List Str} {mean : ExcName → Option Value} {mg mb : Str → Option Value} {dp un : Nat} {gd : Option (List Code)} {cn : Str} {cs : Scope} {fa : Addr} {ccd : Value} {cl : List (Str × Addr)} {outer : List Env} {A₀ : Around} {base h₀ : Heap} {L : Addr} {s : Shared} {Q : Flow → Shared → Prop} {E : Value → Shared → Prop}
  {R : List (Addr × Obj)} {m : Str → Option Value} {r dr zl la lm lu ld ln xf dxf cf lr xh dxh ch x1 dx1 c1 : Addr} {c : Int} {tc t1 t2 q1 q2 u1 u2 u3 u4 u5 u6 u7 : Tok} {zvs avs mvs uvs dvs nvs fvs rvs hvs vs1 : List Value} {nz na nm' nu nd nn nf nr nh n1 : Nat} {as ms ups downs unders H ns1 : List Int}
theorem G21 (B : Below A₀ base outer h₀) (F : Fr h₀ L s.heap m) (hm₀ : ∀ p ∈ ([(nm "ring", .ref r), (nm "c", .int c tc), (nm "a", .ref la), (nm "minus", .ref lm), (nm "up", .ref lu), (nm "down", .ref ld), (nm "under", .ref ln), (nm "f", .ref xf), (nm "rest", .ref lr), (nm "h", .ref xh), (nm "turned", .ref x1)] : List (Str × Value)), m p.1 = some p.2) (X : (hd.heap_1 w.params).In h₀) (N : News h₀ L s.heap R) (T : Top p loose mean mg mb h₀) (hcs : cs = lawS w)
    (hdp : dp + 20 < 1000) (hu : un + 200 < 9900) (H1 : Has w R 350 x1 dx1 c1 r dr zl zvs nz t1 t2 u1 u2 u3 u4 u5 u6 u7) (hc1 : (c1, W.listOf vs1.toArray n1) ∈ R) (h1 : IntsAre vs1 ns1) (h1len : ns1.length = 256) (hzi : IntsAre zvs zs)  (hlm : (lm, W.listOf mvs.toArray nm') ∈ R) (hm : IntsAre mvs ms) (hT : fromNtt ns1 = ms)
    (hQ : ∀ h tk, Fr h₀ L h m → News h₀ L h R → Q .next { s with heap := h, toks := tk }) :
    wpAny (model PySem.Challenge.rw_yi0009_01.row.prog w) (ktrTop dp un gd cn cs L fa ccd cl outer) (execs (List.take 1 (List.drop 21 (lawB w))) (envX cn cs L fa ccd cl)) Q E s := by
  have e₀ : kstB m [(nm "ring", .ref r), (nm "c", .int c tc), (nm "a", .ref la), (nm "minus", .ref lm), (nm "up", .ref lu), (nm "down", .ref ld), (nm "under", .ref ln), (nm "f", .ref xf), (nm "rest", .ref lr), (nm "h", .ref xh), (nm "turned", .ref x1)] = m := by
    funext z
    exact kstB_eq hm₀ fun _ => rfl
  rw [← e₀] at F
  have hQ' := hQ
  (try rw [← e₀] at hQ')
  clear hQ
  clear e₀ hm₀
  have HX1 := H1
  obtain ⟨hx1, hdx1, hr₂, hdr₂, hz₂⟩ := H1
  have hrr := hr₂
  have hdrr := hdr₂
  dsimp only [kstB] at F
  have kMark : KstMark := kstMark
  walk_at "LAW"
  repeat' (first | ((fail_if_success (with_reducible show wpAny _ _ (call (Value.ref 380) _) _ _ _)); first | (k_unfold; (try dsimp only)) | (k_end; wrow_close) | walk1 | (dsimp only; walk1) | (leave1; walk_say "STEP leave1"; try dsimp only)))
  dsimp only [List.cons_append, List.nil_append]
  refine' from_ntt_upd ?k1 ?k2 ?k3 ?k4 ?k5 ?k6 ?k7 ?k8 ?k9 ?k10 ?k11 ?k12 ?k13 ?k14 ?k15 ?k16 ?k17 ?k18 ?_; (case k1 => k_asm); (case k2 => k_asm); (case k3 => k_asm); (case k4 => k_asm); (case k5 => k_asm); (case k6 => first | exact rfl | assumption); (case k7 => omega); (case k8 => omega); (case k10 => k_mem); (case k11 => k_mem); (case k12 => k_mem); (case k13 => k_mem); (case k14 => k_mem); (case k9 => k_updF); (case k15 => first | omega | exact Nat.ne_of_lt (AllLt.at_ (by k_all) (by k_mem)) | exact ne_mem (by k_mem) (by k_all)); (case k16 => k_asm); (case k17 => l_ints); (case k18 => walk_at "LEN"); k_whole; intro y' dy' vs' q1' q2' h' tk' F' N' i' l1 l2; (try k_lt l1); (try k_lt2 l2); (try dsimp only at N'); (try k_sweep)
  k_steps
  all_goals (try k_data)
  with_reducible rename Fr _ _ _ _ => lF
  with_reducible rename News _ _ _ _ => lN
  exact hQ' _ _ lF (fun p hp => lN p (by first | exact hp | (repeat (first | exact hp | refine List.mem_cons_of_mem _ ?_))))

end
end
theorem reset_G22 {prog : PySem.Program} {w : PySem.World} {A : PySem.Around} {E : PySem.Value → PySem.Shared → Prop} {Q : PySem.Value → PySem.Shared → Prop} {s : PySem.Shared} (h : Q .none s) : PySem.wpAny (PySem.model prog w) A (pure .none) Q E s := by
  w_top off
  first
  | (walk1; fail "reset")
  | exact PySem.wpAny_pure h
section -- G22
section
variable {w : World} {p : Program} {loose : List Str} {mean : ExcName → Option Value} {mg mb : Str → Option Value} {dp un : Nat} {gd : Option (List Code)} {cn : Str} {cs : Scope} {fa : Addr} {ccd : Value} {cl : List (Str × Addr)} {outer : List Env} {A₀ : Around} {base h₀ : Heap} {L : Addr} {s : Shared} {Q : Flow → Shared → Prop} {E : Value → Shared → Prop}
  {R : List (Addr × Obj)} {m : Str → Option Value} {r dr zl la lm lu ld ln xf dxf cf lr xh dxh ch x1 dx1 c1 : Addr} {c : Int} {tc t1 t2 q1 q2 u1 u2 u3 u4 u5 u6 u7 : Tok} {zvs avs mvs uvs dvs nvs fvs rvs hvs vs1 : List Value} {nz na nm' nu nd nn nf nr nh n1 : Nat} {as ms ups downs unders H ns1 : List Int}
theorem G22 (B : Below A₀ base outer h₀) (F : Fr h₀ L s.heap m) (hm₀ : ∀ p ∈ ([(nm "ring", .ref r), (nm "c", .int c tc), (nm "a", .ref la), (nm "minus", .ref lm), (nm "up", .ref lu), (nm "down", .ref ld), (nm "under", .ref ln), (nm "f", .ref xf), (nm "rest", .ref lr), (nm "h", .ref xh)] : List (Str × Value)), m p.1 = some p.2) (X : (hd.heap_1 w.params).In h₀) (N : News h₀ L s.heap R) (T : Top p loose mean mg mb h₀) (hcs : cs = lawS w)
    (hdp : dp + 20 < 1000) (hu : un + 200 < 9900) (HS : Has w R 426 xh dxh ch r dr zl zvs nz t1 t2 u1 u2 u3 u4 u5 u6 u7) (hch : (ch, W.listOf hvs.toArray nh) ∈ R) (hh : IntsAre hvs H) (hHlen : H.length = 256)
    (hQ : ∀ x1 dx1 c1 q1 q2 vs1 n1 h tk, Fr h₀ L h (fun y => if y = nm "taken" then some (.ref x1) else m y) → News h₀ L h ((x1, instObj 350 dx1) :: (dx1, dictOf (polyD w r c1 q1 q2) 2) :: (c1, W.listOf vs1.toArray n1) :: R) → IntsAre vs1 ((H.set (Int.toNat 0) ((H.getD (Int.toNat 0) 0 - c).fmod 3329)).map fun x => (-x).fmod 3329) → Q .next { s with heap := h, toks := tk }) :
    wpAny (model PySem.Challenge.rw_yi0009_01.row.prog w) (ktrTop dp un gd cn cs L fa ccd cl outer) (execs (List.take 1 (List.drop 22 (lawB w))) (envX cn cs L fa ccd cl)) Q E s := by
  have e₀ : kstB m [(nm "ring", .ref r), (nm "c", .int c tc), (nm "a", .ref la), (nm "minus", .ref lm), (nm "up", .ref lu), (nm "down", .ref ld), (nm "under", .ref ln), (nm "f", .ref xf), (nm "rest", .ref lr), (nm "h", .ref xh)] = m := by
    funext z
    exact kstB_eq hm₀ fun _ => rfl
  rw [← e₀] at F
  have hQ' := hQ
  (try rw [← e₀] at hQ')
  clear hQ
  clear e₀ hm₀
  obtain ⟨hx, hdx, hr₁, hdr, hz⟩ := HS
  dsimp only [kstB] at F
  have kMark : KstMark := kstMark
  walk_at "LAW"
  k_steps
  all_goals (try k_data)
  with_reducible rename Fr _ _ _ _ => lF
  with_reducible rename News _ _ _ _ => lN
  refine hQ' _ _ _ _ _ _ _ _ _ lF (news_sub lN (by kcf_all)) ?_
  first | assumption | l_ints

end
end
theorem reset_G23 {prog : PySem.Program} {w : PySem.World} {A : PySem.Around} {E : PySem.Value → PySem.Shared → Prop} {Q : PySem.Value → PySem.Shared → Prop} {s : PySem.Shared} (h : Q .none s) : PySem.wpAny (PySem.model prog w) A (pure .none) Q E s := by
  w_top off
  first
  | (walk1; fail "reset")
  | exact PySem.wpAny_pure h
section -- G23
section
variable {w : World} {p : Program} {loose : List Str} {mean : ExcName → Option Value} {mg mb : Str → Option Value} {dp un : Nat} {gd : Option (List Code)} {cn : Str} {cs : Scope} {fa : Addr} {ccd : Value} {cl : List (Str × Addr)} {outer : List Env} {A₀ : Around} {base h₀ : Heap} {L : Addr} {s : Shared} {Q : Flow → Shared → Prop} {E : Value → Shared → Prop}
  {R : List (Addr × Obj)} {m : Str → Option Value} {r dr zl la lm lu ld ln xf dxf cf lr xh dxh ch x1 dx1 c1 : Addr} {c : Int} {tc t1 t2 q1 q2 u1 u2 u3 u4 u5 u6 u7 : Tok} {zvs avs mvs uvs dvs nvs fvs rvs hvs vs1 : List Value} {nz na nm' nu nd nn nf nr nh n1 : Nat} {as ms ups downs unders H ns1 : List Int}
local macro_rules | `(tactic| walk_at "call ref") => `(tactic| (k_here; (with_reducible show wpAny _ _ (call (Value.ref 442) _) _ _ _); k_dflt (refine' noway_ok ?k1 ?k2 ?k3 ?k4 ?k5 ?k6 ?k7 ?k8 ?k9 ?k10 ?k11 ?k12 ?_; (case k1 => k_asm); (case k2 => k_asm); (case k3 => k_asm); (case k4 => k_asm); (case k5 => k_asm); (case k6 => exact Hide.out (by assumption)); (case k7 => exact Hide.out (by assumption)); (case k8 => first | exact rfl | assumption); (case k9 => omega); (case k10 => omega); (case k11 => k_mem); (case k12 => k_mem); k_whole; intro h' tk' F' N'; (try k_sweep))))
theorem G23 (B : Below A₀ base [] h₀) (F : Fr h₀ L s.heap m) (hm₀ : ∀ p ∈ ([(nm "ring", .ref r), (nm "c", .int c tc), (nm "a", .ref la), (nm "minus", .ref lm), (nm "up", .ref lu), (nm "down", .ref ld), (nm "under", .ref ln), (nm "f", .ref xf), (nm "rest", .ref lr), (nm "h", .ref xh), (nm "taken", .ref x1)] : List (Str × Value)), m p.1 = some p.2) (X : (hd.heap_1 w.params).In h₀) (N : News h₀ L s.heap R) (T : Top p loose mean mg mb h₀) (hcs : cs = lawS w)
    (hdp : dp + 20 < 1000) (hu : un + 200 < 9900) (XB : Hide ((hd.heap_1 w.params).In base)) (TB : Hide (Top p loose mean mg mb base)) (H1 : Has w R 350 x1 dx1 c1 r dr zl zvs nz t1 t2 u1 u2 u3 u4 u5 u6 u7) (hc1 : (c1, W.listOf vs1.toArray n1) ∈ R) (h1 : IntsAre vs1 ns1) (h1len : ns1.length = 256)
    (hQ : ∀ h tk, Fr h₀ L h m → News h₀ L h R → Q .next { s with heap := h, toks := tk }) :
    wpAny (model PySem.Challenge.rw_yi0009_01.row.prog w) (ktrTop dp un gd cn cs L fa ccd cl []) (execs (List.take 1 (List.drop 23 (lawB w))) (envX cn cs L fa ccd cl)) Q E s := by
  have e₀ : kstB m [(nm "ring", .ref r), (nm "c", .int c tc), (nm "a", .ref la), (nm "minus", .ref lm), (nm "up", .ref lu), (nm "down", .ref ld), (nm "under", .ref ln), (nm "f", .ref xf), (nm "rest", .ref lr), (nm "h", .ref xh), (nm "taken", .ref x1)] = m := by
    funext z
    exact kstB_eq hm₀ fun _ => rfl
  rw [← e₀] at F
  have hQ' := hQ
  (try rw [← e₀] at hQ')
  clear hQ
  clear e₀ hm₀
  have HX1 := H1
  obtain ⟨hx1, hdx1, hr₂, hdr₂, hz₂⟩ := H1
  have hrr := hr₂
  have hdrr := hdr₂
  dsimp only [kstB] at F
  have kMark : KstMark := kstMark
  walk_at "LAW"
  k_steps
  all_goals (try k_data)
  with_reducible rename Fr _ _ _ _ => lF
  with_reducible rename News _ _ _ _ => lN
  exact hQ' _ _ lF (fun p hp => lN p (by first | exact hp | (repeat (first | exact hp | refine List.mem_cons_of_mem _ ?_))))

end
end
theorem reset_G24 {prog : PySem.Program} {w : PySem.World} {A : PySem.Around} {E : PySem.Value → PySem.Shared → Prop} {Q : PySem.Value → PySem.Shared → Prop} {s : PySem.Shared} (h : Q .none s) : PySem.wpAny (PySem.model prog w) A (pure .none) Q E s := by
  w_top off
  first
  | (walk1; fail "reset")
  | exact PySem.wpAny_pure h
section -- G24
section
variable {w : World} {p : Program} {loose : List Str} {mean : ExcName → Option Value} {mg mb : Str → Option Value} {dp un : Nat} {gd : Option (List Code)} {cn : Str} {cs : Scope} {fa : Addr} {ccd : Value} {cl : List (Str × Addr)} {outer : List Env} {A₀ : Around} {base h₀ : Heap} {L : Addr} {s : Shared} {Q : Flow → Shared → Prop} {E : Value → Shared → Prop}
  {R : List (Addr × Obj)} {m : Str → Option Value} {r dr zl la lm lu ld ln xf dxf cf lr xh dxh ch x1 dx1 c1 : Addr} {c : Int} {tc t1 t2 q1 q2 u1 u2 u3 u4 u5 u6 u7 : Tok} {zvs avs mvs uvs dvs nvs fvs rvs hvs vs1 : List Value} {nz na nm' nu nd nn nf nr nh n1 : Nat} {as ms ups downs unders H ns1 : List Int}
theorem thick_sub {news : List (Addr × Obj)} {y dy cy P : Addr} {ps : Array Value} {vs : List Value} {ns : List Int} {n : Nat} {Q E : Value → Shared → Prop} (B : Below A₀ base outer h₀) (F : Fr h₀ L s.heap m) (X : (hd.heap_1 w.params).In h₀) (N : News h₀ L s.heap news) (T : Top p loose mean mg mb h₀) (hcs : cs.kind = .function)
    (hdp : dp + 10 < 1000) (hu : un + 100 < 9900) (hCA : CodeHere h₀ 446 P) (htr : TriplesOk ps.toList) (hP : (P, tabO ps) ∈ news) (hR : ∀ p ∈ R, p ∈ news) (hPR : ∀ p ∈ R, p.1 ≠ P) (hy : (y, instObj 350 dy) ∈ news) (hdy : (dy, dictOf (polyD w r cy q1 q2) 2) ∈ news) (hcy : (cy, W.listOf vs.toArray n) ∈ news) (k1 : y ≠ P) (k2 : dy ≠ P) (k3 : cy ≠ P) (hi : IntsAre vs ns) (hlen : ns.length = 256) (hb : ∀ x ∈ ns, 0 ≤ x ∧ x < 3329) (hg : AllBare s.gens)
    (hret : ∀ D s' ps' ys k, Fr h₀ L s'.heap m → News h₀ L s'.heap ((D, W.listOf ys.toArray k) :: (P, tabO ps') :: R) → TriplesOk ps'.toList → AllBare s'.gens → s'.os = s.os → IntsAre ys (ns.map fun x => (128 * x).fmod 3329) → Q (.ref D) s') :
    wpAny (model PySem.Challenge.rw_yi0009_01.row.prog w) (ktrTop dp un gd cn cs L fa ccd cl outer) (call (.ref 447) [.ref y]) Q E s :=
  thick_ok (R := (y, instObj 350 dy) :: (dy, dictOf (polyD w r cy q1 q2) 2) :: (cy, W.listOf vs.toArray n) :: R) B F X (fun q hq => N q (by
    rcases List.mem_cons.mp hq with rfl | hq
    · exact hP
    · rcases List.mem_cons.mp hq with rfl | hq
      · exact hy
      · rcases List.mem_cons.mp hq with rfl | hq
        · exact hdy
        · rcases List.mem_cons.mp hq with rfl | hq
          · exact hcy
          · exact hR q hq)) T hcs hdp hu hCA htr (List.forall_mem_cons.mpr ⟨k1, List.forall_mem_cons.mpr ⟨k2, List.forall_mem_cons.mpr ⟨k3, hPR⟩⟩⟩) (.head _) (.tail _ (.head _)) (.tail _ (.tail _ (.head _))) hi hlen hb hg
    fun D s' ps' ys k F' N' htr' hg' hos' hys => hret D s' ps' ys k F' (fun q hq => N' q (by
      rcases List.mem_cons.mp hq with rfl | hq
      · exact .head _
      · rcases List.mem_cons.mp hq with rfl | hq
        · exact .tail _ (.head _)
        · exact .tail _ (.tail _ (.tail _ (.tail _ (.tail _ hq)))))) htr' hg' hos' hys
variable {P : Addr} {ps : Array Value}
theorem G24 (B : Below A₀ base outer h₀) (F : Fr h₀ L s.heap m) (hm₀ : ∀ p ∈ ([(nm "ring", .ref r), (nm "c", .int c tc), (nm "a", .ref la), (nm "minus", .ref lm), (nm "up", .ref lu), (nm "down", .ref ld), (nm "under", .ref ln), (nm "f", .ref xf), (nm "rest", .ref lr), (nm "h", .ref xh), (nm "taken", .ref x1)] : List (Str × Value)), m p.1 = some p.2) (X : (hd.heap_1 w.params).In h₀) (N : News h₀ L s.heap ((P, tabO ps) :: R)) (T : Top p loose mean mg mb h₀) (hcs : cs = lawS w)
    (hdp : dp + 20 < 1000) (hu : un + 200 < 9900) (H1 : Has w R 350 x1 dx1 c1 r dr zl zvs nz t1 t2 u1 u2 u3 u4 u5 u6 u7) (hc1 : (c1, W.listOf vs1.toArray n1) ∈ R) (h1 : IntsAre vs1 ns1) (h1len : ns1.length = 256) (hzi : IntsAre zvs zs)  (hln : (ln, W.listOf nvs.toArray nn) ∈ R) (hni : IntsAre nvs unders) (hg : Hide (AllBare s.gens)) (hCA : Hide (CodeHere h₀ 446 P)) (htr : Hide (TriplesOk ps.toList)) (hPR : Hide (∀ p ∈ R, p.1 ≠ P)) (hT : (fromNtt ns1).map (fun x => (128 * x).fmod 3329) = unders) (hb : ∀ x ∈ fromNtt ns1, 0 ≤ x ∧ x < 3329)
    (hQ : ∀ ps' s', Fr h₀ L s'.heap m → News h₀ L s'.heap ((P, tabO ps') :: R) → TriplesOk ps'.toList → AllBare s'.gens → s'.os = s.os → Q .next s') :
    wpAny (model PySem.Challenge.rw_yi0009_01.row.prog w) (ktrTop dp un gd cn cs L fa ccd cl outer) (execs (List.take 1 (List.drop 24 (lawB w))) (envX cn cs L fa ccd cl)) Q E s := by
  have e₀ : kstB m [(nm "ring", .ref r), (nm "c", .int c tc), (nm "a", .ref la), (nm "minus", .ref lm), (nm "up", .ref lu), (nm "down", .ref ld), (nm "under", .ref ln), (nm "f", .ref xf), (nm "rest", .ref lr), (nm "h", .ref xh), (nm "taken", .ref x1)] = m := by
    funext z
    exact kstB_eq hm₀ fun _ => rfl
  rw [← e₀] at F
  have hQ' := hQ
  (try rw [← e₀] at hQ')
  clear hQ
  clear e₀ hm₀
  have HX1 := H1
  obtain ⟨hx1, hdx1, hr₂, hdr₂, hz₂⟩ := H1
  have hrr := hr₂
  have hdrr := hdr₂
  dsimp only [kstB] at F
  have kMark : KstMark := kstMark
  walk_at "LAW"
  have hx1 := List.mem_cons_of_mem (P, tabO ps) hx1
  have hdx1 := List.mem_cons_of_mem (P, tabO ps) hdx1
  have hrr := List.mem_cons_of_mem (P, tabO ps) hr₂
  have hdrr := List.mem_cons_of_mem (P, tabO ps) hdr₂
  have hzz := List.mem_cons_of_mem (P, tabO ps) hz₂
  have hc1 := List.mem_cons_of_mem (P, tabO ps) hc1
  have hln₀ := hln
  have hln := List.mem_cons_of_mem (P, tabO ps) hln
  repeat' (first | ((fail_if_success (with_reducible show wpAny _ _ (call (Value.ref 380) _) _ _ _)); first | (k_unfold; (try dsimp only)) | (k_end; wrow_close) | walk1 | (dsimp only; walk1) | (leave1; walk_say "STEP leave1"; try dsimp only)))
  dsimp only [List.cons_append, List.nil_append]
  refine' from_ntt_upd ?k1 ?k2 ?k3 ?k4 ?k5 ?k6 ?k7 ?k8 ?k9 ?k10 ?k11 ?k12 ?k13 ?k14 ?k15 ?k16 ?k17 ?k18 ?_; (case k1 => k_asm); (case k2 => k_asm); (case k3 => k_asm); (case k4 => k_asm); (case k5 => k_asm); (case k6 => first | exact rfl | assumption); (case k7 => omega); (case k8 => omega); (case k10 => k_mem); (case k11 => k_mem); (case k12 => k_mem); (case k13 => k_mem); (case k14 => k_mem); (case k9 => k_updF); (case k15 => first | omega | exact Nat.ne_of_lt (AllLt.at_ (by k_all) (by k_mem)) | exact ne_mem (by k_mem) (by k_all)); (case k16 => k_asm); (case k17 => l_ints); (case k18 => walk_at "LEN"); k_whole; intro y' dy' vs' q1' q2' h' tk' F' N' i' l1 l2; (try k_lt l1); (try k_lt2 l2); (try dsimp only at N'); (try k_sweep)
  repeat' (first | ((fail_if_success (with_reducible show wpAny _ _ (call (Value.ref 447) _) _ _ _)); first | (k_unfold; (try dsimp only)) | (k_end; wrow_close) | walk1 | (dsimp only; walk1) | (leave1; walk_say "STEP leave1"; try dsimp only)))
  with_reducible rename Fr _ _ _ _ => lF
  with_reducible rename News _ _ _ _ => lN
  k_dflt (refine thick_sub (R := R) (P := P) (ps := ps) (by k_asm) lF (by k_asm) lN (by k_asm) ?_ ?_ ?_ hCA.out htr.out (by kcf_m) ?_ hPR.out (by kcf_m) (by kcf_m) (by kcf_m) ?_ ?_ ?_ (by assumption) ?_ hb hg.out ?_)
  · exact rfl
  · omega
  · omega
  · kcf_all
  · show @Ne Nat _ _
    omega
  · show @Ne Nat _ _
    omega
  · show @Ne Nat _ _
    omega
  · rw [len_fromNtt]; exact h1len
  clear lF lN
  intro D s' ps' ys k F3 N3 htr3 hg3 hos3 hys
  obtain ⟨hp6, g6, d6, tk6, os6⟩ := s'
  dsimp only at F3 N3 hg3 hos3
  have hD : (D, W.listOf ys.toArray k) ∈ (D, W.listOf ys.toArray k) :: (P, tabO ps') :: R := .head _
  have hln2 : (ln, W.listOf nvs.toArray nn) ∈ (D, W.listOf ys.toArray k) :: (P, tabO ps') :: R := .tail _ (.tail _ hln₀)
  k_steps
  all_goals (try k_data)
  with_reducible rename Fr _ _ _ _ => lF
  with_reducible rename News _ _ _ _ => lN
  exact hQ' ps' _ lF (news_sub lN (by kcf_all)) htr3 hg3 hos3

end
end
theorem reset_G25 {prog : PySem.Program} {w : PySem.World} {A : PySem.Around} {E : PySem.Value → PySem.Shared → Prop} {Q : PySem.Value → PySem.Shared → Prop} {s : PySem.Shared} (h : Q .none s) : PySem.wpAny (PySem.model prog w) A (pure .none) Q E s := by
  w_top off
  first
  | (walk1; fail "reset")
  | exact PySem.wpAny_pure h
section -- G25
section
variable {w : World} {p : Program} {loose : List Str} {mean : ExcName → Option Value} {mg mb : Str → Option Value} {dp un : Nat} {gd : Option (List Code)} {cn : Str} {cs : Scope} {fa : Addr} {ccd : Value} {cl : List (Str × Addr)} {outer : List Env} {A₀ : Around} {base h₀ : Heap} {L : Addr} {s : Shared} {Q : Flow → Shared → Prop} {E : Value → Shared → Prop}
  {R : List (Addr × Obj)} {m : Str → Option Value} {r dr zl la lm lu ld ln xf dxf cf lr xh dxh ch x1 dx1 c1 : Addr} {c : Int} {tc t1 t2 q1 q2 u1 u2 u3 u4 u5 u6 u7 : Tok} {zvs avs mvs uvs dvs nvs fvs rvs hvs vs1 : List Value} {nz na nm' nu nd nn nf nr nh n1 : Nat} {as ms ups downs unders H ns1 : List Int}
theorem G25 (B : Below A₀ base outer h₀) (F : Fr h₀ L s.heap m) (hm₀ : ∀ p ∈ ([(nm "ring", .ref r), (nm "c", .int c tc), (nm "a", .ref la), (nm "minus", .ref lm), (nm "up", .ref lu), (nm "down", .ref ld), (nm "under", .ref ln), (nm "f", .ref xf), (nm "rest", .ref lr), (nm "h", .ref xh)] : List (Str × Value)), m p.1 = some p.2) (X : (hd.heap_1 w.params).In h₀) (N : News h₀ L s.heap R) (T : Top p loose mean mg mb h₀) (hcs : cs = lawS w)
    (hdp : dp + 20 < 1000) (hu : un + 200 < 9900) (HS : Has w R 426 xh dxh ch r dr zl zvs nz t1 t2 u1 u2 u3 u4 u5 u6 u7) (hch : (ch, W.listOf hvs.toArray nh) ∈ R) (hh : IntsAre hvs H) (hHlen : H.length = 256)
    (hQ : ∀ x1 dx1 c1 q1 q2 vs1 n1 h tk, Fr h₀ L h (fun y => if y = nm "scaled" then some (.ref x1) else m y) → News h₀ L h ((x1, instObj 426 dx1) :: (dx1, dictOf (polyD w r c1 q1 q2) 2) :: (c1, W.listOf vs1.toArray n1) :: R) → IntsAre vs1 (H.map fun x => (x * -1).fmod 3329) → (∀ p ∈ R, p.1 ≠ c1) → c1 ≠ dx1 → c1 ≠ x1 → Q .next { s with heap := h, toks := tk }) :
    wpAny (model PySem.Challenge.rw_yi0009_01.row.prog w) (ktrTop dp un gd cn cs L fa ccd cl outer) (execs (List.take 1 (List.drop 25 (lawB w))) (envX cn cs L fa ccd cl)) Q E s := by
  have e₀ : kstB m [(nm "ring", .ref r), (nm "c", .int c tc), (nm "a", .ref la), (nm "minus", .ref lm), (nm "up", .ref lu), (nm "down", .ref ld), (nm "under", .ref ln), (nm "f", .ref xf), (nm "rest", .ref lr), (nm "h", .ref xh)] = m := by
    funext z
    exact kstB_eq hm₀ fun _ => rfl
  rw [← e₀] at F
  have hQ' := hQ
  (try rw [← e₀] at hQ')
  clear hQ
  clear e₀ hm₀
  obtain ⟨hx, hdx, hr₁, hdr, hz⟩ := HS
  dsimp only [kstB] at F
  have kMark : KstMark := kstMark
  walk_at "LAW"
  k_steps
  all_goals (try k_data)
  with_reducible rename Fr _ _ _ _ => lF
  with_reducible rename News _ _ _ _ => lN
  with_reducible rename And _ (LCg.Off1 _ _) => lO
  with_reducible rename And _ (And _ (AllLt _ _)) => lA
  exact hQ' _ _ _ _ _ _ _ _ _ lF (news_sub lN (by kcf_all)) (by l_ints) (off1_mem lO.2) (Nat.ne_of_lt lA.1) (Nat.ne_of_lt (Nat.lt_trans lA.1 (by assumption)))

end
end
theorem reset_G26 {prog : PySem.Program} {w : PySem.World} {A : PySem.Around} {E : PySem.Value → PySem.Shared → Prop} {Q : PySem.Value → PySem.Shared → Prop} {s : PySem.Shared} (h : Q .none s) : PySem.wpAny (PySem.model prog w) A (pure .none) Q E s := by
  w_top off
  first
  | (walk1; fail "reset")
  | exact PySem.wpAny_pure h
section -- G26
section
variable {w : World} {p : Program} {loose : List Str} {mean : ExcName → Option Value} {mg mb : Str → Option Value} {dp un : Nat} {gd : Option (List Code)} {cn : Str} {cs : Scope} {fa : Addr} {ccd : Value} {cl : List (Str × Addr)} {outer : List Env} {A₀ : Around} {base h₀ : Heap} {L : Addr} {s : Shared} {Q : Flow → Shared → Prop} {E : Value → Shared → Prop}
  {R : List (Addr × Obj)} {m : Str → Option Value} {r dr zl la lm lu ld ln xf dxf cf lr xh dxh ch x1 dx1 c1 : Addr} {c : Int} {tc t1 t2 q1 q2 u1 u2 u3 u4 u5 u6 u7 : Tok} {zvs avs mvs uvs dvs nvs fvs rvs hvs vs1 : List Value} {nz na nm' nu nd nn nf nr nh n1 : Nat} {as ms ups downs unders H ns1 : List Int}
theorem G26 (B : Below A₀ base outer h₀) (F : Fr h₀ L s.heap m) (hm₀ : ∀ p ∈ ([(nm "ring", .ref r), (nm "c", .int c tc), (nm "a", .ref la), (nm "minus", .ref lm), (nm "up", .ref lu), (nm "down", .ref ld), (nm "under", .ref ln), (nm "f", .ref xf), (nm "rest", .ref lr), (nm "h", .ref xh), (nm "scaled", .ref x1)] : List (Str × Value)), m p.1 = some p.2) (X : (hd.heap_1 w.params).In h₀) (N : News h₀ L s.heap ((c1, W.listOf vs1.toArray n1) :: R)) (T : Top p loose mean mg mb h₀) (hcs : cs = lawS w)
    (hdp : dp + 20 < 1000) (hu : un + 200 < 9900) (H1 : Has w R 426 x1 dx1 c1 r dr zl zvs nz t1 t2 u1 u2 u3 u4 u5 u6 u7) (h1 : IntsAre vs1 ns1) (h1len : ns1.length = 256) (hcl : ∀ p ∈ R, p.1 ≠ c1) (hzi : IntsAre zvs zs)  (hlm : (lm, W.listOf mvs.toArray nm') ∈ R) (hm : IntsAre mvs ms) (hT : fromNtt ns1 = ms)
    (hQ : ∀ h tk, Fr h₀ L h m → News h₀ L h R → Q .next { s with heap := h, toks := tk }) :
    wpAny (model PySem.Challenge.rw_yi0009_01.row.prog w) (ktrTop dp un gd cn cs L fa ccd cl outer) (execs (List.take 1 (List.drop 26 (lawB w))) (envX cn cs L fa ccd cl)) Q E s := by
  have e₀ : kstB m [(nm "ring", .ref r), (nm "c", .int c tc), (nm "a", .ref la), (nm "minus", .ref lm), (nm "up", .ref lu), (nm "down", .ref ld), (nm "under", .ref ln), (nm "f", .ref xf), (nm "rest", .ref lr), (nm "h", .ref xh), (nm "scaled", .ref x1)] = m := by
    funext z
    exact kstB_eq hm₀ fun _ => rfl
  rw [← e₀] at F
  have hQ' := hQ
  (try rw [← e₀] at hQ')
  clear hQ
  clear e₀ hm₀
  have HX1 := H1
  obtain ⟨hx1, hdx1, hr₂, hdr₂, hz₂⟩ := H1
  have hrr := hr₂
  have hdrr := hdr₂
  dsimp only [kstB] at F
  have kMark : KstMark := kstMark
  walk_at "LAW"
  have hc1 : (c1, W.listOf vs1.toArray n1) ∈ ((c1, W.listOf vs1.toArray n1) :: R) := List.mem_cons_self
  have hx1 := List.mem_cons_of_mem (c1, W.listOf vs1.toArray n1) hx1
  have hdx1 := List.mem_cons_of_mem (c1, W.listOf vs1.toArray n1) hdx1
  have hlm := List.mem_cons_of_mem (c1, W.listOf vs1.toArray n1) hlm
  repeat' (first | ((fail_if_success (with_reducible show wpAny _ _ (call (Value.ref 380) _) _ _ _)); first | (k_unfold; (try dsimp only)) | (k_end; wrow_close) | walk1 | (dsimp only; walk1) | (leave1; walk_say "STEP leave1"; try dsimp only)))
  dsimp only [List.cons_append, List.nil_append]
  with_reducible rename Fr _ _ _ _ => lF
  with_reducible rename News _ _ _ _ => lN
  k_dflt (refine' from_ntt_ok (by k_asm) lF (by k_asm) lN (by k_asm) ?k6 ?k7 ?k8 (by assumption) HX1 (by assumption) (by assumption) (by assumption) ?_; (case k6 => first | exact rfl | assumption); (case k7 => omega); (case k8 => omega); k_whole; clear lF lN; intro y' dy' vs' q1' q2' h' tk' F' N' i' l1 l2; (try k_lt l1); (try k_lt2 l2); (try dsimp only at N'); (try k_sweep))
  k_steps
  all_goals (try k_data)
  with_reducible rename Fr _ _ _ _ => lF
  with_reducible rename News _ _ _ _ => lN
  exact hQ' _ _ lF (fun p hp => lN p (by first | exact hp | (repeat (first | exact hp | refine List.mem_cons_of_mem _ ?_))))

end
end
theorem reset_G27 {prog : PySem.Program} {w : PySem.World} {A : PySem.Around} {E : PySem.Value → PySem.Shared → Prop} {Q : PySem.Value → PySem.Shared → Prop} {s : PySem.Shared} (h : Q .none s) : PySem.wpAny (PySem.model prog w) A (pure .none) Q E s := by
  w_top off
  first
  | (walk1; fail "reset")
  | exact PySem.wpAny_pure h
section -- G27
section
variable {w : World} {p : Program} {loose : List Str} {mean : ExcName → Option Value} {mg mb : Str → Option Value} {dp un : Nat} {gd : Option (List Code)} {cn : Str} {cs : Scope} {fa : Addr} {ccd : Value} {cl : List (Str × Addr)} {outer : List Env} {A₀ : Around} {base h₀ : Heap} {L : Addr} {s : Shared} {Q : Flow → Shared → Prop} {E : Value → Shared → Prop}
  {R : List (Addr × Obj)} {m : Str → Option Value} {r dr zl la lm lu ld ln xf dxf cf lr xh dxh ch x1 dx1 c1 : Addr} {c : Int} {tc t1 t2 q1 q2 u1 u2 u3 u4 u5 u6 u7 : Tok} {zvs avs mvs uvs dvs nvs fvs rvs hvs vs1 : List Value} {nz na nm' nu nd nn nf nr nh n1 : Nat} {as ms ups downs unders H ns1 : List Int}
theorem G27 (B : Below A₀ base outer h₀) (F : Fr h₀ L s.heap m) (hm₀ : ∀ p ∈ ([(nm "ring", .ref r), (nm "c", .int c tc), (nm "a", .ref la), (nm "minus", .ref lm), (nm "up", .ref lu), (nm "down", .ref ld), (nm "under", .ref ln), (nm "f", .ref xf), (nm "rest", .ref lr), (nm "h", .ref xh)] : List (Str × Value)), m p.1 = some p.2) (X : (hd.heap_1 w.params).In h₀) (N : News h₀ L s.heap R) (T : Top p loose mean mg mb h₀) (hcs : cs = lawS w)
    (hdp : dp + 20 < 1000) (hu : un + 200 < 9900) (HS : Has w R 426 xh dxh ch r dr zl zvs nz t1 t2 u1 u2 u3 u4 u5 u6 u7) (hch : (ch, W.listOf hvs.toArray nh) ∈ R) (hh : IntsAre hvs H) (hHlen : H.length = 256)
    (hQ : ∀ x1 dx1 c1 q1 q2 vs1 n1 h tk, Fr h₀ L h (fun y => if y = nm "one" then some (.ref x1) else m y) → News h₀ L h ((x1, instObj 350 dx1) :: (dx1, dictOf (polyD w r c1 q1 q2) 2) :: (c1, W.listOf vs1.toArray n1) :: R) → IntsAre vs1 ([1] ++ List.replicate 255 0) → Q .next { s with heap := h, toks := tk }) :
    wpAny (model PySem.Challenge.rw_yi0009_01.row.prog w) (ktrTop dp un gd cn cs L fa ccd cl outer) (execs (List.take 1 (List.drop 27 (lawB w))) (envX cn cs L fa ccd cl)) Q E s := by
  have e₀ : kstB m [(nm "ring", .ref r), (nm "c", .int c tc), (nm "a", .ref la), (nm "minus", .ref lm), (nm "up", .ref lu), (nm "down", .ref ld), (nm "under", .ref ln), (nm "f", .ref xf), (nm "rest", .ref lr), (nm "h", .ref xh)] = m := by
    funext z
    exact kstB_eq hm₀ fun _ => rfl
  rw [← e₀] at F
  have hQ' := hQ
  (try rw [← e₀] at hQ')
  clear hQ
  clear e₀ hm₀
  obtain ⟨hx, hdx, hr₁, hdr, hz⟩ := HS
  dsimp only [kstB] at F
  have kMark : KstMark := kstMark
  walk_at "LAW"
  k_steps
  all_goals (try k_data)
  with_reducible rename Fr _ _ _ _ => lF
  with_reducible rename News _ _ _ _ => lN
  refine hQ' _ _ _ _ _ _ _ _ _ lF (news_sub lN (by kcf_all)) ?_
  first | assumption | l_ints

end
end
theorem reset_G28 {prog : PySem.Program} {w : PySem.World} {A : PySem.Around} {E : PySem.Value → PySem.Shared → Prop} {Q : PySem.Value → PySem.Shared → Prop} {s : PySem.Shared} (h : Q .none s) : PySem.wpAny (PySem.model prog w) A (pure .none) Q E s := by
  w_top off
  first
  | (walk1; fail "reset")
  | exact PySem.wpAny_pure h
section -- G28
section
variable {w : World} {p : Program} {loose : List Str} {mean : ExcName → Option Value} {mg mb : Str → Option Value} {dp un : Nat} {gd : Option (List Code)} {cn : Str} {cs : Scope} {fa : Addr} {ccd : Value} {cl : List (Str × Addr)} {outer : List Env} {A₀ : Around} {base h₀ : Heap} {L : Addr} {s : Shared} {Q : Flow → Shared → Prop} {E : Value → Shared → Prop}
  {R : List (Addr × Obj)} {m : Str → Option Value} {r dr zl la lm lu ld ln xf dxf cf lr xh dxh ch x1 dx1 c1 : Addr} {c : Int} {tc t1 t2 q1 q2 u1 u2 u3 u4 u5 u6 u7 : Tok} {zvs avs mvs uvs dvs nvs fvs rvs hvs vs1 : List Value} {nz na nm' nu nd nn nf nr nh n1 : Nat} {as ms ups downs unders H ns1 : List Int}
theorem G28 (B : Below A₀ base outer h₀) (F : Fr h₀ L s.heap m) (hm₀ : ∀ p ∈ ([(nm "ring", .ref r), (nm "c", .int c tc), (nm "a", .ref la), (nm "minus", .ref lm), (nm "up", .ref lu), (nm "down", .ref ld), (nm "under", .ref ln), (nm "f", .ref xf), (nm "rest", .ref lr), (nm "h", .ref xh), (nm "one", .ref x1)] : List (Str × Value)), m p.1 = some p.2) (X : (hd.heap_1 w.params).In h₀) (N : News h₀ L s.heap R) (T : Top p loose mean mg mb h₀) (hcs : cs = lawS w)
    (hdp : dp + 20 < 1000) (hu : un + 200 < 9900) (H1 : Has w R 350 x1 dx1 c1 r dr zl zvs nz t1 t2 u1 u2 u3 u4 u5 u6 u7) (hc1 : (c1, W.listOf vs1.toArray n1) ∈ R) (h1 : IntsAre vs1 ([1] ++ List.replicate 255 0))
    (hQ : ∀ h tk, Fr h₀ L h m → News h₀ L h R → Q .next { s with heap := h, toks := tk }) :
    wpAny (model PySem.Challenge.rw_yi0009_01.row.prog w) (ktrTop dp un gd cn cs L fa ccd cl outer) (execs (List.take 1 (List.drop 28 (lawB w))) (envX cn cs L fa ccd cl)) Q E s := by
  have e₀ : kstB m [(nm "ring", .ref r), (nm "c", .int c tc), (nm "a", .ref la), (nm "minus", .ref lm), (nm "up", .ref lu), (nm "down", .ref ld), (nm "under", .ref ln), (nm "f", .ref xf), (nm "rest", .ref lr), (nm "h", .ref xh), (nm "one", .ref x1)] = m := by
    funext z
    exact kstB_eq hm₀ fun _ => rfl
  rw [← e₀] at F
  have hQ' := hQ
  (try rw [← e₀] at hQ')
  clear hQ
  clear e₀ hm₀
  have HX1 := H1
  obtain ⟨hx1, hdx1, hr₂, hdr₂, hz₂⟩ := H1
  have hrr := hr₂
  have hdrr := hdr₂
  dsimp only [kstB] at F
  have kMark : KstMark := kstMark
  walk_at "LAW"
  k_steps
  all_goals (try k_data)
  with_reducible rename Fr _ _ _ _ => lF
  with_reducible rename News _ _ _ _ => lN
  exact hQ' _ _ lF (fun p hp => lN p (by first | exact hp | (repeat (first | exact hp | refine List.mem_cons_of_mem _ ?_))))

end
end
theorem reset_G29 {prog : PySem.Program} {w : PySem.World} {A : PySem.Around} {E : PySem.Value → PySem.Shared → Prop} {Q : PySem.Value → PySem.Shared → Prop} {s : PySem.Shared} (h : Q .none s) : PySem.wpAny (PySem.model prog w) A (pure .none) Q E s := by
  w_top off
  first
  | (walk1; fail "reset")
  | exact PySem.wpAny_pure h
section -- G29
section
variable {w : World} {p : Program} {loose : List Str} {mean : ExcName → Option Value} {mg mb : Str → Option Value} {dp un : Nat} {gd : Option (List Code)} {cn : Str} {cs : Scope} {fa : Addr} {ccd : Value} {cl : List (Str × Addr)} {outer : List Env} {A₀ : Around} {base h₀ : Heap} {L : Addr} {s : Shared} {Q : Flow → Shared → Prop} {E : Value → Shared → Prop}
  {R : List (Addr × Obj)} {m : Str → Option Value} {r dr zl la lm lu ld ln xf dxf cf lr xh dxh ch x1 dx1 c1 : Addr} {c : Int} {tc t1 t2 q1 q2 u1 u2 u3 u4 u5 u6 u7 : Tok} {zvs avs mvs uvs dvs nvs fvs rvs hvs vs1 : List Value} {nz na nm' nu nd nn nf nr nh n1 : Nat} {as ms ups downs unders H ns1 : List Int}
theorem G29 (B : Below A₀ base outer h₀) (F : Fr h₀ L s.heap m) (hm₀ : ∀ p ∈ ([(nm "ring", .ref r), (nm "c", .int c tc), (nm "a", .ref la), (nm "minus", .ref lm), (nm "up", .ref lu), (nm "down", .ref ld), (nm "under", .ref ln), (nm "f", .ref xf), (nm "rest", .ref lr), (nm "h", .ref xh)] : List (Str × Value)), m p.1 = some p.2) (X : (hd.heap_1 w.params).In h₀) (N : News h₀ L s.heap ((ch, W.listOf hvs.toArray nh) :: R)) (T : Top p loose mean mg mb h₀) (hcs : cs = lawS w)
    (hdp : dp + 20 < 1000) (hu : un + 200 < 9900) (HS : Has w R 426 xh dxh ch r dr zl zvs nz t1 t2 u1 u2 u3 u4 u5 u6 u7) (hla : (la, W.listOf avs.toArray na) ∈ R) (ha : IntsAre avs as) (hlen : as.length = 256) (hh : IntsAre hvs H) (hHlen : H.length = 256) (hcl : ∀ p ∈ R, p.1 ≠ ch) (hzi : IntsAre zvs zs) (hT : fromNtt H = as.map (fun x => x.fmod 3329))
    (hQ : ∀ h tk, Fr h₀ L h m → News h₀ L h R → Q (.ret (.bool true)) { s with heap := h, toks := tk }) :
    wpAny (model PySem.Challenge.rw_yi0009_01.row.prog w) (ktrTop dp un gd cn cs L fa ccd cl outer) (execs (List.take 1 (List.drop 29 (lawB w))) (envX cn cs L fa ccd cl)) Q E s := by
  have e₀ : kstB m [(nm "ring", .ref r), (nm "c", .int c tc), (nm "a", .ref la), (nm "minus", .ref lm), (nm "up", .ref lu), (nm "down", .ref ld), (nm "under", .ref ln), (nm "f", .ref xf), (nm "rest", .ref lr), (nm "h", .ref xh)] = m := by
    funext z
    exact kstB_eq hm₀ fun _ => rfl
  rw [← e₀] at F
  have hQ' := hQ
  (try rw [← e₀] at hQ')
  clear hQ
  clear e₀ hm₀
  obtain ⟨hx, hdx, hr₁, hdr, hz⟩ := HS
  dsimp only [kstB] at F
  have kMark : KstMark := kstMark
  have HXH : Has w R 426 xh dxh ch r dr zl zvs nz t1 t2 u1 u2 u3 u4 u5 u6 u7 := ⟨hx, hdx, hr₁, hdr, hz⟩
  walk_at "LAW"
  have hx := List.mem_cons_of_mem (ch, W.listOf hvs.toArray nh) hx
  have hdx := List.mem_cons_of_mem (ch, W.listOf hvs.toArray nh) hdx
  have hla := List.mem_cons_of_mem (ch, W.listOf hvs.toArray nh) hla
  repeat' (first | ((fail_if_success (with_reducible show wpAny _ _ (call (Value.ref 380) _) _ _ _)); first | (k_unfold; (try dsimp only)) | (k_end; wrow_close) | walk1 | (dsimp only; walk1) | (leave1; walk_say "STEP leave1"; try dsimp only)))
  dsimp only [List.cons_append, List.nil_append]
  with_reducible rename Fr _ _ _ _ => lF
  with_reducible rename News _ _ _ _ => lN
  k_dflt (refine' from_ntt_ok (by k_asm) lF (by k_asm) lN (by k_asm) ?k6 ?k7 ?k8 (by assumption) HXH hzi hh hHlen ?_; (case k6 => first | exact rfl | assumption); (case k7 => omega); (case k8 => omega); k_whole; clear lF lN; intro y' dy' vs' q1' q2' h' tk' F' N' i' l1 l2; (try k_lt l1); (try k_lt2 l2); (try dsimp only at N'); (try k_sweep))
  repeat' (first | ((fail_if_success (with_reducible show wpAny _ _ (eval (PySem.Expr.ListComp _ _ _) _) _ _ _)); (fail_if_success (with_reducible show wpAny _ _ (eval (PySem.Expr.ListComp _ _ _ _) _) _ _ _)); first | (k_unfold; (try dsimp only)) | (k_end; wrow_close) | walk1 | (dsimp only; walk1) | (leave1; walk_say "STEP leave1"; try dsimp only)))
  refine LCg.ListComp_U (F₀ := by k_asm) (by with_unfolding_all rfl) (by decide) (by rfl) (by decide) (by rfl) ?_
  repeat' ((with_reducible show wpAny _ _ _ _ _ _); first | (k_unfold; (try dsimp only)) | walk1 | (dsimp only; walk1) | (leave1; walk_say "STEP leave1"; try dsimp only))
  refine LCg.CompSrc.ledger (by rfl) (by k_asm) (by k_asm) (by k_mem) (sz256 (by assumption) (by assumption)) ?_
  intro g'
  refine' kcf_list (fun x => x.fmod 3329) (by assumption) (fun k' t' I' oI' C' oC' D' m' ys' h' tk' E' hk' hC' hx' F' N' off' ne' hMark' => ?_) ?_
  · k_steps
  · unfold KPfDone
    intro ys hys
    unfold LCg.FinE
    intro D' h'' tk'' F'' N'' o1'
    k_steps
    with_reducible rename Fr _ _ _ _ => lF
    with_reducible rename News _ _ _ _ => lN
    exact hQ' _ _ lF (news_sub lN (by kcf_all))

end
end
end Mine
end
section -- M1
open PySem PySem.W PyProof.Rows
namespace Mine
theorem names_put {m : Str → Option Value} {ps : List (Str × Value)} {x : Str} {v : Value} (h : ∀ p ∈ ps, m p.1 = some p.2) (hx : ∀ p ∈ ps, p.1 ≠ x) : ∀ p ∈ ps ++ [(x, v)], (fun y => if y = x then some v else m y) p.1 = some p.2 := by
  intro p hp
  rcases List.mem_append.mp hp with hp | hp
  · show (if p.1 = x then _ else _) = _
    rw [if_neg (hx p hp)]
    exact h p hp
  · rw [List.mem_singleton.mp hp]
    exact if_pos rfl
theorem names_put0 {m : Str → Option Value} {ps : List (Str × Value)} {x : Str} {v : Value} (h : ∀ p ∈ ps, m p.1 = some p.2) (hx : ∀ p ∈ ps, p.1 ≠ x) : ∀ p ∈ ps, (fun y => if y = x then some v else m y) p.1 = some p.2 :=
  fun p hp => names_put h hx p (List.mem_append_left _ hp)
theorem names_sub {m : Str → Option Value} {ps qs : List (Str × Value)} (h : ∀ p ∈ ps, m p.1 = some p.2) (k : ∀ p ∈ qs, p ∈ ps) : ∀ p ∈ qs, m p.1 = some p.2 := fun p hp => h p (k p hp)
local macro_rules | `(tactic| walk_at "APART") => `(tactic| (repeat (first | exact List.forall_mem_nil _ | refine List.forall_mem_cons.mpr ⟨by dsimp only; decide, ?_⟩)))
theorem Has.up {w : World} {R R' : List (Addr × Obj)} {C x dx cl r dr zl : Addr} {zvs : List Value} {nz : Nat} {t1 t2 u1 u2 u3 u4 u5 u6 u7 : Tok} (h : Has w R C x dx cl r dr zl zvs nz t1 t2 u1 u2 u3 u4 u5 u6 u7) (k : ∀ p ∈ R, p ∈ R') : Has w R' C x dx cl r dr zl zvs nz t1 t2 u1 u2 u3 u4 u5 u6 u7 :=
  ⟨k _ h.x, k _ h.dx, k _ h.r, k _ h.dr, k _ h.z⟩
/-- an object of the table's kind lies apart from any object of another kind -/
theorem off_tab {h₀ h : Heap} {L P : Addr} {ps : Array Value} {R : List (Addr × Obj)} (N : News h₀ L h ((P, tabO ps) :: R)) (k : ∀ p ∈ R, p.2.cls ≠ .none) : ∀ p ∈ R, p.1 ≠ P := by
  intro p hp e
  have h1 := (N _ (.head _)).1
  have h2 := (N p (.tail _ hp)).1
  rw [e] at h2
  have h3 : tabO ps = p.2 := Option.some.inj (h1.symm.trans h2)
  exact k p hp (by rw [← h3])
theorem zip_at (f : Int → Int → Int) (xs ys : List Int) (hx : xs.length = 256) (hy : ys.length = 256) (q : Nat) (hq : q < 256) : (List.zipWith f xs ys).getD q 0 = f (xs.getD q 0) (ys.getD q 0) := by
  have h1 : q < xs.length := by omega
  have h2 : q < ys.length := by omega
  rw [List.getD_eq_getElem?_getD, List.getD_eq_getElem?_getD, List.getD_eq_getElem?_getD, List.getElem?_zipWith, List.getElem?_eq_getElem h1, List.getElem?_eq_getElem h2]
  rfl
section
variable {w : World} {p : Program} {loose : List Str} {mean : ExcName → Option Value} {mg mb : Str → Option Value} {dp un : Nat} {gd : Option (List Code)} {cn : Str} {cs : Scope} {fa : Addr} {ccd : Value} {cl : List (Str × Addr)} {A₀ : Around} {base h₀ : Heap} {L : Addr} {s : Shared} {Q : Flow → Shared → Prop} {E : Value → Shared → Prop}
  {R : List (Addr × Obj)} {m : Str → Option Value} {r dr zl la lm lu ld ln xf dxf cf lr P : Addr} {ps : Array Value} {c : Int} {tc t1 t2 u1 u2 u3 u4 u5 u6 u7 : Tok} {zvs avs mvs uvs dvs nvs fvs rvs : List Value} {nz na nm' nu nd nn nf nr : Nat} {as : List Int}
theorem lawB12 (B : Below A₀ base [] h₀) (XB : Hide ((hd.heap_1 w.params).In base)) (TB : Hide (Top p loose mean mg mb base)) (F : Fr h₀ L s.heap m) (hm₀ : ∀ p ∈ ([(nm "ring", .ref r), (nm "c", .int c tc), (nm "a", .ref la), (nm "minus", .ref lm), (nm "up", .ref lu), (nm "down", .ref ld), (nm "under", .ref ln), (nm "f", .ref xf), (nm "rest", .ref lr)] : List (Str × Value)), m p.1 = some p.2)
    (X : (hd.heap_1 w.params).In h₀) (N : News h₀ L s.heap ((P, tabO ps) :: (cf, W.listOf fvs.toArray nf) :: R)) (T : Top p loose mean mg mb h₀) (hcs : cs = lawS w) (hdp : dp + 20 < 1000) (hu : un + 200 < 9900)
    (HS : Has w R 350 xf dxf cf r dr zl zvs nz t1 t2 u1 u2 u3 u4 u5 u6 u7) (hzi : IntsAre zvs zs) (hla : (la, W.listOf avs.toArray na) ∈ R) (ha : IntsAre avs as) (hlen : as.length = 256) (hf : IntsAre fvs as) (hlr : (lr, W.listOf rvs.toArray nr) ∈ R) (hr : IntsAre rvs (as.drop 1))
    (hlm : (lm, W.listOf mvs.toArray nm') ∈ R) (hm : IntsAre mvs (as.map fun x => (-x).fmod 3329)) (hlu : (lu, W.listOf uvs.toArray nu) ∈ R) (hui : IntsAre uvs (List.zipWith (fun x y => (128 * x + y).fmod 3329) as (fsL c 128)))
    (hld : (ld, W.listOf dvs.toArray nd) ∈ R) (hdi : IntsAre dvs (List.zipWith (fun x y => (128 * x - y).fmod 3329) as (fsL c 128))) (hln : (ln, W.listOf nvs.toArray nn) ∈ R) (hni : IntsAre nvs (List.zipWith (fun x y => (y - 128 * x).fmod 3329) as (fsL c 128)))
    (hcl : ∀ p ∈ R, p.1 ≠ cf) (hPc : P ≠ cf) (hPR : ∀ p ∈ R, p.1 ≠ P) (hg : AllBare s.gens) (hCA : CodeHere h₀ 446 P) (htr : TriplesOk ps.toList)
    (hE : PassesOwn (model PySem.Challenge.rw_yi0009_01.row.prog w) (ktrTop dp un gd cn cs L fa ccd cl []) (envX cn cs L fa ccd cl) E)
    (hQ : ∀ m' ps' R' s', Fr h₀ L s'.heap m' → News h₀ L s'.heap ((P, tabO ps') :: R') → TriplesOk ps'.toList → AllBare s'.gens → s'.os = s.os → Q (.ret (.bool true)) s') :
    wpAny (model PySem.Challenge.rw_yi0009_01.row.prog w) (ktrTop dp un gd cn cs L fa ccd cl []) (execs (List.drop 12 (lawB w)) (envX cn cs L fa ccd cl)) Q E s := by
  have up0 : ∀ p ∈ R, p ∈ (P, tabO ps) :: (cf, W.listOf fvs.toArray nf) :: R := fun p hp => .tail _ (.tail _ hp)
  have hcf0 : (cf, W.listOf fvs.toArray nf) ∈ (P, tabO ps) :: (cf, W.listOf fvs.toArray nf) :: R := .tail _ (.head _)
  refine law_cut 12 1 (G12 B F hm₀ X N T hcs hdp hu (HS.up up0) (up0 _ hla) ha hlen hcf0 hf (up0 _ hlr) hr (up0 _ hlm) hm ?_)
  clear F N
  intro h12 k12 F N
  refine law_cut 13 1 (G13 (s := { s with heap := h12, toks := k12 }) B F hm₀ X N T hcs hdp hu (HS.up up0) (up0 _ hla) ha hlen hcf0 hf (up0 _ hlr) hr (up0 _ hlm) hm ?_)
  clear F N
  intro h13 k13 F N
  refine law_cut 14 1 (G14 (s := { s with heap := h13, toks := k13 }) B F hm₀ X N T hcs hdp hu (HS.up up0) (up0 _ hla) ha hlen hcf0 hf (up0 _ hlr) hr (up0 _ hlm) hm ?_)
  clear F N
  intro h14 k14 F N
  refine law_cut 15 1 (G15 (s := { s with heap := h14, toks := k14 }) B F hm₀ X N T hcs hdp hu (HS.up up0) (up0 _ hla) ha hlen hcf0 hf (up0 _ hlr) hr (up0 _ hlm) hm ?_)
  clear F N
  intro h15 k15 F N
  refine law_cut 16 1 (G16 (s := { s with heap := h15, toks := k15 }) B F hm₀ X N T hcs hdp hu (HS.up up0) (up0 _ hla) ha hlen hcf0 hf (up0 _ hlr) hr (up0 _ hlm) hm ?_)
  clear F N
  intro h16 k16 F N
  -- h = f.to_ntt()
  have hlH : (toNtt as).length = 256 := by rw [len_toNtt]; exact hlen
  have up1 : ∀ p ∈ R, p ∈ (P, tabO ps) :: R := fun p hp => .tail _ hp
  refine law_cut 17 1 (G17 (s := { s with heap := h16, toks := k16 }) (R := (P, tabO ps) :: R) B F hm₀ X (news_sub N (by kcf_all)) T hcs hdp hu (HS.up up1) hf hlen (List.forall_mem_cons.mpr ⟨hPc, hcl⟩) hzi ?_)
  clear F N
  intro xh dxh y1 y2 hvs h17 k17 F N hh lt1 lt2 lt3
  have hm17 := names_put hm₀ (x := nm "h") (v := .ref xh) (by walk_at "APART")
  let R8 : List (Addr × Obj) := (xh, instObj 426 dxh) :: (dxh, dictOf (polyD w r cf y1 y2) 2) :: (cf, W.listOf hvs.toArray nf) :: R
  have up8 : ∀ p ∈ R, p ∈ R8 := fun p hp => .tail _ (.tail _ (.tail _ hp))
  have HH8 : Has w R8 426 xh dxh cf r dr zl zvs nz y1 y2 u1 u2 u3 u4 u5 u6 u7 := ⟨.head _, .tail _ (.head _), up8 _ HS.r, up8 _ HS.dr, up8 _ HS.z⟩
  have hc8 : (cf, W.listOf hvs.toArray nf) ∈ R8 := .tail _ (.tail _ (.head _))
  have hPlt : P < dxh := lt1 _ (.head _)
  have hP8 : ∀ p ∈ R8, p.1 ≠ P := List.forall_mem_cons.mpr ⟨Ne.symm (Nat.ne_of_lt (Nat.lt_trans hPlt lt3)), List.forall_mem_cons.mpr ⟨Ne.symm (Nat.ne_of_lt hPlt), List.forall_mem_cons.mpr ⟨Ne.symm hPc, hPR⟩⟩⟩
  have N8 : News h₀ L h17 ((P, tabO ps) :: R8) := news_sub N (by kcf_all)
  clear N
  have gU : ∀ q, q < 256 → (List.zipWith (fun x y => (128 * x + y).fmod 3329) as (fsL c 128)).getD q 0 = (128 * as.getD q 0 + (fsL c 128).getD q 0).fmod 3329 := fun q hq => zip_at _ _ _ hlen (len_fsL c 128) q hq
  have gD : ∀ q, q < 256 → (List.zipWith (fun x y => (128 * x - y).fmod 3329) as (fsL c 128)).getD q 0 = (128 * as.getD q 0 - (fsL c 128).getD q 0).fmod 3329 := fun q hq => zip_at _ _ _ hlen (len_fsL c 128) q hq
  have gN : ∀ q, q < 256 → (List.zipWith (fun x y => (y - 128 * x).fmod 3329) as (fsL c 128)).getD q 0 = ((fsL c 128).getD q 0 - 128 * as.getD q 0).fmod 3329 := fun q hq => zip_at _ _ _ hlen (len_fsL c 128) q hq
  have lenz : ∀ f : Int → Int → Int, (List.zipWith f as (fsL c 128)).length = 256 := fun f => by rw [List.length_zipWith, hlen, len_fsL]; rfl
  refine law_cut 18 1 (G18 (s := { s with heap := h17, toks := k17 }) (R := R8) B F hm17 X N8 T hcs hdp hu HH8 hc8 hh hlH hzi (up8 _ hlu) hui (up8 _ hld) hdi ⟨hg⟩ ⟨hCA⟩ ⟨htr⟩ ⟨hP8⟩ (pl_up as _ c hlen (lenz _) gU) (pl_down as _ c hlen (lenz _) gD) (from_bd _ (by rw [List.length_set]; exact hlH)) (from_bd _ (by rw [List.length_set]; exact hlH)) hE ?_)
  clear F N8 hm17 htr hg
  intro m18 ps18 s18 F hm18 N htr hg hos
  obtain ⟨g18, ge18, d18, k18, os18⟩ := s18
  dsimp only at F N hg hos
  -- turned
  have upP : ∀ p ∈ R8, p ∈ (P, tabO ps18) :: R8 := fun p hp => .tail _ hp
  have hlHn : ∀ f : Int → Int, ((toNtt as).map f).length = 256 := fun f => by rw [List.length_map]; exact hlH
  refine law_cut 19 1 (G19 (s := ⟨g18, ge18, d18, k18, os18⟩) (R := (P, tabO ps18) :: R8) B F hm18 X N T hcs hdp hu (HH8.up upP) (upP _ hc8) hh hlH ?_)
  clear F N
  intro x1 dx1 c1 q1 q2 vs1 n1 h19 k19 F N hi1
  have hm19 := names_put hm18 (x := nm "turned") (v := .ref x1) (by walk_at "APART")
  let T8 : List (Addr × Obj) := (x1, instObj 350 dx1) :: (dx1, dictOf (polyD w r c1 q1 q2) 2) :: (c1, W.listOf vs1.toArray n1) :: (P, tabO ps18) :: R8
  have upT : ∀ p ∈ R8, p ∈ T8 := fun p hp => .tail _ (.tail _ (.tail _ (.tail _ hp)))
  have HT8 : Has w T8 350 x1 dx1 c1 r dr zl zvs nz q1 q2 u1 u2 u3 u4 u5 u6 u7 := ⟨.head _, .tail _ (.head _), upT _ HH8.r, upT _ HH8.dr, upT _ HH8.z⟩
  have hcT : (c1, W.listOf vs1.toArray n1) ∈ T8 := .tail _ (.tail _ (.head _))
  refine law_cut 20 1 (G20 (s := ⟨h19, ge18, d18, k19, os18⟩) (R := T8) B F hm19 X N T hcs hdp hu XB TB HT8 hcT hi1 (hlHn _) ?_)
  clear F N
  intro h20 k20 F N
  refine law_cut 21 1 (G21 (s := ⟨h20, ge18, d18, k20, os18⟩) (R := T8) B F hm19 X N T hcs hdp hu HT8 hcT hi1 (hlHn _) hzi (upT _ (up8 _ hlm)) hm (pl_neg _ neg_dvd as hlen) ?_)
  clear F N
  intro h21 k21 F N
  have N : News h₀ L h21 ((P, tabO ps18) :: R8) := news_sub N (fun p hp => .tail _ (.tail _ (.tail _ hp)))
  have hm21 := names_put0 hm18 (x := nm "turned") (v := .ref x1) (by walk_at "APART")
  clear hm19
  -- taken
  refine law_cut 22 1 (G22 (s := ⟨h21, ge18, d18, k21, os18⟩) (R := (P, tabO ps18) :: R8) B F hm21 X N T hcs hdp hu (HH8.up upP) (upP _ hc8) hh hlH ?_)
  clear F N
  intro x2 dx2 c2 q3 q4 vs2 n2 h22 k22 F N hi2
  have hm22 := names_put (m := (fun y => if y = nm "turned" then some (.ref x1) else m18 y)) hm21 (x := nm "taken") (v := .ref x2) (by walk_at "APART")
  let V8 : List (Addr × Obj) := (x2, instObj 350 dx2) :: (dx2, dictOf (polyD w r c2 q3 q4) 2) :: (c2, W.listOf vs2.toArray n2) :: R8
  have upV : ∀ p ∈ R8, p ∈ V8 := fun p hp => .tail _ (.tail _ (.tail _ hp))
  have upVP : ∀ p ∈ V8, p ∈ (P, tabO ps18) :: V8 := fun p hp => .tail _ hp
  have HV8 : Has w V8 350 x2 dx2 c2 r dr zl zvs nz q3 q4 u1 u2 u3 u4 u5 u6 u7 := ⟨.head _, .tail _ (.head _), upV _ HH8.r, upV _ HH8.dr, upV _ HH8.z⟩
  have hcV : (c2, W.listOf vs2.toArray n2) ∈ V8 := .tail _ (.tail _ (.head _))
  have N : News h₀ L h22 ((P, tabO ps18) :: V8) := news_sub N (by kcf_all)
  have hPV : ∀ p ∈ V8, p.1 ≠ P := by
    refine List.forall_mem_cons.mpr ⟨?_, List.forall_mem_cons.mpr ⟨?_, List.forall_mem_cons.mpr ⟨?_, hP8⟩⟩⟩
    · exact off_tab (R := [(x2, instObj 350 dx2)]) (news_sub N (by kcf_all)) (List.forall_mem_cons.mpr ⟨by dsimp only; exact nofun, List.forall_mem_nil _⟩) _ (.head _)
    · exact off_tab (R := [(dx2, dictOf (polyD w r c2 q3 q4) 2)]) (news_sub N (by kcf_all)) (List.forall_mem_cons.mpr ⟨by dsimp only; exact nofun, List.forall_mem_nil _⟩) _ (.head _)
    · exact off_tab (R := [(c2, W.listOf vs2.toArray n2)]) (news_sub N (by kcf_all)) (List.forall_mem_cons.mpr ⟨by dsimp only; exact nofun, List.forall_mem_nil _⟩) _ (.head _)
  have hlS : ((toNtt as).set (Int.toNat 0) (((toNtt as).getD (Int.toNat 0) 0 - c).fmod 3329)).length = 256 := by rw [List.length_set]; exact hlH
  have hlSn : ∀ f : Int → Int, (((toNtt as).set (Int.toNat 0) (((toNtt as).getD (Int.toNat 0) 0 - c).fmod 3329)).map f).length = 256 := fun f => by rw [List.length_map]; exact hlS
  refine law_cut 23 1 (G23 (s := ⟨h22, ge18, d18, k22, os18⟩) (R := (P, tabO ps18) :: V8) B F hm22 X N T hcs hdp hu XB TB (HV8.up upVP) (upVP _ hcV) hi2 (hlSn _) ?_)
  clear F N
  intro h23 k23 F N
  refine law_cut 24 1 (G24 (s := ⟨h23, ge18, d18, k23, os18⟩) (R := V8) B F hm22 X N T hcs hdp hu HV8 hcV hi2 (hlSn _) hzi (upV _ (up8 _ hln)) hni ⟨hg⟩ ⟨hCA⟩ ⟨htr⟩ ⟨hPV⟩ (pl_under as _ c hlen (lenz _) gN) (from_bd _ (hlSn _)) ?_)
  clear F N htr hg upP upVP
  intro ps24 s24 F N htr hg hos24
  obtain ⟨g24, ge24, d24, k24, os24⟩ := s24
  dsimp only at F N hg hos24
  have N : News h₀ L g24 ((P, tabO ps24) :: R8) := news_sub N (by kcf_all)
  have hm24 := names_put0 (m := (fun y => if y = nm "turned" then some (.ref x1) else m18 y)) hm21 (x := nm "taken") (v := .ref x2) (by walk_at "APART")
  clear hm22
  -- scaled
  have upP : ∀ p ∈ R8, p ∈ (P, tabO ps24) :: R8 := fun p hp => .tail _ hp
  refine law_cut 25 1 (G25 (s := ⟨g24, ge24, d24, k24, os24⟩) (R := (P, tabO ps24) :: R8) B F hm24 X N T hcs hdp hu (HH8.up upP) (upP _ hc8) hh hlH ?_)
  clear F N
  intro x3 dx3 c3 q5 q6 vs3 n3 h25 k25 F N hi3 ne1 ne2 ne3
  have hm25 := names_put (m := (fun y => if y = nm "taken" then some (.ref x2) else (fun y => if y = nm "turned" then some (.ref x1) else m18 y) y)) hm24 (x := nm "scaled") (v := .ref x3) (by walk_at "APART")
  let W8 : List (Addr × Obj) := (x3, instObj 426 dx3) :: (dx3, dictOf (polyD w r c3 q5 q6) 2) :: (P, tabO ps24) :: R8
  have upW : ∀ p ∈ R8, p ∈ W8 := fun p hp => .tail _ (.tail _ (.tail _ hp))
  have HW8 : Has w W8 426 x3 dx3 c3 r dr zl zvs nz q5 q6 u1 u2 u3 u4 u5 u6 u7 := ⟨.head _, .tail _ (.head _), upW _ HH8.r, upW _ HH8.dr, upW _ HH8.z⟩
  have N : News h₀ L h25 ((c3, W.listOf vs3.toArray n3) :: W8) := news_sub N (by kcf_all)
  refine law_cut 26 1 (G26 (s := ⟨h25, ge24, d24, k25, os24⟩) (R := W8) B F hm25 X N T hcs hdp hu HW8 hi3 (hlHn _) (List.forall_mem_cons.mpr ⟨Ne.symm ne3, List.forall_mem_cons.mpr ⟨Ne.symm ne2, ne1⟩⟩) hzi (upW _ (up8 _ hlm)) hm (pl_neg _ neg1_dvd as hlen) ?_)
  clear F N
  intro h26 k26 F N
  have N : News h₀ L h26 ((P, tabO ps24) :: R8) := news_sub N (fun p hp => .tail _ (.tail _ hp))
  have hm26 := names_put0 (m := (fun y => if y = nm "taken" then some (.ref x2) else (fun y => if y = nm "turned" then some (.ref x1) else m18 y) y)) hm24 (x := nm "scaled") (v := .ref x3) (by walk_at "APART")
  clear hm25
  -- one
  refine law_cut 27 1 (G27 (s := ⟨h26, ge24, d24, k26, os24⟩) (R := (P, tabO ps24) :: R8) B F hm26 X N T hcs hdp hu (HH8.up upP) (upP _ hc8) hh hlH ?_)
  clear F N
  intro x4 dx4 c4 q7 q8 vs4 n4 h27 k27 F N hi4
  have hm27 := names_put (m := (fun y => if y = nm "scaled" then some (.ref x3) else (fun y => if y = nm "taken" then some (.ref x2) else (fun y => if y = nm "turned" then some (.ref x1) else m18 y) y) y)) hm26 (x := nm "one") (v := .ref x4) (by walk_at "APART")
  let O8 : List (Addr × Obj) := (x4, instObj 350 dx4) :: (dx4, dictOf (polyD w r c4 q7 q8) 2) :: (c4, W.listOf vs4.toArray n4) :: (P, tabO ps24) :: R8
  have upO : ∀ p ∈ R8, p ∈ O8 := fun p hp => .tail _ (.tail _ (.tail _ (.tail _ hp)))
  have HO8 : Has w O8 350 x4 dx4 c4 r dr zl zvs nz q7 q8 u1 u2 u3 u4 u5 u6 u7 := ⟨.head _, .tail _ (.head _), upO _ HH8.r, upO _ HH8.dr, upO _ HH8.z⟩
  refine law_cut 28 1 (G28 (s := ⟨h27, ge24, d24, k27, os24⟩) (R := O8) B F hm27 X N T hcs hdp hu HO8 (.tail _ (.tail _ (.head _))) hi4 ?_)
  clear F N
  intro h28 k28 F N
  have hm28 := names_put0 (m := (fun y => if y = nm "scaled" then some (.ref x3) else (fun y => if y = nm "taken" then some (.ref x2) else (fun y => if y = nm "turned" then some (.ref x1) else m18 y) y) y)) hm26 (x := nm "one") (v := .ref x4) (by walk_at "APART")
  -- the return
  let F8 : List (Addr × Obj) := (xh, instObj 426 dxh) :: (dxh, dictOf (polyD w r cf y1 y2) 2) :: (P, tabO ps24) :: R
  have upF : ∀ p ∈ R, p ∈ F8 := fun p hp => .tail _ (.tail _ (.tail _ hp))
  have HF8 : Has w F8 426 xh dxh cf r dr zl zvs nz y1 y2 u1 u2 u3 u4 u5 u6 u7 := ⟨.head _, .tail _ (.head _), upF _ HS.r, upF _ HS.dr, upF _ HS.z⟩
  have N : News h₀ L h28 ((cf, W.listOf hvs.toArray nf) :: F8) := news_sub N (by kcf_all)
  refine law_cut 29 1 (G29 (s := ⟨h28, ge24, d24, k28, os24⟩) (R := F8) B F hm28 X N T hcs hdp hu HF8 (upF _ hla) ha hlen hh hlH (List.forall_mem_cons.mpr ⟨Ne.symm (Nat.ne_of_lt (Nat.lt_trans lt2 lt3)), List.forall_mem_cons.mpr ⟨Ne.symm (Nat.ne_of_lt lt2), List.forall_mem_cons.mpr ⟨hPc, hcl⟩⟩⟩) hzi (pl_back as hlen) ?_)
  clear F N
  intro h29 k29 F N
  exact hQ _ ps24 R _ F (news_sub N (by kcf_all)) htr hg (hos24.trans hos)
end
end Mine
end
section -- TP
open PySem PySem.W PyProof.Rows PySem.Calls
namespace Mine
theorem hid_get {h : Heap} {P b : Addr} {o : Obj} {ps : Array Value} (hP : h.get? P = some (tabO ps)) (e : h.get? b = some o) (ne : o ≠ tabO ps) : (hideAll h [P]).get? b = some o := by
  refine hideAll_get [P] e fun q => ?_
  rw [List.mem_singleton.mp q, hP] at e
  exact ne (Option.some.inj e).symm
theorem hid_ns {h : Heap} {P b : Addr} {m : Str → Option Value} {ps : Array Value} (hP : h.get? P = some (tabO ps)) (x : h.Ns b m) : (hideAll h [P]).Ns b m := by
  obtain ⟨o, es, ep, e, hd, r⟩ := x
  exact ⟨o, es, ep, hid_get hP e (fun q => by rw [q] at hd; cases hd), hd, r⟩
theorem hid_mod {h : Heap} {P b : Addr} {o : Obj} {ps : Array Value} {c : String} (hP : h.get? P = some (tabO ps)) (e : h.get? b = some o) (hc : o.cls = .type c) : (hideAll h [P]).get? b = some o :=
  hid_get hP e fun q => by rw [q] at hc; cases hc
def p0 : Program := { main := { (default : Module) with body := [] }, modules := [], parses := [], absent := [] }
theorem hid_seer {h : Heap} {P : Addr} {ps : Array Value} (hP : h.get? P = some (tabO ps)) (x : h.NoSeer) : (hideAll h [P]).NoSeer where
  statics := let ⟨mc, a, b⟩ := x.statics; ⟨mc, hid_ns hP a, b⟩
  mods := let ⟨mc, a, b⟩ := x.mods; ⟨mc, hid_ns hP a, b⟩
  imp := let ⟨mc, a, b⟩ := x.imp; ⟨mc, hid_ns hP a, b⟩
  main := let ⟨mg, bm, ob, a, b, c, d, e⟩ := x.main; ⟨mg, bm, ob, hid_ns hP a, b, hid_mod hP c d, d, e⟩
theorem hid_top {h : Heap} {P : Addr} {ps : Array Value} {p : Program} {loose : List Str} {mean : ExcName → Option Value} {mg mb : Str → Option Value} (hP : h.get? P = some (tabO ps)) (T : Top p loose mean mg mb h) (hs : importsNone p = true) :
    Top p0 (loose ++ (recsOf p).map (·.name) ++ (litsOf p).map (·.1) ++ (clssOf p loose).map (·.name)) mean mg mb (hideAll h [P]) where
  g := hid_ns hP T.g
  b := hid_ns hP T.b
  nolimit := let ⟨mc, a, b⟩ := T.nolimit; ⟨mc, hid_ns hP a, b⟩
  nodigits := let ⟨mc, a, b⟩ := T.nodigits; ⟨mc, hid_ns hP a, b⟩
  fn := fun d hd => absurd hd (by have e : recsOf p0 = [] := rfl; rw [e]; exact List.not_mem_nil)
  own := fun o ho => absurd ho (by have e : ownsOf p0 = [] := rfl; rw [e]; exact List.not_mem_nil)
  const := fun x d e => by have e2 : valOf p0 x = none := rfl; rw [e2] at e; cases e
  free := fun x h1 h2 _ _ _ => by
    simp only [List.mem_append, not_or] at h2
    exact T.free x h1 h2.1.1.1 h2.1.1.2 h2.1.2 h2.2
  builtins := T.builtins
  tab := fun d hd => absurd hd (by have e : recsOf p0 = [] := rfl; rw [e]; exact List.not_mem_nil)
  bmain := let ⟨bm, ob, h1, h2, h3, h4, r⟩ := T.bmain; ⟨bm, ob, h1, h2, hid_mod hP h3 h4, h4, r⟩
  seer := fun _ => hid_seer hP (T.seer hs)
theorem thick_code {w : World} {h₀ : Heap} (X : (hd.heap_1 w.params).In h₀) : CodeHere h₀ 446 444 := by
  intro h ps k hP ht
  have h446 := k _ _ (X 446 _ (by with_unfolding_all rfl))
  exact ⟨⟨_, _, _, _, _, _, _, _, _, _, h446, rfl, rfl, rfl, rfl, rfl, rfl, hP, rfl, ht, by decide⟩, ⟨⟨_, _, h446, rfl, rfl, rfl⟩, hP⟩⟩
theorem in_hid {w : World} {h : Heap} (X : (hd.heap_1 w.params).In h) : (hd.heap_1 w.params).In (hideAll h [444]) := by
  intro a o e
  refine hideAll_get [444] (X a o e) fun q => ?_
  rw [List.mem_singleton.mp q] at e
  have e2 : (hd.heap_1 w.params).lookup 444 = none := by with_unfolding_all rfl
  rw [e2] at e
  cases e
theorem tab444 {w : World} {h : Heap} {loose : List Str} {mean : ExcName → Option Value} {mg mb : Str → Option Value} (X : (hd.heap_1 w.params).In h) (T : Top vw loose mean mg mb h) : h.get? 444 = some (tabO #[]) := by
  have hmem : ∃ d ∈ recsOf vw, d.name = nm "_law_thick" := by
    refine List.any_eq_true.mp ?_ |>.imp fun d hd => ⟨hd.1, eq_of_beq hd.2⟩
    decide +kernel
  obtain ⟨d, hd1, hd2⟩ := hmem
  obtain ⟨a, o, fd, c, P, h1, h2, h3, h4, h5, h6⟩ := T.tab d hd1
  rw [hd2] at h1
  have e1 : mg (nm "_law_thick") = some (.ref 447) := mg_of X T.g (by with_unfolding_all rfl)
  rw [e1] at h1
  cases h1
  have h447 := X 447 _ (by with_unfolding_all rfl)
  rw [h447] at h2
  cases h2
  cases h3
  cases h4
  obtain ⟨⟨o6, vs6, g1, g2, g3, g4⟩, g5⟩ := h6
  have h446 := X 446 _ (by with_unfolding_all rfl)
  rw [h446] at g1
  cases g1
  cases g3
  cases g4
  exact g5
end Mine
end
section -- M2
open PySem PySem.W PyProof.Rows
namespace Mine
theorem off_tab1 {h₀ h : Heap} {L P a : Addr} {o : Obj} {ps : Array Value} {R : List (Addr × Obj)} (N : News h₀ L h R) (h1 : (P, tabO ps) ∈ R) (h2 : (a, o) ∈ R) (k : o ≠ tabO ps) : a ≠ P := by
  intro e
  have g1 := (N _ h1).1
  have g2 := (N _ h2).1
  dsimp only at g1 g2
  rw [e, g1] at g2
  exact k (Option.some.inj g2).symm
theorem ne_tab {o : Obj} {ps : Array Value} (k : o.cls ≠ .none) : o ≠ tabO ps := fun e => k (by rw [e])
local macro_rules | `(tactic| walk_at "APART") => `(tactic| (repeat (first | exact List.forall_mem_nil _ | refine List.forall_mem_cons.mpr ⟨by dsimp only; decide, ?_⟩)))
@[irreducible] def mnZ (ns : List Int) : Int := if 256 < (drw ns 1).fmod 300 then 256 else (drw ns 1).fmod 300
theorem mnZ_def (ns : List Int) : (if 256 < (drw ns 1).fmod 300 then 256 else (drw ns 1).fmod 300) = mnZ ns := by delta mnZ; rfl
theorem mnZ_bd (ns : List Int) : 0 ≤ mnZ ns ∧ mnZ ns ≤ 256 := by
  rw [← mnZ_def]
  have e : (drw ns 1).fmod 300 = (drw ns 1) % 300 := Int.fmod_eq_emod_of_nonneg _ (by decide)
  rw [e]
  split <;> omega
theorem a_len (ns : List Int) : ((rangeKs 0 (mnZ ns).toNat).map (fun i => drw ns (2 + i)) ++ List.replicate (256 - mnZ ns).toNat 0).length = 256 := by
  have := mnZ_bd ns
  rw [List.length_append, List.length_map, rangeKs_length, List.length_replicate]
  omega
section
variable {w : World} {p : Program} {loose : List Str} {mean : ExcName → Option Value} {mg mb : Str → Option Value} {dp un : Nat} {gd : Option (List Code)} {cn : Str} {cs : Scope} {fa : Addr} {ccd : Value} {cl : List (Str × Addr)} {A₀ : Around} {base h₀ : Heap} {L : Addr} {s : Shared} {Q : Flow → Shared → Prop} {E : Value → Shared → Prop}
  {m : Str → Option Value} {c0 l0 P : Addr} {o0 : Obj} {vals : List Value} {ns : List Int} {ps : Array Value}
theorem law_all (B : Below A₀ base [] h₀) (XB : Hide ((hd.heap_1 w.params).In base)) (TB : Hide (Top p loose mean mg mb base)) (F : Fr h₀ L s.heap m)
    (X : (hd.heap_1 w.params).In h₀) (N : News h₀ L s.heap [(c0, o0), (P, tabO ps)]) (T : Top p loose mean mg mb h₀) (hcs : cs = lawS w) (hdp : dp + 20 < 1000) (hu : un + 200 < 9900)
    (hcc : cl.lookup (nm "script") = some c0) (ho0 : o0.data = .cell (some (.ref l0))) (hl0 : h₀.IsList l0 vals.toArray) (hns : IntsAre vals ns) (hnl : ns.length ≤ 63)
    (hg : AllBare s.gens) (hCA : CodeHere h₀ 446 P) (htr : TriplesOk ps.toList)
    (hE : PassesOwn (model PySem.Challenge.rw_yi0009_01.row.prog w) (ktrTop dp un gd cn cs L fa ccd cl []) (envX cn cs L fa ccd cl) E)
    (hQ : ∀ m' ps' R' s', Fr h₀ L s'.heap m' → News h₀ L s'.heap ((P, tabO ps') :: R') → TriplesOk ps'.toList → AllBare s'.gens → s'.os = s.os → Q (.ret (.bool true)) s') :
    wpAny (model PySem.Challenge.rw_yi0009_01.row.prog w) (ktrTop dp un gd cn cs L fa ccd cl []) (execs (List.drop 0 (lawB w)) (envX cn cs L fa ccd cl)) Q E s := by
  have hoc : o0 ≠ tabO ps := fun e => by rw [e] at ho0; cases ho0
  have hm0 : ∀ p ∈ ([] : List (Str × Value)), m p.1 = some p.2 := List.forall_mem_nil _
  -- ring
  refine law_cut 0 1 (G0 (s := s) B F hm0 X N T hcs hdp hu ?_)
  clear F N
  intro r dr zl zvs nz u1 u2 u3 u4 u5 u6 u7 h0 k0 F N hzi
  have hm1 := names_put (m := m) hm0 (x := nm "ring") (v := .ref r) (by walk_at "APART")
  let R0 : List (Addr × Obj) := (r, instObj 282 dr) :: (dr, dictOf (ringD w zl u1 u2 u3 u4 u5 u6 u7) 4) :: (zl, W.listOf zvs.toArray nz) :: [(c0, o0), (P, tabO ps)]
  have hc0 : (c0, o0) ∈ R0 := .tail _ (.tail _ (.tail _ (.head _)))
  -- c
  refine law_cut 1 1 (G1 (s := { s with heap := h0, toks := k0 }) (R := R0) B F (List.forall_mem_nil _) X N T hcs hdp hu hcc hc0 ho0 hl0 hns hnl ?_)
  clear F N
  intro tc h1 k1 F N
  have hm2 := names_put (m := fun y => if y = nm "ring" then some (.ref r) else m y) hm1 (x := nm "c") (v := .int (drw ns 0) tc) (by walk_at "APART")
  clear hm1
  generalize (fun y => if y = nm "c" then some (Value.int (drw ns 0) tc) else (fun y => if y = nm "ring" then some (Value.ref r) else m y) y) = m2 at F hm2
  -- many
  refine law_cut 2 1 (G2 (s := { s with heap := h1, toks := k1 }) (R := R0) B F (List.forall_mem_nil _) X N T hcs hdp hu hcc hc0 ho0 hl0 hns hnl ?_)
  clear F N
  intro tm h2 k2 F N
  have hm3 := names_put (m := m2) hm2 (x := nm "many") (v := .int (mnZ ns) tm) (by walk_at "APART")
  clear hm2
  rw [mnZ_def] at F
  generalize (fun y => if y = nm "many" then some (Value.int (mnZ ns) tm) else m2 y) = m3 at F hm3
  -- a
  refine law_cut 3 1 (G3 (s := { s with heap := h2, toks := k2 }) (R := R0) B F (names_sub hm3 (by kcf_all)) X N T hcs hdp hu hcc hc0 ho0 hl0 hns hnl (mnZ_bd ns).1 (mnZ_bd ns).2 ?_)
  clear F N
  intro la avs na h3 k3 F N ha lta
  have hm4 := names_put (m := m3) hm3 (x := nm "a") (v := .ref la) (by walk_at "APART")
  clear hm3
  generalize (fun y => if y = nm "a" then some (Value.ref la) else m3 y) = m4 at F hm4
  have hlen := a_len ns
  generalize (rangeKs 0 (mnZ ns).toNat).map (fun i => drw ns (2 + i)) ++ List.replicate (256 - mnZ ns).toNat 0 = as at ha hlen
  let R3 : List (Addr × Obj) := (la, W.listOf avs.toArray na) :: R0
  -- minus
  refine law_cut 4 1 (G4 (s := { s with heap := h3, toks := k3 }) (R := R3) B F (names_sub hm4 (by kcf_all)) X N T hcs hdp hu (.head _) ha hlen ?_)
  clear F N
  intro lm mvs nmm h4 k4 F N hmi
  have hm5 := names_put (m := m4) hm4 (x := nm "minus") (v := .ref lm) (by walk_at "APART")
  clear hm4
  generalize (fun y => if y = nm "minus" then some (Value.ref lm) else m4 y) = m5 at F hm5
  let R4 : List (Addr × Obj) := (lm, W.listOf mvs.toArray nmm) :: R3
  -- first
  refine law_cut 5 1 (G5 (s := { s with heap := h4, toks := k4 }) (R := R4) B F (List.forall_mem_nil _) X N T hcs hdp hu ?_)
  clear F N
  intro lf nf h5 k5 F N ltf
  have hm6 := names_put (m := m5) hm5 (x := nm "first") (v := .ref lf) (by walk_at "APART")
  clear hm5
  generalize (fun y => if y = nm "first" then some (Value.ref lf) else m5 y) = m6 at F hm6
  refine law_cut 6 1 (G6 (s := { s with heap := h5, toks := k5 }) (R := R4) B F (names_sub hm6 (by kcf_all)) X N T hcs hdp hu (fun p hp => Nat.ne_of_lt (ltf p hp)) hE ?_)
  clear F N hm6
  intro m7 fvs nf' h6 k6 F hm7 N hfi
  let R6 : List (Addr × Obj) := (lf, W.listOf fvs.toArray nf') :: R4
  have hfl : (fsL (drw ns 0) 128).length = 256 := len_fsL _ _
  have hla6 : (la, W.listOf avs.toArray na) ∈ R6 := .tail _ (.tail _ (.head _))
  have hlf6 : (lf, W.listOf fvs.toArray nf') ∈ R6 := .head _
  -- up, down, under
  refine law_cut 7 1 (G7 (s := { s with heap := h6, toks := k6 }) (R := R6) B F (names_sub hm7 (by kcf_all)) X N T hcs hdp hu hla6 ha hlen hlf6 hfi hfl ?_)
  clear F N
  intro lu uvs nu h7 k7 F N hui
  have hm8 := names_put (m := m7) hm7 (x := nm "up") (v := .ref lu) (by walk_at "APART")
  clear hm7
  generalize (fun y => if y = nm "up" then some (Value.ref lu) else m7 y) = m8 at F hm8
  refine law_cut 8 1 (G8 (s := { s with heap := h7, toks := k7 }) (R := (lu, W.listOf uvs.toArray nu) :: R6) B F (names_sub hm8 (by kcf_all)) X N T hcs hdp hu (.tail _ hla6) ha hlen (.tail _ hlf6) hfi hfl ?_)
  clear F N
  intro ld dvs nd h8 k8 F N hdi
  have hm9 := names_put (m := m8) hm8 (x := nm "down") (v := .ref ld) (by walk_at "APART")
  clear hm8
  generalize (fun y => if y = nm "down" then some (Value.ref ld) else m8 y) = m9 at F hm9
  refine law_cut 9 1 (G9 (s := { s with heap := h8, toks := k8 }) (R := (ld, W.listOf dvs.toArray nd) :: (lu, W.listOf uvs.toArray nu) :: R6) B F (names_sub hm9 (by kcf_all)) X N T hcs hdp hu (.tail _ (.tail _ hla6)) ha hlen (.tail _ (.tail _ hlf6)) hfi hfl ?_)
  clear F N
  intro ln nvs nn h9 k9 F N hni
  have hm10 := names_put (m := m9) hm9 (x := nm "under") (v := .ref ln) (by walk_at "APART")
  clear hm9
  generalize (fun y => if y = nm "under" then some (Value.ref ln) else m9 y) = m10 at F hm10
  let R9 : List (Addr × Obj) := (ln, W.listOf nvs.toArray nn) :: (ld, W.listOf dvs.toArray nd) :: (lu, W.listOf uvs.toArray nu) :: R6
  have hla9 : (la, W.listOf avs.toArray na) ∈ R9 := .tail _ (.tail _ (.tail _ hla6))
  have up9 : ∀ p ∈ R0, p ∈ R9 := fun p hp => .tail _ (.tail _ (.tail _ (.tail _ (.tail _ (.tail _ hp)))))
  -- f
  refine law_cut 10 1 (G10 (s := { s with heap := h9, toks := k9 }) (R := R9) B F (names_sub hm10 (by kcf_all)) X N T hcs hdp hu hla9 ha hlen (up9 _ (.head _)) (up9 _ (.tail _ (.head _))) ?_)
  clear F N
  intro xf dxf cf fvs9 nf9 q1 q2 h10 k10 F N hff lt1 lt2 lt3
  have hm11 := names_put (m := m10) hm10 (x := nm "f") (v := .ref xf) (by walk_at "APART")
  clear hm10
  generalize (fun y => if y = nm "f" then some (Value.ref xf) else m10 y) = m11 at F hm11
  let R10 : List (Addr × Obj) := (xf, instObj 350 dxf) :: (dxf, dictOf (polyD w r cf q1 q2) 2) :: (cf, W.listOf fvs9.toArray nf9) :: R9
  have up10 : ∀ p ∈ R9, p ∈ R10 := fun p hp => .tail _ (.tail _ (.tail _ hp))
  -- rest
  refine law_cut 11 1 (G11 (s := { s with heap := h10, toks := k10 }) (R := R10) B F (names_sub hm11 (by kcf_all)) X N T hcs hdp hu (up10 _ hla9) ha hlen ?_)
  clear F N
  intro lr rvs nr h11 k11 F N hri ltr
  have hm12 := names_put (m := m11) hm11 (x := nm "rest") (v := .ref lr) (by walk_at "APART")
  clear hm11
  generalize (fun y => if y = nm "rest" then some (Value.ref lr) else m11 y) = m12 at F hm12
  -- the second part
  let R : List (Addr × Obj) := (lr, W.listOf rvs.toArray nr) :: (xf, instObj 350 dxf) :: (dxf, dictOf (polyD w r cf q1 q2) 2) :: (ln, W.listOf nvs.toArray nn) :: (ld, W.listOf dvs.toArray nd) :: (lu, W.listOf uvs.toArray nu) :: (lm, W.listOf mvs.toArray nmm) :: (la, W.listOf avs.toArray na) :: (r, instObj 282 dr) :: (dr, dictOf (ringD w zl u1 u2 u3 u4 u5 u6 u7) 4) :: (zl, W.listOf zvs.toArray nz) :: []
  have hP11 : (P, tabO ps) ∈ (lr, W.listOf rvs.toArray nr) :: R10 := .tail _ (up10 _ (up9 _ (.tail _ (.tail _ (.tail _ (.tail _ (.head _)))))))
  have lt9 : ∀ p ∈ R9, p.1 ≠ cf := fun p hp => Nat.ne_of_lt (lt1 p hp)
  have ltc : cf < lr := ltr _ (.tail _ (.tail _ (.head _)))
  have hR9 : ∀ p ∈ R, p ∈ (lr, W.listOf rvs.toArray nr) :: R10 := by kcf_all
  have hPR : ∀ p ∈ R, p.1 ≠ P := fun p hp => off_tab1 N hP11 (hR9 p hp) (by
    revert p
    repeat (first | exact List.forall_mem_nil _ | refine List.forall_mem_cons.mpr ⟨ne_tab (by dsimp only; exact nofun), ?_⟩))
  have hcl : ∀ p ∈ R, p.1 ≠ cf := by
    refine List.forall_mem_cons.mpr ⟨Ne.symm (Nat.ne_of_lt ltc), List.forall_mem_cons.mpr ⟨Ne.symm (Nat.ne_of_lt (Nat.lt_trans lt2 lt3)), List.forall_mem_cons.mpr ⟨Ne.symm (Nat.ne_of_lt lt2), fun p hp => lt9 p ?_⟩⟩⟩
    revert p
    show ∀ p ∈ _, p ∈ R9
    kcf_all
  refine lawB12 (s := { s with heap := h11, toks := k11 }) (R := R) (P := P) (cf := cf) (c := drw ns 0) (na := na) (nm' := nmm) (nu := nu) (nd := nd) (nn := nn) (nz := nz) (dr := dr) (zl := zl) (u1 := u1) (u2 := u2) (u3 := u3) (u4 := u4) (u5 := u5) (u6 := u6) (u7 := u7) B XB TB F (names_sub hm12 (by kcf_all)) X (news_sub N (by kcf_all)) T hcs hdp hu ⟨.tail _ (.head _), .tail _ (.tail _ (.head _)), ?_, ?_, ?_⟩ hzi ?_ ha hlen hff (.head _) hri ?_ hmi ?_ hui ?_ hdi ?_ hni hcl (lt9 _ (up9 _ (.tail _ (.tail _ (.tail _ (.tail _ (.head _))))))) hPR hg hCA htr hE hQ
  all_goals kcf_m
end
end Mine
end
section -- M3
open PySem PySem.W PyProof.Rows
namespace Mine
theorem hid_old {h h' : Heap} {P : Addr} {ps : Array Value} (hP : h.get? P = some (tabO #[])) (ht : isCodeTable h P) (k : ∀ b o, (hideAll h [P]).get? b = some o → h'.get? b = some o) (hP' : h'.get? P = some (tabO ps)) : OldK h h' := by
  have key : ∀ b o, h.get? b = some o → b ≠ P → h'.get? b = some o := fun b o e hb => k b o (hideAll_get [P] e (by simpa using hb))
  refine ⟨fun b o e => ?_, fun b o e => ?_⟩
  · by_cases hb : b = P
    · subst hb
      rw [hP] at e
      cases e
      exact .inr (.inl ⟨ht, rfl, #[], ps, rfl, by rw [hP']; simp⟩)
    · exact .inl (key b o e hb)
  · by_cases hb : b = P
    · exact ⟨_, hb ▸ hP'⟩
    · exact ⟨o, key b o e hb⟩
theorem hid_fr {h h' : Heap} {L P : Addr} {m : Str → Option Value} (F : Fr h L h' m) : Fr (hideAll h [P]) L h' m :=
  ⟨F.ns, fun b o e => F.keep b o (of_hideAll [P] e), by rw [hideAll_size]; exact F.above⟩
theorem hid_news {h h' : Heap} {L P : Addr} {m : Str → Option Value} {ps : Array Value} {news : List (Addr × Obj)} (hP : h.get? P = some (tabO ps)) (F : Fr h L h' m) (N : News h L h' news) : News (hideAll h [P]) L h' (news ++ [(P, tabO ps)]) := by
  intro q hq
  rcases List.mem_append.mp hq with hq | hq
  · refine ⟨(N q hq).1, (N q hq).2.1, ?_⟩
    cases e : (hideAll h [P]).get? q.1 with
    | none => rfl
    | some o =>
      have e2 := of_hideAll [P] e
      rw [(N q hq).2.2] at e2
      cases e2
  · rw [List.mem_singleton.mp hq]
    exact ⟨F.keep _ _ hP, Nat.ne_of_lt (Nat.lt_of_lt_of_le (Heap.lt_size hP) F.above), hideAll_none [P] (.head _)⟩
theorem hid_list {h : Heap} {l P : Addr} {vs ps : Array Value} (hP : h.get? P = some (tabO ps)) (x : h.IsList l vs) : (hideAll h [P]).IsList l vs := by
  obtain ⟨o, e, hc, r⟩ := x
  exact ⟨o, hid_mod hP e hc, hc, r⟩
theorem tab_is {w : World} {h : Heap} (X : (hd.heap_1 w.params).In h) : isCodeTable h 444 := ⟨446, _, _, X 446 _ (by with_unfolding_all rfl), rfl, rfl, rfl⟩
theorem imp_none : importsNone vw = true := by decide +kernel
end Mine
open Mine
theorem PySem.Challenge.cw_yi0009_01_holds : PySem.Challenge.rw_yi0009_01.Holds :=
  hd (by
  lgec_go0
  with_reducible rename Top _ _ _ _ _ _ => lT
  with_reducible rename Frag.In _ _ => lX
  with_reducible rename Fr _ _ _ _ => lF
  with_reducible rename News _ _ _ _ => lN
  with_reducible rename IntsAre _ _ => lI
  with_reducible rename Heap.IsList _ _ _ => lL
  with_reducible rename Obj.data _ = Data.cell _ => lC
  with_reducible rename _ = #[] => lg
  have hP := tab444 lX lT
  have hn : ∀ a b : Nat, ¬ a < b → b ≤ a := fun a b h => Nat.le_of_not_lt h
  refine law_all (cl := cellsFrom _ _ []) (below_caller _) ⟨in_hid lX⟩ ⟨hid_top hP lT imp_none⟩ (hid_fr lF) (in_hid lX) (hid_news hP lF lN) (hid_top hP lT imp_none) ?c1 ?c2 ?c3 ?c4 (lC.trans ?c5) (hid_list hP lL) lI ?c6 (AllBare.of_eq lg) (thick_code (in_hid lX)) ?c7 ?c8 ?c9
  case c1 => with_unfolding_all rfl
  case c2 => decide
  case c3 => decide
  case c4 => with_unfolding_all rfl
  case c5 => with_unfolding_all rfl
  case c6 => omega
  case c7 => trivial
  case c8 => passes_own
  case c9 =>
    intro m' ps' R' s' F' N' htr' hg' hos'
    refine ⟨.inl ⟨_, .bool true, [], rfl, fun _ => rfl, .bool true, postW_of (X := true) (by with_unfolding_all rfl) (by with_unfolding_all first | rfl | decide) rfl, fun _ => ⟨.nil, nofun⟩⟩, hid_old hP (tab_is lX) F'.keep (N' _ (.head _)).1, hos', hg'⟩)
end
