import PyProof.Rows.All
import Wide.All
import OpenK.AllK
import Wide.FinOn
import PySem.Challenge.RW_yi0060_01
set_option Elab.async false
set_option compiler.extract_closed false
section
section
open PySem PySem.W PyProof.Rows
local macro_rules | `(tactic| o_head $_) => `(tactic| assumption)
namespace Mine
theorem pre (h : PySem.Challenge.rw_yi0060_01.row.Holds) : PySem.Challenge.rw_yi0060_01.row.Holds := by k_head
end Mine
end
namespace Mine
/-- the program with its top cut to the statements that the walk keeps -/
noncomputable def vw : PySem.Program := { PySem.Challenge.rw_yi0060_01.row.prog with main := { PySem.Challenge.rw_yi0060_01.row.prog.main with body := [0, 2, 3, 5, 6, 7, 9, 10, 11, 12, 13].filterMap fun i => PySem.Challenge.rw_yi0060_01.row.prog.main.body[i]? } }
end Mine
end
open PySem PySem.W PyProof.Rows
local macro_rules | `(tactic| k_in) => `(tactic| first | with_reducible assumption | exact Frag.In.keeps (by with_reducible assumption) (Fr.keep (by with_reducible assumption)))
local macro_rules | `(tactic| walk_at "getMethod ref") => `(tactic| (k_here; (with_reducible show wpAny _ _ (getMethod (Value.ref _) (Str.ofString "parent") _) _ _ _); k_dflt (refine' kmu_own ?k1 ?k2 ?k3 ?k4 ?k5 ?_; (case k1 => k_asm); (case k2 => k_asm); (case k3 => k_inst); (case k4 => k_is); (case k5 => k_is); k_whole)))
local macro_rules | `(tactic| walk_at "getMethod ref") => `(tactic| (k_here; (with_reducible show wpAny _ _ (getMethod (Value.ref _) (Str.ofString "_ntt_base_multiplication") _) _ _ _); k_dflt (refine' kmu_sm ?k1 ?k2 ?k4 ?k5 ?k6 ?k7 ?k8 ?k9 ?k10 ?k11 ?k12 ?k13 ?k14 ?_; (case k1 => k_asm); (case k2 => k_asm); (case k4 => k_inst); (case k5 => k_is); (case k6 => k_is); (case k7 => k_is); (case k8 => k_is); (case k9 => k_is); (case k10 => k_is); (case k11 => decide +kernel); (case k12 => k_get); (case k13 => k_is); (case k14 => k_handed); k_whole)))
local macro_rules | `(tactic| walk_at "getMethod ref") => `(tactic| (k_here; (with_reducible show wpAny _ _ (getMethod (Value.ref _) (Str.ofString "_br") _) _ _ _); k_dflt (refine' kmu_sm ?k1 ?k2 ?k4 ?k5 ?k6 ?k7 ?k8 ?k9 ?k10 ?k11 ?k12 ?k13 ?k14 ?_; (case k1 => k_asm); (case k2 => k_asm); (case k4 => k_inst); (case k5 => k_is); (case k6 => k_is); (case k7 => k_is); (case k8 => k_is); (case k9 => k_is); (case k10 => k_is); (case k11 => decide +kernel); (case k12 => k_get); (case k13 => k_is); (case k14 => k_handed); k_whole)))
section
open PySem PySem.W PyProof.Rows PySem.Calls
namespace Mine
set_option maxRecDepth 100000
theorem kind_pow : builtinKind "pow" = none := by decide +kernel
theorem plain_pow : plainId "pow" = true := by decide +kernel
theorem entry_pow : entryFor table "pow" = some Builtin.«pow» := entryFor_of_tree (by kernel_rfl)
theorem args_pow (a b c : Value) : argsOk "pow" ⟨[a, b, c], []⟩ := by unfold argsOk; kernel_rfl
theorem args_int_pow3 (a b c : Value) : argsOk "int.__pow__" ⟨[a, b, c], []⟩ := by unfold argsOk; kernel_rfl
theorem bind_pow (a b c : Value) : Builtin.Builtins.bindParams "pow" ["base", "exp", "mod"] 2 ⟨[a, b, c], []⟩ = pure [some a, some b, some c] := by
  kernel_rfl
theorem slot_pow : Slot "int" (Str.ofString "__pow__") "int.__pow__" :=
  .of (owner := "int") (n := "__pow__") (by rw [typeLookup_type, builtinLookup_eq_fast]; kernel_rfl) (by decide +kernel) (by decide +kernel) (by decide +kernel)
    (by first | exact .inl (by decide +kernel) | exact .inr (by decide +kernel)) (by rw [isSubtype_type]; kernel_rfl)
section
variable {prog : Program} {w : World} {A : Around} {E : Value → Shared → Prop} {s : Shared} {x y m : Int} {t u v : Tok} {Q : Value → Shared → Prop}
set_option maxHeartbeats 4000000
theorem int_pow3 (hy : 0 ≤ y) (hm : 1 < m) (h : Q (.int ((Builtin.powMod (x % m).toNat y.toNat m.toNat : Nat) : Int) s.toks) { s with toks := s.toks + 1 }) :
    wpAny (model prog w) A (call (.builtin "int.__pow__") [.int x t, .int y u, .int m v]) (fun v s' => v ≠ .notImplemented ∧ Q v s') E s := by
  refine wpAny_call_entry slot_int_pow (typeIs_int s x t) entry_int_pow ?_ (args_int_pow3 _ _ _)
  obtain ⟨hp, g, d, tk, os⟩ := s
  have hm0 : (m == 0) = false := by simp; omega
  have hm1 : (m.natAbs == 1) = false := by simp; omega
  have hy0 : ¬ y < 0 := by omega
  have hm2 : ((m.natAbs : Nat) : Int) = m := by omega
  have hmn : m.natAbs = m.toNat := by omega
  have hyn : y.natAbs = y.toNat := by omega
  have hml : ¬ m < 0 := by omega
  repeat (any_goals (first | assumption | wp_step))
  rw [hm1, if_neg (by decide)]
  dsimp only
  rw [if_neg hy0, decide_eq_false hml, Bool.false_and, if_neg (by decide), hyn, hmn, show ((m.toNat : Nat) : Int) = m by omega]
  repeat (any_goals (first | assumption | wp_step))
  exact ⟨_, rfl, by simp, h⟩
theorem pow3 (hy : 0 ≤ y) (hm : 1 < m) (h : Q (.int ((Builtin.powMod (x % m).toNat y.toNat m.toNat : Nat) : Int) s.toks) { s with toks := s.toks + 1 }) :
    wpAny (model prog w) A (call (.builtin "pow") [.int x t, .int y u, .int m v]) Q E s := by
  refine call_function_entry kind_pow plain_pow entry_pow (args_pow _ _ _) ?_
  obtain ⟨hp, g, d, tk, os⟩ := s
  unfold Builtin.«pow»
  rw [bind_pow]
  have f1 : typeOf (.int x t) = pure (.type "int") := rfl
  have f2 := slot_pow.lookup
  repeat (any_goals (first | assumption | (rw [f2]) | (with_reducible refine wpAny_callSpecial?_slot (T := "int") (typeIs_int _ x t) slot_pow ?_) | (with_reducible refine wpAny_mono (int_pow3 (Q := Q) hy hm h) (fun v s' hv => ?_) fun _ _ e => e) | wp_step))
  obtain ⟨hv1, hv2⟩ := hv
  have e : (v != Value.notImplemented) = true := by
    cases v <;> first | rfl | exact absurd rfl hv1
  repeat (any_goals (first | assumption | (rw [if_pos e]) | wp_step))
  exact ⟨_, rfl, hv2⟩
end
end Mine
end
section
open PySem PySem.W PyProof.Rows PySem.Calls
namespace Mine
set_option maxRecDepth 100000
section
variable {prog : Program} {w : World} {A : Around} {E : Value → Shared → Prop} {s : Shared} {t u v : Tok} {Q : Value → Shared → Prop}
set_option maxHeartbeats 4000000
theorem int_powInv (h : Q (.int 3303 s.toks) { s with toks := s.toks + 1 }) :
    wpAny (model prog w) A (call (.builtin "int.__pow__") [.int 128 t, .int (-1) u, .int 3329 v]) (fun v s' => v ≠ .notImplemented ∧ Q v s') E s := by
  refine wpAny_call_entry slot_int_pow (typeIs_int s 128 t) entry_int_pow ?_ (args_int_pow3 _ _ _)
  obtain ⟨hp, g, d, tk, os⟩ := s
  repeat (any_goals (first | assumption | wp_step))
  refine ⟨_, rfl, by simp, ?_⟩
  refine Eq.mp (congrArg (fun k => Q (Value.int k tk) _) (?_ : (3303 : Int) = _)) h
  decide +kernel
theorem powInv (h : Q (.int 3303 s.toks) { s with toks := s.toks + 1 }) :
    wpAny (model prog w) A (call (.builtin "pow") [.int 128 t, .int (-1) u, .int 3329 v]) Q E s := by
  refine call_function_entry kind_pow plain_pow entry_pow (args_pow _ _ _) ?_
  obtain ⟨hp, g, d, tk, os⟩ := s
  unfold Builtin.«pow»
  rw [bind_pow]
  have f1 : typeOf (.int 128 t) = pure (.type "int") := rfl
  have f2 := slot_pow.lookup
  repeat (any_goals (first | assumption | (rw [f2]) | (with_reducible refine wpAny_callSpecial?_slot (T := "int") (typeIs_int _ 128 t) slot_pow ?_) | (with_reducible refine wpAny_mono (int_powInv (Q := Q) h) (fun v s' hv => ?_) fun _ _ e => e) | wp_step))
  obtain ⟨hv1, hv2⟩ := hv
  have e : (v != Value.notImplemented) = true := by
    cases v <;> first | rfl | exact absurd rfl hv1
  repeat (any_goals (first | assumption | (rw [if_pos e]) | wp_step))
  exact ⟨_, rfl, hv2⟩
end
end Mine
end
section
open PySem PySem.W PyProof.Rows PySem.Calls PySem.NumText
namespace Mine
set_option maxRecDepth 100000
theorem wp_text2 {M : Model} {A : Around} {E : Value → Shared → Prop} {s : Shared} {Q : Value → Shared → Prop} {v : Value} {text : List Nat} {n : Int}
    (hs : (text.takeWhile (· != 0)).length ≤ 640) (hr : (int_private% "readNumeral") 0 2 (text.takeWhile (· != 0)) = (int_private% "Numeral.value") n)
    (ha : ((text.takeWhile (· != 0)).length == text.length) = true) (h : Q (.int n s.toks) { s with toks := s.toks + 1 }) :
    wpAny M A ((int_private% "intFromText") v text 2) Q E s := by
  obtain ⟨hp, g, d, tk, os⟩ := s
  repeat (any_goals (first
    | assumption
    | (with_reducible refine wpAny_ite_true (decide_eq_true hs) ?_)
    | (with_reducible refine wpAny_ite_true (decide_eq_true ha) ?_)
    | wp_step))
  all_goals (try rw [hr])
  all_goals (try dsimp only)
  repeat (any_goals (first
    | assumption
    | (with_reducible refine wpAny_ite_true (decide_eq_true hs) ?_)
    | (with_reducible refine wpAny_ite_true (decide_eq_true ha) ?_)
    | wp_step))
set_option maxHeartbeats 4000000 in
theorem gives_text2 {x : PySem.Str} {u v : Tok} {n : Int} (hs : (numSeenOf x).length ≤ 640) (hr : (int_private% "readNumeral") 0 2 (numSeenOf x) = (int_private% "Numeral.value") n ∧ ((numSeenOf x).length == (numTextOf x).length) = true) : Gives (Builtin.«int.__new__» ⟨[.type "int", .str x u, .int 2 v], []⟩) (.int n) :=
  .of_wp fun M A E s Q h => by
    obtain ⟨hp, g, d, tk, os⟩ := s
    have f1 := F.conv_sub_int
    have f2 := F.madeHere_int
    have f6 : typeOf (.str x u) = pure (.type "str") := rfl
    have f7 : typeOf (.int 2 v) = pure (.type "int") := rfl
    have hk := KIN.Hid.mk (And.intro hs hr)
    clear hs hr
    repeat (any_goals (first
      | assumption
      | ((with_reducible show wpAny _ _ ((int_private% "intFromText") _ _ _) _ _ _); refine wp_text2 hk.out.1 hk.out.2.1 hk.out.2.2 ?_)
      | wp_step))
    all_goals first | exact ⟨_, rfl, h⟩ | skip
theorem typeCall_int_2 (a b : Value) : checkTypeCall "int" ⟨[a, b], []⟩ = pure () := by kernel_rfl
theorem newCall_int_2 (a b : Value) : checkBuiltinCall "int.__new__" ⟨[.type "int", a, b], []⟩ = pure () := by kernel_rfl
theorem args_object_init_3 (obj a b : Value) : argsOk "object.__init__" ⟨[obj, a, b], []⟩ := by unfold argsOk; kernel_rfl
section
variable {prog : Program} {w : World} {A : Around} {E : Value → Shared → Prop} {s : Shared} {Q : Value → Shared → Prop} {x : PySem.Str} {t u : Tok} {n : Int}
theorem int_text2 (hs : (numSeenOf x).length ≤ 640) (hr : (int_private% "readNumeral") 0 2 (numSeenOf x) = (int_private% "Numeral.value") n ∧ ((numSeenOf x).length == (numTextOf x).length) = true)
    (h : Q (.int n s.toks) { s with toks := s.toks + 1 }) : wpAny (model prog w) A (call (.type "int") [.str x t, .int 2 u]) Q E s :=
  callType_new F.called_int F.newNe_int (typeCall_int_2 _ _) (newCall_int_2 _ _) (fun obj => args_object_init_3 obj _ _) F.entry_int_new (gives_text2 (u := t) (v := u) hs hr).meets (show (Made.int n).post _ s from ⟨rfl, h⟩)
end
end Mine
end
section
open PySem PySem.W PyProof.Rows PySem.Calls
namespace Mine
set_option maxRecDepth 100000 in
theorem br_len : ∀ i : Nat, i < 128 → (baseText "0b" 2 (Builtin.bitAnd (i : Int) 127)).length ≤ 9 := by decide +kernel
theorem br_len' {i : Int} (h0 : 0 ≤ i) (h1 : i < 128) : (baseText "0b" 2 (Builtin.bitAnd i (2 ^ Int.toNat 7 - 1))).length ≤ sizeLine := by
  obtain ⟨k, rfl⟩ := Int.eq_ofNat_of_zero_le h0
  exact Nat.le_trans (br_len k (by omega)) (by decide)
noncomputable abbrev brA (i : Int) : Str := baseText "0b" 2 (Builtin.bitAnd i (2 ^ Int.toNat 7 - 1))
noncomputable abbrev brB (i : Int) : Str := Txt.slice (brA i) (some 2) none
noncomputable abbrev brC (i : Int) : Str := Txt.zfill (brB i) 7
noncomputable abbrev brD (i : Int) (u : Tok) : Str := Txt.sliceBy (brC i) none none (-1, u)
/-- the seven bits of i, turned -/
noncomputable def br (i : Int) : Int := (List.range 7).foldl (fun a (j : Nat) => 2 * a + i / 2 ^ j % 2) 0
open PySem.NumText
set_option maxRecDepth 100000 in
theorem brB_len : ∀ i : Nat, i < 128 → (brB (i : Int)).length ≤ sizeLine := by decide +kernel
set_option maxRecDepth 100000 in
theorem brC_len : ∀ i : Nat, i < 128 → (brC (i : Int)).length ≤ sizeLine := by decide +kernel
set_option maxRecDepth 100000 in
theorem brD_len : ∀ i : Nat, i < 128 → (numSeenOf (brD (i : Int) 0)).length ≤ 640 := by decide +kernel
set_option maxRecDepth 100000 in
theorem brD_len2 : ∀ i : Nat, i < 128 → ((numSeenOf (brD (i : Int) 0)).length == (numTextOf (brD (i : Int) 0)).length) = true := by decide +kernel
noncomputable def isVal (n : (int_private% "Numeral")) (i : Int) : Bool := (int_private% "Numeral.rec") (motive := fun _ => Bool) false (fun _ => false) false (fun k => k == i) n
theorem isVal_eq {n : (int_private% "Numeral")} {i : Int} (h : isVal n i = true) : n = (int_private% "Numeral.value") i := by
  cases n with
  | value k => exact congrArg _ (eq_of_beq h)
  | _ => cases h
set_option maxRecDepth 100000 in
theorem brD_val : ∀ i : Nat, i < 128 → isVal ((int_private% "readNumeral") 0 2 (numSeenOf (brD (i : Int) 0))) (br i) = true := by decide +kernel
theorem br_facts {i : Int} (h0 : 0 ≤ i) (h1 : i < 128) : (brB i).length ≤ sizeLine ∧ (brC i).length ≤ sizeLine ∧ (∀ u, (numSeenOf (brD i u)).length ≤ 640) ∧
    ∀ u, (int_private% "readNumeral") 0 2 (numSeenOf (brD i u)) = (int_private% "Numeral.value") (br i) ∧ ((numSeenOf (brD i u)).length == (numTextOf (brD i u)).length) = true := by
  obtain ⟨k, rfl⟩ := Int.eq_ofNat_of_zero_le h0
  have hk : k < 128 := by omega
  exact ⟨brB_len k hk, brC_len k hk, fun u => brD_len k hk, fun u => ⟨isVal_eq (brD_val k hk), brD_len2 k hk⟩⟩
local macro_rules | `(tactic| walk_at "call type:int") => `(tactic| (k_here; (with_reducible show wpAny _ _ (call (Value.type "int") [Value.str (Txt.sliceBy _ _ _ _) _, _]) _ _ _); (refine int_text2 ((br_facts (by assumption) (by assumption)).2.2.1 _) ((br_facts (by assumption) (by assumption)).2.2.2 _) ?_); (try dsimp only)))
set_option maxRecDepth 100000 in
set_option maxHeartbeats 8000000 in
set_option pp.deepTerms false in
set_option pp.maxSteps 3000 in
theorem br_spec (w : World) (mean : ExcName → Option Value) (mg mb : Str → Option Value)
  (dp un : Nat) (gd : Option (List Code)) (cn : Str) (cs : Scope) (a : Addr) (ccd : Value) (cl : List (Str × Addr)) (outer : List Env) (A₀ : Around) (base h₀ : Heap) (L : Addr) (m : Str → Option Value) (news : List (Addr × Obj)) (s : Shared) (Q E : Value → Shared → Prop) (i : Int) (t t' : Tok) :
  Below A₀ base outer h₀ → Fr h₀ L s.heap m → (pre.heap_1 w.params).In h₀ → News h₀ L s.heap news → Top vw (looseW vw [Str.ofString "PolynomialRing", Str.ofString "PolynomialNTT"]) mean mg mb h₀ → cs.kind = .function → dp + 1 < recursionLimit → un + 8 < cLine → 0 ≤ i → i < 128 →
  (∀ t h' tk', Fr h₀ L h' m → News h₀ L h' news → Q (.int (br i) t) { s with heap := h', toks := tk' }) →
  wpAny (model PySem.Challenge.rw_yi0060_01.row.prog w) (ktrTop dp un gd cn cs L a ccd cl outer) (call (.ref 245) [.int i t, .int 7 t']) Q E s := by
  k_fill
  intro B F X N T hk hd hu h0 h1 hret
  have hs1 : (baseText "0b" 2 (Builtin.bitAnd i (2 ^ Int.toNat 7 - 1))).length ≤ sizeLine := br_len' h0 h1
  have hs2 : (Txt.slice (baseText "0b" 2 (Builtin.bitAnd i (2 ^ Int.toNat 7 - 1))) (some 2) none).length ≤ sizeLine := (br_facts h0 h1).1
  have hs3 : (Txt.zfill (Txt.slice (baseText "0b" 2 (Builtin.bitAnd i (2 ^ Int.toNat 7 - 1))) (some 2) none) 7).length ≤ sizeLine := (br_facts h0 h1).2.1
  refine wpAny_call ?_
  k_dflt cell_enter
  k_steps
  exact hret _ _ _ (by assumption) (by assumption)
noncomputable def zetaL : List Int := [1, 1729, 2580, 3289, 2642, 630, 1897, 848, 1062, 1919, 193, 797, 2786, 3260, 569, 1746, 296, 2447, 1339, 1476, 3046, 56, 2240, 1333, 1426, 2094, 535, 2882, 2393, 2879, 1974, 821, 289, 331, 3253, 1756, 1197, 2304, 2277, 2055, 650, 1977, 2513, 632, 2865, 33, 1320, 1915, 2319, 1435, 807, 452, 1438, 2868, 1534, 2402, 2647, 2617, 1481, 648, 2474, 3110, 1227, 910, 17, 2761, 583, 2649, 1637, 723, 2288, 1100, 1409, 2662, 3281, 233, 756, 2156, 3015, 3050, 1703, 1651, 2789, 1789, 1847, 952, 1461, 2687, 939, 2308, 2437, 2388, 733, 2337, 268, 641, 1584, 2298, 2037, 3220, 375, 2549, 2090, 1645, 1063, 319, 2773, 757, 2099, 561, 2466, 2594, 2804, 1092, 403, 1026, 1143, 2150, 2775, 886, 1722, 1212, 1874, 1029, 2110, 2935, 885, 2154]
theorem zetaL_len : zetaL.length = 128 := by decide +kernel
theorem zetaL_eq : (rangeKs 0 128).map (fun a => ((Builtin.powMod ((17 : Int) % 3329).toNat (br a).toNat (3329 : Int).toNat : Nat) : Int)) = zetaL := by decide +kernel
theorem br_nonneg (i : Int) : 0 ≤ br i := by
  unfold br
  simp only [List.range, List.range.loop, List.foldl]
  omega
theorem units_make (A : Around) (a : Args) : (A.under (.builtin "type.__call__" a)).units = A.units + 1 := rfl
end Mine
end
section
open PySem PySem.W PyProof.Rows PySem.Calls PyProof.V PySem.Spec
namespace Mine
noncomputable def Stop (P : Prop) : Prop := P
theorem stop_here {P : Prop} (h : Stop P) : P := h
theorem fr_tok {h₀ h : Heap} {L : Addr} {m : Str → Option Value} (_F : Fr h₀ L h m) (x : Str) (v : Int) (e : ∃ t, m x = some (.int v t)) : ∃ t, m x = some (.int v t) := e
theorem call_at {M : Model} {A : Around} {E : Value → Shared → Prop} {s : Shared} {f : Addr} {args : List Value} {kw : List (Str × Value)} {Q : Value → Shared → Prop} (f' : Addr) (_e : f = f') (h : wpAny M A (call (.ref f) args kw) Q E s) : wpAny M A (call (.ref f) args kw) Q E s := h
noncomputable def RangeS {σ : Type} (Led : σ → List (Addr × Obj)) (x : Str) (stored : List Str) (m₀ : Str → Option Value) (P : Nat → σ → Prop) (i : Nat) (v : Int) (m : Str → Option Value) (nx : List (Addr × Obj)) : Prop :=
  ∃ c : σ, nx = Led c ∧ P i c ∧ (0 < i → ∃ t, m x = some (.int v t)) ∧ (∀ z, z ≠ x → stored.contains z = false → m z = m₀ z)
section
variable {prog : Program} {w : World} {A : Around} {E : Value → Shared → Prop} {s : Shared} {env : Env} {h₀ : Heap} {x : Str} {body : List Stmt} {Q : Flow → Shared → Prop}
theorem range_fr {L : Addr} {h : Heap} {stored : List Str} {m₀ m₁ : Str → Option Value} {v : Option Value} (h2 : ∀ z, z ≠ x → stored.contains z = false → m₁ z = m₀ z)
    (F : Fr h₀ L h (fun y => if y = x then v else m₁ y)) : Fr h₀ L h (fun y => if y = x then v else if stored.contains y = true then m₁ y else m₀ y) := by
  have em : (fun y => if y = x then v else if stored.contains y = true then m₁ y else m₀ y) = fun y => if y = x then v else m₁ y := by
    funext y
    by_cases hy : y = x
    · rw [if_pos hy, if_pos hy]
    · rw [if_neg hy, if_neg hy]
      cases h3 : stored.contains y with
      | true => simp
      | false => simp only [Bool.false_eq_true, if_false]; exact (h2 y hy h3).symm
  rw [em]
  exact F
theorem rangeL {σ : Type} {r : Addr} {a₀ b₀ : Int} {t₀ u₀ v₀ : Tok} {n : Nat} {m₀ : Str → Option Value} (Led : σ → List (Addr × Obj)) (stored : List Str) (P : Nat → σ → Prop) (c₀ : σ)
    (hh : A.handled = none) (hr : IsRange s.heap r a₀ b₀ 1 t₀ u₀ v₀) (hsmall : Builtin.Range.small a₀ b₀ 1 = true) (hn : Builtin.Range.rangeSize a₀ b₀ 1 = (n : Int)) (hpos : 0 < n) (F : Fr h₀ env.locals s.heap m₀) (N : News h₀ env.locals s.heap (Led c₀)) (hp : P 0 c₀)
    (turn : ∀ (i : Nat) (c : σ) t (u : Str → Option Value) h tk own, i < n → OwnOff own ((Led c₀).map (·.1)) → P i c →
      Fr h₀ env.locals h (fun y => if y = x then some (.int (a₀ + (i : Int)) t) else if stored.contains y = true then u y else m₀ y) → News h₀ env.locals h (Led c ++ own) →
      wpAny (model prog w) A (execs body env) (InvPostN h₀ env.locals (RangeS Led x stored m₀ P (i + 1) (a₀ + (i : Int))) own ((Led c₀).map (·.1)) { s with heap := h, toks := tk } Q) E { s with heap := h, toks := tk })
    (done : ∀ (c : σ) t (u : Str → Option Value) h tk, P n c → Fr h₀ env.locals h (fun y => if y = x then some (.int (a₀ + (n : Int) - 1) t) else if stored.contains y = true then u y else m₀ y) → News h₀ env.locals h (Led c) → Q .next { s with heap := h, toks := tk }) :
    wpAny (model prog w) A (pyIter (.ref r)) (fun it s₂ => LoopAtV prog w A h₀ env x body Q E it s₂) E s := by
  refine wpAny_pyIter_range hr hsmall ?_
  have W : Walks prog w A s.heap.objs.size [s.heap.objs.size] [s.heap.objs.size] n (fun i v => i < n ∧ ∃ t, v = .int (a₀ + i * 1) t)
      (fun i h => IsRangeIter h s.heap.objs.size (a₀ + (i : Nat) * 1) ((n : Int) - (i : Nat)) 1) := (Walks.range hh _ a₀ 1 n).bound
  refine loop_invN (fun i m nx => RangeS Led x stored m₀ P i (a₀ + (i : Int) - 1) m nx) W ?_ ?_ ?_ ?_ (by show IsRangeIter _ _ _ _ _; rw [hn]; simpa using Heap.get?_push_size _ rfl) (F.push _) (fun p hp => ⟨Heap.get?_push_of_some _ (N p hp).1, (N p hp).2⟩) ⟨c₀, rfl, hp, fun h => absurd h (Nat.lt_irrefl _), fun _ _ _ => rfl⟩ ?_ ?_
  · intro hm
    exact absurd F.ns.lt ((List.mem_singleton.mp hm) ▸ Nat.lt_irrefl _)
  · intro b hb
    rw [List.mem_singleton.mp hb]
    exact next_is_new F
  · intro p hp hI
    exact absurd (Heap.lt_size (N p hp).1) ((List.mem_singleton.mp hI) ▸ Nat.lt_irrefl _)
  · intro p hp hI
    exact absurd (Heap.lt_size (N p hp).1) ((List.mem_singleton.mp hI) ▸ Nat.lt_irrefl _)
  · rintro i v m₁ nx h tk own hi ⟨_, t, rfl⟩ _ hoff ⟨c, rfl, hp', _, h2⟩ F₁ N₁
    have e1 : a₀ + (i : Int) * 1 = a₀ + (i : Int) := by omega
    rw [e1] at F₁
    have e2 : a₀ + ((i + 1 : Nat) : Int) - 1 = a₀ + (i : Int) := by omega
    rw [e2]
    exact turn i c t m₁ h tk own hi hoff hp' (range_fr h2 F₁) N₁
  · rintro m₁ nx h tk ⟨c, rfl, hp', h1, h2⟩ F₁ N₁
    obtain ⟨t, ht⟩ := h1 hpos
    refine done c t m₁ h tk hp' ?_ N₁
    refine range_fr h2 ?_
    have em : (fun y => if y = x then some (Value.int (a₀ + (n : Int) - 1) t) else m₁ y) = m₁ := by
      funext y
      by_cases hy : y = x
      · rw [if_pos hy, hy, ht]
      · rw [if_neg hy]
    rw [em]
    exact F₁
theorem range_end {σ : Type} {Led : σ → List (Addr × Obj)} {stored : List Str} {m₀ : Str → Option Value} {P : Nat → σ → Prop} {i : Nat} {v : Int} (c : σ) {L : Addr} {m' : Str → Option Value} {own news' : List (Addr × Obj)} {adr : List Addr} {s₁ : Shared} {h' : Heap} {tk : Nat}
    (F : Fr h₀ L h' m') (N : News h₀ L h' news') (hn : ∀ p ∈ Led c, p ∈ news') (ho : ∀ p ∈ own, p ∈ news') (ha : (Led c).map (·.1) = adr) (hx : ∃ t, m' x = some (.int v t)) (hr : ∀ z, z ≠ x → stored.contains z = false → m' z = m₀ z) (hp : P i c) :
    InvEndN h₀ L (RangeS Led x stored m₀ P i v) own adr s₁ { s₁ with heap := h', toks := tk } :=
  InvEndN.intro F N ⟨c, rfl, hp, fun _ => hx, hr⟩ ha hn ho
end
section
variable {M : Model} {A : Around} {E : Value → Shared → Prop} {s : Shared} {K : Frag} {env : Env} {pos : Pos} {x C : Addr} {ox : Obj} {od : Option Obj} {first : List Value} {Q : Value → Shared → Prop}
theorem kco_callWithKW {f : Addr} {e : PySem.Expr} {rest : List PySem.Expr} {kws : List Keyword} (_X : K.In s.heap) (_I : InstAt s.heap x ox C od) (hd : ox.data = .plain) (_hs : findIn K (.ref C) "__call__" = some (some (.ref f))) (hall : (backToKw pos (keywordEach kws env)).all (·.1.isSome) = true)
    (h : wpAny M A (spliced (backTo pos (starEach (e :: rest) env))) (fun vs s₁ => wpAny M A (evalAll ((backToKw pos (keywordEach kws env)).map (·.2)))
      (fun ks s₂ => kco_P K x C ox od s₂.heap ∧ wpAny M A (call (.ref x) (first ++ vs) (((backToKw pos (keywordEach kws env)).filterMap (·.1)).zip ks)) Q E s₂) E s₁) E s)
    (hplain : ((backTo pos (starEach (e :: rest) env)).any (·.1) || (backToKw pos (keywordEach kws env)).any (·.1.isNone)) = false := by rfl) (he : starEach (e :: rest) env = (false, eval e env) :: starEach rest env := by rfl) :
    wpAny M A (callWith pos (.ref x) first (backTo pos (starEach (e :: rest) env)) (backToKw pos (keywordEach kws env))) Q E s :=
  kco_callWith_of hplain hd (evalArgs_kw2 hall h he)
end
end Mine
end
section
open PySem PySem.W PyProof.Rows PySem.Calls PyProof.V PySem.Spec
namespace Mine
section
variable {prog : Program} {w : World} {A : Around} {E : Value → Shared → Prop} {s : Shared} {env : Env} {h₀ : Heap} {x : Str} {body : List Stmt} {Q : Flow → Shared → Prop}
noncomputable def EndA {σ : Type} (h₀ : Heap) (L : Addr) (Led : σ → List (Addr × Obj)) (ps : σ → List (Str × Value)) (x : Str) (stored : List Str) (m₀ : Str → Option Value) (P : Nat → σ → Prop) (i : Nat) (I : Addr) (oI : Obj) (s₁ s₂ : Shared) : Prop :=
  ∃ (c : σ) (h' : Heap) (tk : Nat) (m' : Str → Option Value) (news' : List (Addr × Obj)), s₂ = { s₁ with heap := h', toks := tk } ∧ Fr h₀ L h' m' ∧ News h₀ L h' news' ∧ (I, oI) ∈ news' ∧ (∀ p ∈ Led c, p ∈ news') ∧ (∀ p ∈ Led c, p.1 ≠ I) ∧
    (∀ p ∈ ps c, m' p.1 = some p.2) ∧ (∀ z, z ≠ x → (∀ p ∈ ps c, z ≠ p.1) → stored.contains z = false → m' z = m₀ z) ∧ P i c
noncomputable def PostA {σ : Type} (h₀ : Heap) (L : Addr) (Led : σ → List (Addr × Obj)) (ps : σ → List (Str × Value)) (x : Str) (stored : List Str) (m₀ : Str → Option Value) (P : Nat → σ → Prop) (i : Nat) (I : Addr) (oI : Obj) (s₁ : Shared) (Q : Flow → Shared → Prop) (f : Flow) (s₂ : Shared) : Prop :=
  match f with
  | .ret v => Q (.ret v) s₂
  | .brk => Q .next s₂
  | _ => EndA h₀ L Led ps x stored m₀ P i I oI s₁ s₂
theorem rangeA {σ : Type} {r : Addr} {a₀ b₀ : Int} {t₀ u₀ v₀ : Tok} {n : Nat} {m₀ : Str → Option Value} (Led : σ → List (Addr × Obj)) (ps : σ → List (Str × Value)) (stored : List Str) (P : Nat → σ → Prop) (c₀ : σ)
    (hh : A.handled = none) (hr : IsRange s.heap r a₀ b₀ 1 t₀ u₀ v₀) (hsmall : Builtin.Range.small a₀ b₀ 1 = true) (hn : Builtin.Range.rangeSize a₀ b₀ 1 = (n : Int)) (F : Fr h₀ env.locals s.heap m₀) (N : News h₀ env.locals s.heap (Led c₀)) (hk : ∀ p ∈ ps c₀, m₀ p.1 = some p.2) (hp : P 0 c₀)
    (turn : ∀ (i : Nat) (c : σ) t (u : Str → Option Value) h tk I oI, i < n → (∀ p ∈ Led c, p.1 ≠ I) → P i c →
      Fr h₀ env.locals h (fun y => if y = x then some (.int (a₀ + (i : Int)) t) else kstB (fun z => if stored.contains z then u z else m₀ z) (ps c) y) → News h₀ env.locals h ((I, oI) :: Led c) →
      wpAny (model prog w) A (execs body env) (PostA h₀ env.locals Led ps x stored m₀ P (i + 1) I oI { s with heap := h, toks := tk } Q) E { s with heap := h, toks := tk })
    (done : ∀ (c : σ) (u : Str → Option Value) h tk, P n c → Fr h₀ env.locals h (fun y => if y = x then u y else kstB (fun z => if stored.contains z then u z else m₀ z) (ps c) y) → News h₀ env.locals h (Led c) → Q .next { s with heap := h, toks := tk }) :
    wpAny (model prog w) A (pyIter (.ref r)) (fun it s₂ => LoopAtV prog w A h₀ env x body Q E it s₂) E s := by
  refine wpAny_pyIter_range hr hsmall ?_
  have W : Walks prog w A s.heap.objs.size [s.heap.objs.size] [s.heap.objs.size] n (fun i v => i < n ∧ ∃ t, v = .int (a₀ + i * 1) t)
      (fun i h => IsRangeIter h s.heap.objs.size (a₀ + (i : Nat) * 1) ((n : Int) - (i : Nat)) 1) := (Walks.range hh _ a₀ 1 n).bound
  let J : Nat → (Str → Option Value) → List (Addr × Obj) → Prop := fun i m nx => ∃ c : σ, nx = Led c ∧ P i c ∧ (∀ p ∈ ps c, m p.1 = some p.2) ∧ (∀ z, z ≠ x → (∀ p ∈ ps c, z ≠ p.1) → stored.contains z = false → m z = m₀ z)
  refine ⟨_, _, _, n, _, _, m₀, Led c₀, J, rfl, W, ?_, ?_, ?_, (by show IsRangeIter _ _ _ _ _; rw [hn]; simpa using Heap.get?_push_size _ rfl), F.push _, (fun p hp => ⟨Heap.get?_push_of_some _ (N p hp).1, (N p hp).2⟩), ⟨c₀, rfl, hp, hk, fun _ _ _ _ => rfl⟩, ?_, ?_⟩
  · intro hm
    exact absurd F.ns.lt ((List.mem_singleton.mp hm) ▸ Nat.lt_irrefl _)
  · intro b hb
    rw [List.mem_singleton.mp hb]
    exact next_is_new F
  · intro p hp hI
    exact absurd (Heap.lt_size (N p hp).1) ((List.mem_singleton.mp hI) ▸ Nat.lt_irrefl _)
  · rintro i v m₁ news₁ s₁ own ⟨hh', tk', rfl⟩ hin ⟨_, t, rfl⟩ ⟨c, rfl, hp', h1, h2⟩ hoff hown _ hall hst F₁ N₁
    have e1 : a₀ + (i : Int) * 1 = a₀ + (i : Int) := by omega
    rw [e1] at F₁
    have hoff' : ∀ p ∈ Led c, p.1 ≠ s.heap.objs.size := fun p hp e => hoff p hp (by rw [e]; exact List.mem_singleton.mpr rfl)
    obtain ⟨oI, hI⟩ : ∃ oI, hh'.get? s.heap.objs.size = some oI := ⟨_, hst⟩
    have hmem := hall s.heap.objs.size (List.mem_singleton.mpr rfl) (next_is_new F) _ hI
    have N₂ : News h₀ env.locals hh' ((s.heap.objs.size, oI) :: Led c) := fun p hp => by
      rcases List.mem_cons.mp hp with rfl | hp
      · exact N₁ _ (List.mem_append.mpr (.inl hmem))
      · exact N₁ p (List.mem_append.mpr (.inr hp))
    refine wpAny_mono (turn i c t m₁ hh' tk' s.heap.objs.size oI hin hoff' hp' (kst_fr h1 h2 F₁) N₂) (fun f s₂ p => ?_) fun _ _ e => e
    have fin : EndA h₀ env.locals Led ps x stored m₀ P (i + 1) s.heap.objs.size oI { s with heap := hh', toks := tk' } s₂ → LoopStepU h₀ env.locals [s.heap.objs.size] own (J (i + 1)) { s with heap := hh', toks := tk' } .next s₂ := by
      rintro ⟨c', h', tk, m', news', e, F', N', hi, hl, hne, hk', hr', hP⟩
      refine ⟨rfl, h', tk, m', Led c', e, F', fun p hp => ?_, fun p hp hq => ?_, c', rfl, hP, hk', hr'⟩
      · rcases List.mem_append.mp hp with hp | hp
        · have ep := List.mem_singleton.mp (hown p hp)
          have z1 := (N₁ p (List.mem_append.mpr (.inl hp))).1
          obtain ⟨pa, po⟩ := p
          dsimp only at ep z1
          subst ep
          have z2 : hh'.get? s.heap.objs.size = some po := z1
          rw [hI] at z2
          injection z2 with z2
          subst z2
          exact N' _ hi
        · exact N' p (hl p hp)
      · exact hne p hp (List.mem_singleton.mp hq)
    cases f with
    | ret v => exact .ret p
    | brk => exact .brk p
    | next => exact .next (fin p)
    | cont => exact .cont (fin p)
  · rintro h' tk m' news' F' N' _ ⟨c, rfl, hP, h1, h2⟩
    exact done c m' h' tk hP (kst_frOut h1 h2 F') N'
theorem end_A {σ : Type} {Led : σ → List (Addr × Obj)} {ps : σ → List (Str × Value)} {stored : List Str} {m₀ : Str → Option Value} {P : Nat → σ → Prop} {i : Nat} {I : Addr} {oI : Obj} (c : σ) {L : Addr} {m' : Str → Option Value} {news' : List (Addr × Obj)} {s₁ : Shared} {h' : Heap} {tk : Nat}
    (F : Fr h₀ L h' m') (N : News h₀ L h' news') (hi : (I, oI) ∈ news') (hn : ∀ p ∈ Led c, p ∈ news') (hne : ∀ p ∈ Led c, p.1 ≠ I) (hk : ∀ p ∈ ps c, m' p.1 = some p.2) (hr : ∀ z, z ≠ x → (∀ p ∈ ps c, z ≠ p.1) → stored.contains z = false → m' z = m₀ z) (hp : P i c) :
    EndA h₀ L Led ps x stored m₀ P i I oI s₁ { s₁ with heap := h', toks := tk } := ⟨c, h', tk, m', news', rfl, F, N, hi, hn, hne, hk, hr, hp⟩
end
end Mine
end
section
open PySem PySem.W PyProof.Rows PySem.Calls PyProof.V PySem.Spec
namespace Mine
local macro_rules | `(tactic| ktr_units) => `(tactic| (have hcL9 := cLine_is; (simp only [units_make, units_in1, units_deeper, Around.mark_units, units_caller] at *); (try dsimp only [ktrTop] at *); omega))
local macro_rules | `(tactic| k_room) => `(tactic| ktr_room)
local macro_rules | `(tactic| k_units) => `(tactic| ktr_units)
local macro_rules | `(tactic| k_enter) => `(tactic| first
  | (refine' code_def ?k1 ?k2 ?k3 ?k4 ?k5 ?kA ?kF ?kK ?k6 ?k7 ?k8 ?k9 ?kB ?_ ?c2 ?c3 ?c4 ?c5; (case kA => exact rfl); (case kF => exact rfl); (case kK => first | exact rfl | assumption); (case k1 => k_asm); (case k2 => k_asm); (case k3 => k_asm); (case k4 => k_asm); (case k5 => k_asm); (case k6 => k_is); (case k7 => k_is); (case k8 => k_room); (case k9 => first | exact BindsTo.of_eq rfl | exact binds_K (by k_in) rfl (by k_is) rfl rfl rfl | fail "k_enter: no rule for these arguments"); (case c5 => decide); (case kB => exact locs rfl); (case c2 => exact rfl); (case c3 => exact rfl); (case c4 => exact rfl); k_whole; intro g' L' h' FG' F' N' B' X' T'; (try dsimp only); (try k_lift B'); (try k_fold))
  | (refine' code_defC ?k1 ?k2 ?k3 ?k4 ?k5 ?kA ?kF ?kK ?k6 ?k7 ?k8 ?k9 ?kB ?kD ?_ ?c2 ?c3 ?c4; (case kA => exact rfl); (case kF => exact rfl); (case kK => first | exact rfl | assumption); (case k1 => k_asm); (case k2 => k_asm); (case k3 => k_asm); (case k4 => k_asm); (case k5 => k_asm); (case k6 => k_is); (case k7 => k_is); (case k8 => k_room); (case k9 => first | exact BindsTo.of_eq rfl | exact binds_K (by k_in) rfl (by k_is) rfl rfl rfl | fail "k_enter: no rule for these arguments"); (case kB => exact rfl); (case kD => decide +kernel); (case c2 => exact rfl); (case c3 => exact rfl); (case c4 => exact rfl); k_whole; intro g' L' h' tk' cells' FG' F' N' Y' B' X' T' l1; (try k_lt l1); k_cells Y'; (try simp only [List.cons_append, List.nil_append] at N'); (try dsimp only); (try k_lift B'); (try k_fold)))
local macro_rules | `(tactic| walk_at "callWith ref") => `(tactic| (k_here; kco_here; k_dflt (refine' kco_callWithKW ?k1 ?k2 ?k3 ?k4 ?k5 ?_; (case k1 => k_in); (case k2 => k_inst); (case k3 => rfl); (case k4 => k_is); (case k5 => exact rfl); k_whole)))
section
open PySem PySem.W PyProof.Rows PySem.Calls
theorem lt128 {k : Int} (h : k < 0 + (((128 : Int) - 0).toNat : Int)) : k < 128 := by omega
local macro_rules | `(tactic| walk_at "call ref") => `(tactic| (k_here; (with_reducible show wpAny _ _ (call (Value.ref _) [_, _]) _ _ _); (with_unfolding_all show wpAny _ _ (call (Value.ref 245) _) _ _ _); k_dflt (refine' br_spec _ _ _ _ _ _ _ _ _ _ _ _ _ _ _ _ _ _ _ _ _ _ _ _ _ ?k1 ?k2 ?k3 ?k4 ?k5 ?kK ?kd ?ku ?kp ?kq ?_); (case k1 => k_asm); (case k2 => k_asm); (case k3 => k_asm); (case k4 => k_asm); (case k5 => k_asm); (case kK => first | exact rfl | assumption); (case kd => ktr_room); (case ku => ktr_units); (case kp => first | assumption | omega); (case kq => first | exact lt128 (by assumption) | omega); intro t9 h9 tk9 F9 N9; (try dsimp only); (try k_fold)))
local macro_rules | `(tactic| walk_at "call builtin:pow") => `(tactic| (k_dflt (refine pow3 ?k1 (by decide) ?_); (case k1 => first | decide | exact br_nonneg _ | omega); (try dsimp only)))
local macro_rules | `(tactic| walk_at "call builtin:pow") => `(tactic| (k_dflt (refine powInv ?_); (try dsimp only)))
noncomputable abbrev ringDict (w : World) (z : Addr) (t1 t2 t3 t4 t5 t6 t7 : Tok) : Obj :=
  dictOf [⟨PyData.keyHash w.params (Str.ofString "q"), .str (Str.ofString "q") t1, .int 3329 t2⟩, ⟨PyData.keyHash w.params (Str.ofString "n"), .str (Str.ofString "n") t3, .int 256 t4⟩,
    ⟨PyData.keyHash w.params (Str.ofString "ntt_zetas"), .str (Str.ofString "ntt_zetas") t5, .ref z⟩, ⟨PyData.keyHash w.params (Str.ofString "ntt_f"), .str (Str.ofString "ntt_f") t6, .int 3303 t7⟩] 4
set_option maxRecDepth 100000 in
set_option maxHeartbeats 8000000 in
theorem ring_spec (w : World) (mean : ExcName → Option Value) (mg mb : Str → Option Value)
  (dp un : Nat) (gd : Option (List Code)) (cn : Str) (cs : Scope) (a : Addr) (ccd : Value) (cl : List (Str × Addr)) (outer : List Env) (A₀ : Around) (base h₀ : Heap) (L : Addr) (m : Str → Option Value) (e1 e2 : Addr) (o1 o2 : Obj) (s : Shared) (Q E : Value → Shared → Prop) :
  Below A₀ base outer h₀ → Fr h₀ L s.heap m → (pre.heap_1 w.params).In h₀ → News h₀ L s.heap [(e1, o1), (e2, o2)] → Top vw (looseW vw [Str.ofString "PolynomialRing", Str.ofString "PolynomialNTT"]) mean mg mb h₀ → cs.kind = .function → dp + 4 < recursionLimit → un + 32 < cLine →
  e2 < e1 → (∀ (x dx z : Addr) (zs : List Value) (nz : Nat) (t1 t2 t3 t4 t5 t6 t7 : Tok) (h' : Heap) (tk' : Nat), Fr h₀ L h' m → News h₀ L h' [(z, listOf zs.toArray nz), (x, instObj 282 dx), (dx, ringDict w z t1 t2 t3 t4 t5 t6 t7), (e1, o1), (e2, o2)] → IntsAre zs zetaL → e1 < dx → e2 < dx → dx < x → z ≠ x → z ≠ dx → z ≠ e1 → z ≠ e2 → Q (.ref x) { s with heap := h', toks := tk' }) →
  wpAny (model PySem.Challenge.rw_yi0060_01.row.prog w) (ktrTop dp un gd cn cs L a ccd cl outer) (call (.ref 282) []) Q E s := by
  k_fill
  intro B F X N T hk hd hu hlt hret
  k_steps
  rename IntsAre _ _ => hI
  rename News _ _ _ _ => hN
  refine' hret _ _ _ _ _ _ _ _ _ _ _ _ _ _ ?a ?b ?c ?d1 ?d2 ?d3 ?d4 ?d5 ?d6 ?d7
  (case b => exact cb_drop hN (by kcj_all))
  (case a => assumption)
  (case c => exact zetaL_eq ▸ hI)
  all_goals first | (refine ltN ?_; (try dsimp only); omega) | (refine neN ?_; (try dsimp only); omega)
end
section
open PySem PySem.W PyProof.Rows PySem.Calls PyProof.V PySem.Spec
local macro_rules | `(tactic| walk_at "exec While Compare cons nil") => `(tactic| (k_here; refine stop_here ?_))
local macro_rules | `(tactic| walk_at "pyIter ref") => `(tactic| (k_here; refine stop_here ?_))
section
open PySem PySem.W PyProof.Rows PySem.Calls PyProof.V PySem.Spec

noncomputable abbrev polyDict (w : World) (x c : Addr) (r1 r2 : Tok) : Obj :=
  dictOf [⟨PyData.keyHash w.params (Str.ofString "parent"), .str (Str.ofString "parent") r1, .ref x⟩, ⟨PyData.keyHash w.params (Str.ofString "coeffs"), .str (Str.ofString "coeffs") r2, .ref c⟩] 2

/-- one butterfly -/
noncomputable def bfly (z : Int) (l : Nat) (cs : List Int) (j : Nat) : List Int :=
  (cs.set (j + l) (cs.getD j 0 - z * cs.getD (j + l) 0)).set j ((cs.set (j + l) (cs.getD j 0 - z * cs.getD (j + l) 0)).getD j 0 + z * cs.getD (j + l) 0)
noncomputable def blockF (z : Int) (l start i : Nat) (cs : List Int) : List Int := (List.range i).foldl (fun c i => bfly z l c (start + i)) cs
noncomputable def layerF (l k b : Nat) (cs : List Int) : List Int := (List.range b).foldl (fun c b => blockF (zetaL.getD (k + b) 0) l (2 * l * b) l c) cs
noncomputable def fwdF (r : Nat) (cs : List Int) : List Int := (List.range r).foldl (fun c r => layerF (2 ^ (7 - r)) (2 ^ r) (2 ^ r) c) cs
noncomputable def modF (i : Nat) (cs : List Int) : List Int := (List.range i).foldl (fun c j => c.set j (Int.fmod (c.getD j 0) 3329)) cs
noncomputable def toNtt (cs : List Int) : List Int := modF 256 (fwdF 7 cs)
theorem bfly_len (z : Int) (l : Nat) (cs : List Int) (j : Nat) : (bfly z l cs j).length = cs.length := by simp [bfly]
theorem pow_facts {r : Nat} (hr : r ≤ 7) (h : 2 ≤ ((2 ^ (7 - r) : Nat) : Int)) : r ≤ 6 ∧ 2 ^ (7 - r) * 2 ^ r = 128 := by
  have : r = 0 ∨ r = 1 ∨ r = 2 ∨ r = 3 ∨ r = 4 ∨ r = 5 ∨ r = 6 ∨ r = 7 := by omega
  rcases this with e | e | e | e | e | e | e | e <;> subst e <;> simp at h ⊢
theorem inner_facts {R H b : Nat} (h : R * H = 128) (hb : b ≤ H) (hR : 2 ≤ R) (hlt : 2 * R * b < 256) : b < H ∧ H + b < 128 ∧ 2 * R * b + 2 * R ≤ 256 ∧ R ≤ 128 := by
  have h1 : b < H := by
    rcases Nat.lt_or_ge b H with h1 | h1
    · exact h1
    · have := Nat.mul_le_mul (Nat.le_refl (2 * R)) h1
      rw [Nat.mul_assoc 2 R H, h] at this
      omega
  have h2 : H ≤ 64 := by
    have := Nat.mul_le_mul hR (Nat.le_refl H)
    omega
  have h3 : 2 * R * (b + 1) ≤ 256 := by
    have := Nat.mul_le_mul (Nat.le_refl (2 * R)) h1
    rw [Nat.mul_assoc 2 R H, h] at this
    exact this
  rw [Nat.mul_add, Nat.mul_one] at h3
  exact ⟨h1, by omega, h3, by omega⟩
theorem zetaL_small : ∀ i, 0 ≤ zetaL.getD i 0 ∧ zetaL.getD i 0 < 3329 := by
  intro i
  rcases Nat.lt_or_ge i 128 with h | h
  · have : ∀ i, i < 128 → 0 ≤ zetaL.getD i 0 ∧ zetaL.getD i 0 < 3329 := by decide +kernel
    exact this i h
  · rw [List.getD_eq_getElem?_getD, List.getElem?_eq_none (by rw [zetaL_len]; exact h)]
    decide
theorem blockF_succ (z : Int) (l s i : Nat) (cs : List Int) : blockF z l s (i + 1) cs = bfly z l (blockF z l s i cs) (s + i) := by simp [blockF, List.range_succ, List.foldl_append]
theorem layerF_succ (l k b : Nat) (cs : List Int) : layerF l k (b + 1) cs = blockF (zetaL.getD (k + b) 0) l (2 * l * b) l (layerF l k b cs) := by simp [layerF, List.range_succ, List.foldl_append]
theorem fwdF_succ (r : Nat) (cs : List Int) : fwdF (r + 1) cs = layerF (2 ^ (7 - r)) (2 ^ r) (2 ^ r) (fwdF r cs) := by simp [fwdF, List.range_succ, List.foldl_append]
theorem modF_succ (i : Nat) (cs : List Int) : modF (i + 1) cs = (modF i cs).set i (Int.fmod ((modF i cs).getD i 0) 3329) := by simp [modF, List.range_succ, List.foldl_append]
theorem block_end {R H b : Nat} (h : R * H = 128) (hb : b ≤ H) (hge : 256 ≤ 2 * R * b) : b = H := by
  rcases Nat.lt_or_ge b H with h1 | h1
  · exfalso
    have h3 := Nat.mul_le_mul (Nat.le_refl (2 * R)) h1
    rw [Nat.mul_assoc 2 R H, h] at h3
    have h4 : 0 < R := Nat.pos_of_ne_zero fun e => by rw [e, Nat.zero_mul] at h; omega
    rw [show b.succ = b + 1 from rfl, Nat.mul_add, Nat.mul_one] at h3
    omega
  · omega
theorem half_pow {r : Nat} (hr : r ≤ 6) : ((2 ^ (7 - r) : Nat) : Int).fdiv (2 ^ Int.toNat 1) = ((2 ^ (7 - (r + 1)) : Nat) : Int) := by
  have : r = 0 ∨ r = 1 ∨ r = 2 ∨ r = 3 ∨ r = 4 ∨ r = 5 ∨ r = 6 := by omega
  rcases this with e | e | e | e | e | e | e <;> subst e <;> decide
theorem half_lt {r : Nat} (hr : r ≤ 6) : ((2 ^ (7 - (r + 1)) : Nat) : Int).toNat < ((2 ^ (7 - r) : Nat) : Int).toNat := by
  have : r = 0 ∨ r = 1 ∨ r = 2 ∨ r = 3 ∨ r = 4 ∨ r = 5 ∨ r = 6 := by omega
  rcases this with e | e | e | e | e | e | e <;> subst e <;> decide
theorem pow_end {r : Nat} (hr : r ≤ 7) (h : ¬ 2 ≤ ((2 ^ (7 - r) : Nat) : Int)) : r = 7 := by
  have : r = 0 ∨ r = 1 ∨ r = 2 ∨ r = 3 ∨ r = 4 ∨ r = 5 ∨ r = 6 ∨ r = 7 := by omega
  rcases this with e | e | e | e | e | e | e | e <;> subst e <;> first | rfl | (exfalso; apply h; decide)
structure CsI where
  vs : List Value
  ns : List Int
  k : Int
  tk : Tok
  st : Int
  ts : Tok
noncomputable def CsI.Ok (R H : Nat) (ms : List Int) (q : CsI) : Prop := IntsAre q.vs q.ns ∧ q.ns.length = 256 ∧ ∃ b : Nat, b ≤ H ∧ q.k = ((H + b : Nat) : Int) ∧ q.st = ((2 * R * b : Nat) : Int) ∧ q.ns = layerF R H b ms
noncomputable def CsJ (ze : Int) (R S : Nat) (ms : List Int) (i : Nat) (q : List Value × List Int) : Prop := IntsAre q.1 q.2 ∧ q.2.length = 256 ∧ q.2 = blockF ze R S i ms
structure CsK where
  vs : List Value
  ns : List Int
  k : Int
  tk : Tok
  l : Int
  tl : Tok
noncomputable def CsK.Ok (ns : List Int) (q : CsK) : Prop := IntsAre q.vs q.ns ∧ q.ns.length = 256 ∧ ∃ r : Nat, r ≤ 7 ∧ q.k = ((2 ^ r : Nat) : Int) ∧ q.l = ((2 ^ (7 - r) : Nat) : Int) ∧ q.ns = fwdF r ns
set_option maxRecDepth 100000 in
set_option maxHeartbeats 8000000 in
theorem toNtt_spec (w : World) (mean : ExcName → Option Value) (mg mb : Str → Option Value)
  (dp un : Nat) (gd : Option (List Code)) (cn : Str) (cs : Scope) (a : Addr) (ccd : Value) (cl : List (Str × Addr)) (outer : List Env) (A₀ : Around) (base h₀ : Heap) (L : Addr) (m : Str → Option Value) (s : Shared) (Q E : Value → Shared → Prop)
  (p dpa c x dx z a1 a2 : Addr) (b1 b2 : Obj) (vs zs : List Value) (ns : List Int) (n nz : Nat) (t1 t2 t3 t4 t5 t6 t7 r1 r2 : Tok) :
  Below A₀ base outer h₀ → Fr h₀ L s.heap m → (pre.heap_1 w.params).In h₀ →
  News h₀ L s.heap [(c, W.listOf vs.toArray n), (p, instObj 350 dpa), (dpa, polyDict w x c r1 r2), (z, W.listOf zs.toArray nz), (x, instObj 282 dx), (dx, ringDict w z t1 t2 t3 t4 t5 t6 t7), (a1, b1), (a2, b2)] →
  Top vw (looseW vw [Str.ofString "PolynomialRing", Str.ofString "PolynomialNTT"]) mean mg mb h₀ → cs.kind = .function → dp + 8 < recursionLimit → un + 64 < cLine →
  IntsAre vs ns → ns.length = 256 → IntsAre zs zetaL → @Ne Nat c p → @Ne Nat c dpa → @Ne Nat c z → @Ne Nat c x → @Ne Nat c dx → @Ne Nat c a1 → @Ne Nat c a2 →
  (∀ (q dq : Addr) (vs' : List Value) (r3 r4 : Tok) (h' : Heap) (tk' : Nat), Fr h₀ L h' m →
    News h₀ L h' [(q, instObj 426 dq), (dq, polyDict w x c r3 r4), (c, W.listOf vs'.toArray n), (z, W.listOf zs.toArray nz), (x, instObj 282 dx), (dx, ringDict w z t1 t2 t3 t4 t5 t6 t7), (a1, b1), (a2, b2)] →
    IntsAre vs' (toNtt ns) → @LT.lt Nat _ c dq → @LT.lt Nat _ z dq → @LT.lt Nat _ x dq → @LT.lt Nat _ dx dq → @LT.lt Nat _ a1 dq → @LT.lt Nat _ a2 dq → @LT.lt Nat _ dq q → Q (.ref q) { s with heap := h', toks := tk' }) →
  wpAny (model PySem.Challenge.rw_yi0060_01.row.prog w) (ktrTop dp un gd cn cs L a ccd cl outer) (call (.ref 340) [.ref p]) Q E s := by
  k_fill
  intro B F X N T hk hd hu hi hlen hz d1 d2 d3 d4 d5 d6 d7 hret
  refine wpAny_call ?_
  k_dflt k_enter
  k_steps
  rename Fr _ _ _ _ => F1
  rename News _ _ _ _ => N1
  unfold Stop
  k_fold
  obtain ⟨tk0, ek0⟩ := fr_tok F1 (Str.ofString "k") 1 ⟨_, by with_unfolding_all rfl⟩
  obtain ⟨tl0, el0⟩ := fr_tok F1 (Str.ofString "l") 128 ⟨_, by with_unfolding_all rfl⟩
  with_unfolding_all refine' ksw_while (σ := CsK) (fun q => [(c, W.listOf q.vs.toArray n), (p, instObj 350 dpa), (dpa, polyDict w x c r1 r2), (z, W.listOf zs.toArray nz), (x, instObj 282 dx), (dx, ringDict w z t1 t2 t3 t4 t5 t6 t7), (a1, b1), (a2, b2)]) (fun q => [(Str.ofString "k", .int q.k q.tk), (Str.ofString "l", .int q.l q.tl)]) (fun _ => True) [Str.ofString "start", Str.ofString "zeta", Str.ofString "j", Str.ofString "t"] (CsK.Ok ns) (fun q => q.l.toNat) ⟨vs, ns, 1, tk0, 128, tl0⟩ F1 ?kn trivial ?kk ?kp ?_
  (case kn => exact cb_drop N1 (by kcj_all))
  (case kk => with_unfolding_all exact List.forall_mem_cons.mpr ⟨ek0, List.forall_mem_cons.mpr ⟨el0, List.forall_mem_nil _⟩⟩)
  (case kp => exact ⟨hi, hlen, 0, by decide, rfl, rfl, rfl⟩)
  clear F1 N1 ek0 el0
  intro q u h tk _ hq F1 N1
  obtain ⟨ws, ms, k, tk1, l, tl⟩ := q
  dsimp only at F1 N1 hq ⊢
  obtain ⟨hi1, hl1, r, hr, hk1, hl2, hms⟩ := hq
  dsimp only at hi1 hl1 hk1 hl2 hms
  k_steps
  · rename Fr _ _ _ _ => F1
    rename News _ _ _ _ => N1
    rename 2 ≤ l => h2l
    unfold Stop
    k_fold
    obtain ⟨ts0, es0⟩ := fr_tok F1 (Str.ofString "start") 0 ⟨_, by with_unfolding_all rfl⟩
    obtain ⟨tk0, ek0⟩ : ∃ t, t = tk1 := ⟨_, rfl⟩
    obtain ⟨r7, hR⟩ : r ≤ 6 ∧ 2 ^ (7 - r) * 2 ^ r = 128 := pow_facts hr (by omega)
    generalize hRR : 2 ^ (7 - r) = R at *
    generalize hHH : 2 ^ r = H at *
    with_unfolding_all refine' ksw_while (σ := CsI) (fun q => [(c, W.listOf q.vs.toArray n), (p, instObj 350 dpa), (dpa, polyDict w x c r1 r2), (z, W.listOf zs.toArray nz), (x, instObj 282 dx), (dx, ringDict w z t1 t2 t3 t4 t5 t6 t7), (a1, b1), (a2, b2)]) (fun q => [(Str.ofString "k", .int q.k q.tk), (Str.ofString "start", .int q.st q.ts)]) (fun _ => True) [Str.ofString "zeta", Str.ofString "j", Str.ofString "t"] (CsI.Ok R H ms) (fun q => (256 - q.st).toNat) ⟨ws, ms, k, tk1, 0, ts0⟩ F1 ?kn trivial ?kk ?kp ?_
    (case kn => exact N1)
    (case kk => with_unfolding_all exact List.forall_mem_cons.mpr ⟨rfl, List.forall_mem_cons.mpr ⟨es0, List.forall_mem_nil _⟩⟩)
    (case kp => exact ⟨by first | exact hi1 | with_reducible assumption | assumption, hl1, 0, Nat.zero_le _, by omega, by simp, rfl⟩)
    clear F1 N1 es0
    intro q u h tk _ hq F1 N1
    obtain ⟨us, js, k', tk2, st, ts⟩ := q
    dsimp only at F1 N1 hq ⊢
    obtain ⟨hi2, hl3, b, hb, hk2, hst, hjs⟩ := hq
    dsimp only at hi2 hl3 hk2 hst hjs
    have hzl := zetaL_len
    have hfb : st < 256 → b < H ∧ 0 ≤ k' ∧ k' < 128 ∧ 0 ≤ st ∧ st + 2 * l ≤ 256 ∧ l ≤ 128 := fun h9 => by
      obtain ⟨f1, f2, f3, f4⟩ := inner_facts hR hb (by omega) (by omega)
      exact ⟨f1, by omega, by omega, by omega, by omega, by omega⟩
    have hze := zetaL_small k'.toNat
    k_steps
    · rename Fr _ _ _ _ => F2
      rename News _ _ _ _ => N2
      rename IsRange _ _ _ _ _ _ _ _ => rg
      rename st < 256 => hst2
      obtain ⟨f1, f2, f3, f4, f5, f6⟩ := hfb hst2
      unfold Stop
      k_fold
      generalize hzz : zetaL.getD k'.toNat 0 = ze at *
      with_unfolding_all refine' rangeL (σ := List Value × List Int) (n := R) (fun q => [(c, W.listOf q.1.toArray n), (p, instObj 350 dpa), (dpa, polyDict w x c r1 r2), (z, W.listOf zs.toArray nz), (x, instObj 282 dx), (dx, ringDict w z t1 t2 t3 t4 t5 t6 t7), (a1, b1), (a2, b2)]) [Str.ofString "t"] (CsJ ze R (2 * R * b) js) (us, js) rfl rg (small_one (by omega) (by omega) (by omega) (by omega)) ((rangeSize_nat _ _).trans (by omega)) (by omega) F2 N2 ?kp ?_ ?_
      (case kp => exact ⟨by first | exact hi2 | with_reducible assumption | assumption, hl3, rfl⟩)
      · clear F2 N2
        intro i q t u h tk own hi9 hoff hq F2 N2
        obtain ⟨xs, ys⟩ := q
        dsimp only at F2 N2 hq ⊢
        obtain ⟨hx1, hx2, hx3⟩ := hq
        dsimp only at hx1 hx2 hx3
        simp only [List.cons_append, List.nil_append, List.map_cons, List.map_nil] at N2 hoff
        k_steps
        rename Fr _ _ _ _ => F3
        rename News _ _ _ _ => N3
        rename IntsAre _ _ => hx4
        refine' range_end (_, _) F3 N3 ?hn ?ho ?ha ?hx ?hr ⟨hx4, ?hl, ?he⟩
        (case hn => kst_in)
        (case ho => intro p hp; k_ownIn)
        (case ha => rfl)
        (case hx => exact ⟨_, by with_unfolding_all rfl⟩)
        (case hr => (intro z h2 h3; first | rfl | ((simp only [List.contains_cons, List.contains_nil, Bool.or_false, Bool.or_eq_false_iff, beq_eq_false_iff_ne, ne_eq] at h3); (simp [h2, h3]; done))))
        (case hl => simp only [List.length_set]; exact hx2)
        (case he => (rw [blockF_succ, ← hx3]; (have e1 : (st + (i : Int) + l).toNat = 2 * R * b + i + R := (by omega)); (have e2 : (st + (i : Int)).toNat = 2 * R * b + i := (by omega)); dsimp only; rw [e1, e2]; rfl))
      · clear F2 N2
        intro q t u h tk hq F2 N2
        obtain ⟨xs, ys⟩ := q
        dsimp only at F2 N2 hq ⊢
        obtain ⟨hx1, hx2, hx3⟩ := hq
        dsimp only at hx1 hx2 hx3
        k_steps
        rename Fr _ _ _ _ => F3
        rename News _ _ _ _ => N3
        obtain ⟨tk3, ek3⟩ := fr_tok F3 (Str.ofString "k") (k' + 1) ⟨_, by with_unfolding_all rfl⟩
        obtain ⟨ts3, es3⟩ := fr_tok F3 (Str.ofString "start") (l + (st + (R : Int) - 1 + 1)) ⟨_, by with_unfolding_all rfl⟩
        refine' ksw_end ⟨xs, ys, k' + 1, tk3, l + (st + (R : Int) - 1 + 1), ts3⟩ F3 N3 ?kn trivial ?kk ?kr ?kp ?km
        (case kk => exact List.forall_mem_cons.mpr ⟨ek3, List.forall_mem_cons.mpr ⟨es3, List.forall_mem_nil _⟩⟩)
        (case kn => exact fun _ h => h)
        (case kr => (intro z h2 h3; (simp only [List.forall_mem_cons, List.not_mem_nil, false_implies, implies_true, and_true, ne_eq] at h2); (simp only [List.contains_cons, List.contains_nil, Bool.or_false, Bool.or_eq_false_iff, beq_eq_false_iff_ne, ne_eq] at h3); (simp [kstB, h2, h3]; done)))
        (case km => dsimp only; omega)
        (case kp => exact ⟨hx1, hx2, b + 1, f1, (by dsimp only; omega), (by dsimp only; rw [Nat.mul_add, Nat.mul_one]; omega), (by dsimp only; rw [layerF_succ, ← hjs, hx3, ← hzz, show k'.toNat = H + b by omega])⟩)
    · rename Fr _ _ _ _ => F3
      rename News _ _ _ _ => N3
      rename ¬ st < 256 => hst2
      have hbH : b = H := block_end hR hb (by omega)
      have hl7 : l.fdiv (2 ^ Int.toNat 1) = ((2 ^ (7 - (r + 1)) : Nat) : Int) := by rw [hl2, ← hRR]; exact half_pow r7
      obtain ⟨tl3, el3⟩ := fr_tok F3 (Str.ofString "l") (l.fdiv (2 ^ Int.toNat 1)) ⟨_, by with_unfolding_all rfl⟩
      refine' ksw_end ⟨us, js, k', tk2, l.fdiv (2 ^ Int.toNat 1), tl3⟩ F3 N3 ?kn trivial ?kk ?kr ?kp ?km
      (case kk => exact List.forall_mem_cons.mpr ⟨rfl, List.forall_mem_cons.mpr ⟨el3, List.forall_mem_nil _⟩⟩)
      (case kn => exact fun _ h => h)
      (case kr => (intro z h2 h3; (simp only [List.forall_mem_cons, List.not_mem_nil, false_implies, implies_true, and_true, ne_eq] at h2); (simp only [List.contains_cons, List.contains_nil, Bool.or_false, Bool.or_eq_false_iff, beq_eq_false_iff_ne, ne_eq] at h3); (simp [kstB, h2, h3]; done)))
      (case km => dsimp only; rw [hl7, hl2, ← hRR]; exact half_lt r7)
      (case kp => exact ⟨by first | exact hi2 | with_reducible assumption | assumption, hl3, r + 1, (by omega), (by dsimp only; rw [hk2, hbH, Nat.pow_succ, ← hHH]; omega), hl7, (by dsimp only; rw [fwdF_succ, ← hms, hHH, hRR, hjs, hbH])⟩)
  · rename Fr _ _ _ _ => F2
    rename News _ _ _ _ => N2
    rename IsRange _ _ _ _ _ _ _ _ => rg
    rename ¬ 2 ≤ l => h2l
    have hr7 : r = 7 := pow_end hr (by omega)
    unfold Stop
    (try k_unmd)
    k_fold
    with_unfolding_all refine' rangeL (σ := List Value × List Int) (n := 256) (fun q => [(c, W.listOf q.1.toArray n), (p, instObj 350 dpa), (dpa, polyDict w x c r1 r2), (z, W.listOf zs.toArray nz), (x, instObj 282 dx), (dx, ringDict w z t1 t2 t3 t4 t5 t6 t7), (a1, b1), (a2, b2)]) [] (fun i q => IntsAre q.1 q.2 ∧ q.2.length = 256 ∧ q.2 = modF i ms) (ws, ms) rfl rg (by decide) rfl (by decide) F2 N2 ?kp ?_ ?_
    (case kp => exact ⟨by first | exact hi1 | with_reducible assumption | assumption, hl1, rfl⟩)
    · clear F2 N2
      intro i q t u h tk own hi9 hoff hq F2 N2
      obtain ⟨xs, ys⟩ := q
      dsimp only at F2 N2 hq ⊢
      obtain ⟨hx1, hx2, hx3⟩ := hq
      simp only [List.cons_append, List.nil_append, List.map_cons, List.map_nil] at N2 hoff
      k_steps
      rename Fr _ _ _ _ => F3
      rename News _ _ _ _ => N3
      rename IntsAre _ _ => hx4
      refine' range_end (_, _) F3 N3 ?hn ?ho ?ha ?hx ?hr ⟨hx4, ?hl, ?he⟩
      (case hn => kst_in)
      (case ho => intro p hp; k_ownIn)
      (case ha => rfl)
      (case hx => exact ⟨_, by with_unfolding_all rfl⟩)
      (case hr => (intro z h2 h3; first | rfl | (simp [h2]; done)))
      (case hl => simp only [List.length_set]; exact hx2)
      (case he => (dsimp only; rw [modF_succ, ← hx3]; (have e1 : (0 + (i : Int)).toNat = i := (by omega)); rw [e1]))
    · clear F2 N2
      intro q t u h tk hq F2 N2
      obtain ⟨xs, ys⟩ := q
      dsimp only at F2 N2 hq ⊢
      obtain ⟨hx1, hx2, hx3⟩ := hq
      k_steps
      rename Fr _ _ _ _ => F4
      rename News _ _ _ _ => N4
      refine' hret _ _ xs _ _ _ _ F4 ?zb ?zc ?z1 ?z2 ?z3 ?z4 ?z5 ?z6 ?z7
      (case zb => exact cb_drop N4 (by kcj_all))
      (case zc => (have e : ys = toNtt ns := (by rw [hx3, hms, hr7]; rfl)); rw [← e]; exact hx1)
      all_goals (try dsimp only)
      all_goals omega
end
section
open PySem PySem.W PyProof.Rows PySem.Calls PyProof.V PySem.Spec
local macro_rules | `(tactic| walk_at "idle line 0") => `(tactic| fail)


/-- one butterfly back -/
noncomputable def ibfly (z : Int) (l : Nat) (cs : List Int) (j : Nat) : List Int :=
  (((cs.set j (cs.getD j 0 + cs.getD (j + l) 0)).set (j + l) ((cs.set j (cs.getD j 0 + cs.getD (j + l) 0)).getD (j + l) 0 - cs.getD j 0)).set (j + l)
    (z * (((cs.set j (cs.getD j 0 + cs.getD (j + l) 0)).set (j + l) ((cs.set j (cs.getD j 0 + cs.getD (j + l) 0)).getD (j + l) 0 - cs.getD j 0)).getD (j + l) 0)))
noncomputable def iblockF (z : Int) (l start i : Nat) (cs : List Int) : List Int := (List.range i).foldl (fun c i => ibfly z l c (start + i)) cs
noncomputable def ilayerF (l k b : Nat) (cs : List Int) : List Int := (List.range b).foldl (fun c b => iblockF (zetaL.getD (k - b) 0) l (2 * l * b) l c) cs
noncomputable def invF (r : Nat) (cs : List Int) : List Int := (List.range r).foldl (fun c r => ilayerF (2 ^ (r + 1)) (2 ^ (7 - r) - 1) (2 ^ (6 - r)) c) cs
noncomputable def mulF (i : Nat) (cs : List Int) : List Int := (List.range i).foldl (fun c j => c.set j (Int.fmod (c.getD j 0 * 3303) 3329)) cs
noncomputable def fromNtt (cs : List Int) : List Int := mulF 256 (invF 7 cs)
theorem iblockF_succ (z : Int) (l s i : Nat) (cs : List Int) : iblockF z l s (i + 1) cs = ibfly z l (iblockF z l s i cs) (s + i) := by simp [iblockF, List.range_succ, List.foldl_append]
theorem ilayerF_succ (l k b : Nat) (cs : List Int) : ilayerF l k (b + 1) cs = iblockF (zetaL.getD (k - b) 0) l (2 * l * b) l (ilayerF l k b cs) := by simp [ilayerF, List.range_succ, List.foldl_append]
theorem invF_succ (r : Nat) (cs : List Int) : invF (r + 1) cs = ilayerF (2 ^ (r + 1)) (2 ^ (7 - r) - 1) (2 ^ (6 - r)) (invF r cs) := by simp [invF, List.range_succ, List.foldl_append]
theorem mulF_succ (i : Nat) (cs : List Int) : mulF (i + 1) cs = (mulF i cs).set i (Int.fmod ((mulF i cs).getD i 0 * 3303) 3329) := by simp [mulF, List.range_succ, List.foldl_append]
theorem ipow_facts {r : Nat} (hr : r ≤ 7) (h : ((2 ^ (r + 1) : Nat) : Int) ≤ 128) : r ≤ 6 ∧ 2 ^ (r + 1) * 2 ^ (6 - r) = 128 ∧ 2 ^ (7 - r) = 2 * 2 ^ (6 - r) := by
  have : r = 0 ∨ r = 1 ∨ r = 2 ∨ r = 3 ∨ r = 4 ∨ r = 5 ∨ r = 6 ∨ r = 7 := by omega
  rcases this with e | e | e | e | e | e | e | e <;> subst e <;> simp at h ⊢
theorem ipow_end {r : Nat} (hr : r ≤ 7) (h : ¬ ((2 ^ (r + 1) : Nat) : Int) ≤ 128) : r = 7 := by
  have : r = 0 ∨ r = 1 ∨ r = 2 ∨ r = 3 ∨ r = 4 ∨ r = 5 ∨ r = 6 ∨ r = 7 := by omega
  rcases this with e | e | e | e | e | e | e | e <;> subst e <;> first | rfl | (exfalso; apply h; decide)
noncomputable def CsI.Ok' (R H : Nat) (ms : List Int) (q : CsI) : Prop := IntsAre q.vs q.ns ∧ q.ns.length = 256 ∧ ∃ b : Nat, b ≤ H ∧ q.k = ((2 * H : Nat) : Int) - 1 - (b : Int) ∧ q.st = ((2 * R * b : Nat) : Int) ∧ q.ns = ilayerF R (2 * H - 1) b ms
noncomputable def CsJ' (ze : Int) (R S : Nat) (ms : List Int) (i : Nat) (q : List Value × List Int) : Prop := IntsAre q.1 q.2 ∧ q.2.length = 256 ∧ q.2 = iblockF ze R S i ms
noncomputable def CsK.Ok' (ns : List Int) (q : CsK) : Prop := IntsAre q.vs q.ns ∧ q.ns.length = 256 ∧ ∃ r : Nat, r ≤ 7 ∧ q.k = ((2 ^ (7 - r) : Nat) : Int) - 1 ∧ q.l = ((2 ^ (r + 1) : Nat) : Int) ∧ q.ns = invF r ns
set_option maxRecDepth 100000 in
set_option maxHeartbeats 8000000 in
theorem fromNtt_spec (w : World) (mean : ExcName → Option Value) (mg mb : Str → Option Value)
  (dp un : Nat) (gd : Option (List Code)) (cn : Str) (cs : Scope) (a : Addr) (ccd : Value) (cl : List (Str × Addr)) (outer : List Env) (A₀ : Around) (base h₀ : Heap) (L : Addr) (m : Str → Option Value) (s : Shared) (Q E : Value → Shared → Prop)
  (p dpa c x dx z a1 : Addr) (b1 : Obj) (vs zs : List Value) (ns : List Int) (n nz : Nat) (t1 t2 t3 t4 t5 t6 t7 r1 r2 : Tok) :
  Below A₀ base outer h₀ → Fr h₀ L s.heap m → (pre.heap_1 w.params).In h₀ →
  News h₀ L s.heap [(c, W.listOf vs.toArray n), (p, instObj 426 dpa), (dpa, polyDict w x c r1 r2), (z, W.listOf zs.toArray nz), (x, instObj 282 dx), (dx, ringDict w z t1 t2 t3 t4 t5 t6 t7), (a1, b1)] →
  Top vw (looseW vw [Str.ofString "PolynomialRing", Str.ofString "PolynomialNTT"]) mean mg mb h₀ → cs.kind = .function → dp + 8 < recursionLimit → un + 64 < cLine →
  IntsAre vs ns → ns.length = 256 → IntsAre zs zetaL → @Ne Nat c p → @Ne Nat c dpa → @Ne Nat c z → @Ne Nat c x → @Ne Nat c dx → @Ne Nat c a1 →
  (∀ (q dq : Addr) (vs' : List Value) (r3 r4 : Tok) (h' : Heap) (tk' : Nat), Fr h₀ L h' m →
    News h₀ L h' [(q, instObj 350 dq), (dq, polyDict w x c r3 r4), (c, W.listOf vs'.toArray n), (z, W.listOf zs.toArray nz), (x, instObj 282 dx), (dx, ringDict w z t1 t2 t3 t4 t5 t6 t7), (a1, b1)] →
    IntsAre vs' (fromNtt ns) → @LT.lt Nat _ c dq → @LT.lt Nat _ z dq → @LT.lt Nat _ x dq → @LT.lt Nat _ dx dq → @LT.lt Nat _ a1 dq → @LT.lt Nat _ dq q → Q (.ref q) { s with heap := h', toks := tk' }) →
  wpAny (model PySem.Challenge.rw_yi0060_01.row.prog w) (ktrTop dp un gd cn cs L a ccd cl outer) (call (.ref 380) [.ref p]) Q E s := by
  k_fill
  intro B F X N T hk hd hu hi hlen hz d1 d2 d3 d4 d5 d6 hret
  refine wpAny_call ?_
  k_dflt k_enter
  k_steps
  rename Fr _ _ _ _ => F1
  rename News _ _ _ _ => N1
  unfold Stop
  k_fold
  obtain ⟨tk0, ek0⟩ := fr_tok F1 (Str.ofString "k") (128 - 1) ⟨_, by with_unfolding_all rfl⟩
  obtain ⟨tl0, el0⟩ := fr_tok F1 (Str.ofString "l") 2 ⟨_, by with_unfolding_all rfl⟩
  with_unfolding_all refine' ksw_while (σ := CsK) (fun q => [(c, W.listOf q.vs.toArray n), (p, instObj 426 dpa), (dpa, polyDict w x c r1 r2), (z, W.listOf zs.toArray nz), (x, instObj 282 dx), (dx, ringDict w z t1 t2 t3 t4 t5 t6 t7), (a1, b1)]) (fun q => [(Str.ofString "k", .int q.k q.tk), (Str.ofString "l", .int q.l q.tl)]) (fun _ => True) [Str.ofString "start", Str.ofString "zeta", Str.ofString "j", Str.ofString "t"] (CsK.Ok' ns) (fun q => 256 - q.l.toNat) ⟨vs, ns, 128 - 1, tk0, 2, tl0⟩ F1 ?kn trivial ?kk ?kp ?_
  (case kn => exact cb_drop N1 (by kcj_all))
  (case kk => with_unfolding_all exact List.forall_mem_cons.mpr ⟨ek0, List.forall_mem_cons.mpr ⟨el0, List.forall_mem_nil _⟩⟩)
  (case kp => exact ⟨hi, hlen, 0, by decide, rfl, rfl, rfl⟩)
  clear F1 N1 ek0 el0
  intro q u h tk _ hq F1 N1
  obtain ⟨ws, ms, k, tk1, l, tl⟩ := q
  dsimp only at F1 N1 hq ⊢
  obtain ⟨hi1, hl1, r, hr, hk1, hl2, hms⟩ := hq
  dsimp only at hi1 hl1 hk1 hl2 hms
  k_steps
  · rename Fr _ _ _ _ => F1
    rename News _ _ _ _ => N1
    rename l ≤ 128 => h2l
    unfold Stop
    k_fold
    obtain ⟨ts0, es0⟩ := fr_tok F1 (Str.ofString "start") 0 ⟨_, by with_unfolding_all rfl⟩
    obtain ⟨r7, hR, hH2⟩ : r ≤ 6 ∧ 2 ^ (r + 1) * 2 ^ (6 - r) = 128 ∧ 2 ^ (7 - r) = 2 * 2 ^ (6 - r) := ipow_facts hr (by omega)
    have hR2 : 2 ≤ 2 ^ (r + 1) := by rw [Nat.pow_succ]; have := Nat.two_pow_pos r; omega
    generalize hRR : 2 ^ (r + 1) = R at *
    generalize hHH : 2 ^ (6 - r) = H at *
    with_unfolding_all refine' ksw_while (σ := CsI) (fun q => [(c, W.listOf q.vs.toArray n), (p, instObj 426 dpa), (dpa, polyDict w x c r1 r2), (z, W.listOf zs.toArray nz), (x, instObj 282 dx), (dx, ringDict w z t1 t2 t3 t4 t5 t6 t7), (a1, b1)]) (fun q => [(Str.ofString "k", .int q.k q.tk), (Str.ofString "start", .int q.st q.ts)]) (fun _ => True) [Str.ofString "zeta", Str.ofString "j", Str.ofString "t"] (CsI.Ok' R H ms) (fun q => (256 - q.st).toNat) ⟨ws, ms, k, tk1, 0, ts0⟩ F1 ?kn trivial ?kk ?kp ?_
    (case kn => exact N1)
    (case kk => with_unfolding_all exact List.forall_mem_cons.mpr ⟨rfl, List.forall_mem_cons.mpr ⟨es0, List.forall_mem_nil _⟩⟩)
    (case kp => exact ⟨by first | exact hi1 | with_reducible assumption | assumption, hl1, 0, Nat.zero_le _, by dsimp only; omega, by simp, rfl⟩)
    clear F1 N1 es0
    intro q u h tk _ hq F1 N1
    obtain ⟨us, js, k', tk2, st, ts⟩ := q
    dsimp only at F1 N1 hq ⊢
    obtain ⟨hi2, hl3, b, hb, hk2, hst, hjs⟩ := hq
    dsimp only at hi2 hl3 hk2 hst hjs
    have hzl := zetaL_len
    have hfb : st < 256 → b < H ∧ 0 ≤ k' ∧ k' < 128 ∧ 0 ≤ st ∧ st + 2 * l ≤ 256 ∧ l ≤ 128 := fun h9 => by
      obtain ⟨f1, f2, f3, f4⟩ := inner_facts hR hb hR2 (by omega)
      have f5 : 2 * H ≤ 128 := by have := Nat.mul_le_mul hR2 (Nat.le_refl H); omega
      exact ⟨f1, by omega, by omega, by omega, by omega, by omega⟩
    have hze := zetaL_small k'.toNat
    k_steps
    · rename Fr _ _ _ _ => F2
      rename News _ _ _ _ => N2
      rename IsRange _ _ _ _ _ _ _ _ => rg
      rename st < 256 => hst2
      obtain ⟨f1, f2, f3, f4, f5, f6⟩ := hfb hst2
      unfold Stop
      k_fold
      generalize hzz : zetaL.getD k'.toNat 0 = ze at *
      with_unfolding_all refine' rangeL (σ := List Value × List Int) (n := R) (fun q => [(c, W.listOf q.1.toArray n), (p, instObj 426 dpa), (dpa, polyDict w x c r1 r2), (z, W.listOf zs.toArray nz), (x, instObj 282 dx), (dx, ringDict w z t1 t2 t3 t4 t5 t6 t7), (a1, b1)]) [Str.ofString "t"] (CsJ' ze R (2 * R * b) js) (us, js) rfl rg (small_one (by omega) (by omega) (by omega) (by omega)) ((rangeSize_nat _ _).trans (by omega)) (by omega) F2 N2 ?kp ?_ ?_
      (case kp => exact ⟨by first | exact hi2 | with_reducible assumption | assumption, hl3, rfl⟩)
      · clear F2 N2
        intro i q t u h tk own hi9 hoff hq F2 N2
        obtain ⟨xs, ys⟩ := q
        dsimp only at F2 N2 hq ⊢
        obtain ⟨hx1, hx2, hx3⟩ := hq
        dsimp only at hx1 hx2 hx3
        simp only [List.cons_append, List.nil_append, List.map_cons, List.map_nil] at N2 hoff
        k_steps
        rename Fr _ _ _ _ => F3
        rename News _ _ _ _ => N3
        rename IntsAre _ _ => hx4
        refine' range_end (_, _) F3 N3 ?hn ?ho ?ha ?hx ?hr ⟨hx4, ?hl, ?he⟩
        (case hn => kst_in)
        (case ho => intro p hp; k_ownIn)
        (case ha => rfl)
        (case hx => exact ⟨_, by with_unfolding_all rfl⟩)
        (case hr => (intro z h2 h3; first | rfl | ((simp only [List.contains_cons, List.contains_nil, Bool.or_false, Bool.or_eq_false_iff, beq_eq_false_iff_ne, ne_eq] at h3); (simp [h2, h3]; done))))
        (case hl => simp only [List.length_set]; exact hx2)
        (case he => (rw [iblockF_succ, ← hx3]; (have e1 : (st + (i : Int) + l).toNat = 2 * R * b + i + R := (by omega)); (have e2 : (st + (i : Int)).toNat = 2 * R * b + i := (by omega)); dsimp only; rw [e1, e2]; rfl))
      · clear F2 N2
        intro q t u h tk hq F2 N2
        obtain ⟨xs, ys⟩ := q
        dsimp only at F2 N2 hq ⊢
        obtain ⟨hx1, hx2, hx3⟩ := hq
        dsimp only at hx1 hx2 hx3
        k_steps
        rename Fr _ _ _ _ => F3
        rename News _ _ _ _ => N3
        obtain ⟨tk3, ek3⟩ := fr_tok F3 (Str.ofString "k") (k' - 1) ⟨_, by with_unfolding_all rfl⟩
        obtain ⟨ts3, es3⟩ := fr_tok F3 (Str.ofString "start") ((st + (R : Int) - 1) + l + 1) ⟨_, by with_unfolding_all rfl⟩
        refine' ksw_end ⟨xs, ys, k' - 1, tk3, (st + (R : Int) - 1) + l + 1, ts3⟩ F3 N3 ?kn trivial ?kk ?kr ?kp ?km
        (case kk => exact List.forall_mem_cons.mpr ⟨ek3, List.forall_mem_cons.mpr ⟨es3, List.forall_mem_nil _⟩⟩)
        (case kn => exact fun _ h => h)
        (case kr => (intro z h2 h3; (simp only [List.forall_mem_cons, List.not_mem_nil, false_implies, implies_true, and_true, ne_eq] at h2); (simp only [List.contains_cons, List.contains_nil, Bool.or_false, Bool.or_eq_false_iff, beq_eq_false_iff_ne, ne_eq] at h3); (simp [kstB, h2, h3]; done)))
        (case km => dsimp only; omega)
        (case kp => exact ⟨hx1, hx2, b + 1, f1, (by dsimp only; omega), (by dsimp only; rw [Nat.mul_add, Nat.mul_one]; omega), (by dsimp only; rw [ilayerF_succ, ← hjs, hx3, ← hzz, show k'.toNat = 2 * H - 1 - b by omega])⟩)
    · rename Fr _ _ _ _ => F3
      rename News _ _ _ _ => N3
      rename ¬ st < 256 => hst2
      have hbH : b = H := block_end hR hb (by omega)
      have hl7 : l * 2 ^ Int.toNat 1 = ((2 ^ (r + 1 + 1) : Nat) : Int) := by rw [hl2, ← hRR, Nat.pow_succ 2 (r + 1)]; simp
      obtain ⟨tl3, el3⟩ := fr_tok F3 (Str.ofString "l") (l * 2 ^ Int.toNat 1) ⟨_, by with_unfolding_all rfl⟩
      refine' ksw_end ⟨us, js, k', tk2, l * 2 ^ Int.toNat 1, tl3⟩ F3 N3 ?kn trivial ?kk ?kr ?kp ?km
      (case kk => exact List.forall_mem_cons.mpr ⟨rfl, List.forall_mem_cons.mpr ⟨el3, List.forall_mem_nil _⟩⟩)
      (case kn => exact fun _ h => h)
      (case kr => (intro z h2 h3; (simp only [List.forall_mem_cons, List.not_mem_nil, false_implies, implies_true, and_true, ne_eq] at h2); (simp only [List.contains_cons, List.contains_nil, Bool.or_false, Bool.or_eq_false_iff, beq_eq_false_iff_ne, ne_eq] at h3); (simp [kstB, h2, h3]; done)))
      (case km => dsimp only; rw [hl7, hl2, Nat.pow_succ 2 (r + 1), hRR]; omega)
      (case kp => exact ⟨by first | exact hi2 | with_reducible assumption | assumption, hl3, r + 1, (by omega), (by dsimp only; rw [hk2, hbH, show 7 - (r + 1) = 6 - r by omega, hHH]; omega), hl7, (by dsimp only; rw [invF_succ, ← hms, hHH, hRR, hH2, hjs, hbH])⟩)
  · rename Fr _ _ _ _ => F2
    rename News _ _ _ _ => N2
    rename IsRange _ _ _ _ _ _ _ _ => rg
    rename ¬ l ≤ 128 => h2l
    have hr7 : r = 7 := ipow_end hr (by omega)
    unfold Stop
    (try k_unmd)
    k_fold
    with_unfolding_all refine' rangeL (σ := List Value × List Int) (n := 256) (fun q => [(c, W.listOf q.1.toArray n), (p, instObj 426 dpa), (dpa, polyDict w x c r1 r2), (z, W.listOf zs.toArray nz), (x, instObj 282 dx), (dx, ringDict w z t1 t2 t3 t4 t5 t6 t7), (a1, b1)]) [] (fun i q => IntsAre q.1 q.2 ∧ q.2.length = 256 ∧ q.2 = mulF i ms) (ws, ms) rfl rg (by decide) rfl (by decide) F2 N2 ?kp ?_ ?_
    (case kp => exact ⟨by first | exact hi1 | with_reducible assumption | assumption, hl1, rfl⟩)
    · clear F2 N2
      intro i q t u h tk own hi9 hoff hq F2 N2
      obtain ⟨xs, ys⟩ := q
      dsimp only at F2 N2 hq ⊢
      obtain ⟨hx1, hx2, hx3⟩ := hq
      simp only [List.cons_append, List.nil_append, List.map_cons, List.map_nil] at N2 hoff
      k_steps
      rename Fr _ _ _ _ => F3
      rename News _ _ _ _ => N3
      rename IntsAre _ _ => hx4
      refine' range_end (_, _) F3 N3 ?hn ?ho ?ha ?hx ?hr ⟨hx4, ?hl, ?he⟩
      (case hn => kst_in)
      (case ho => intro p hp; k_ownIn)
      (case ha => rfl)
      (case hx => exact ⟨_, by with_unfolding_all rfl⟩)
      (case hr => (intro z h2 h3; first | rfl | (simp [h2]; done)))
      (case hl => simp only [List.length_set]; exact hx2)
      (case he => (dsimp only; rw [mulF_succ, ← hx3]; (have e1 : (0 + (i : Int)).toNat = i := (by omega)); rw [e1]))
    · clear F2 N2
      intro q t u h tk hq F2 N2
      obtain ⟨xs, ys⟩ := q
      dsimp only at F2 N2 hq ⊢
      obtain ⟨hx1, hx2, hx3⟩ := hq
      k_steps
      rename Fr _ _ _ _ => F4
      rename News _ _ _ _ => N4
      refine' hret _ _ xs _ _ _ _ F4 ?zb ?zc ?z1 ?z2 ?z3 ?z4 ?z5 ?z6
      (case zb => exact cb_drop N4 (by kcj_all))
      (case zc => (have e : ys = fromNtt ns := (by rw [hx3, hms, hr7]; rfl)); rw [← e]; exact hx1)
      all_goals (try dsimp only)
      all_goals omega
end
section
open PySem PySem.W PyProof.Rows PySem.Calls PyProof.V PySem.Spec


noncomputable def bm0 (a0 a1 b0 b1 z : Int) : Int := Int.fmod (a0 * b0 + z * a1 * b1) 3329
noncomputable def bm1 (a0 a1 b0 b1 : Int) : Int := Int.fmod (a1 * b0 + a0 * b1) 3329
theorem mul_small {z a : Int} (h1 : -3329 < z) (h2 : z < 3329) (h3 : 0 ≤ a) (h4 : a < 3329) : -11082241 < z * a ∧ z * a < 11082241 := by
  have ha : z.natAbs * a.natAbs ≤ 3328 * 3328 := Nat.mul_le_mul (by omega) (by omega)
  rw [← Int.natAbs_mul] at ha
  omega
noncomputable abbrev tupObj (r0 r1 : Int) (t0 t1 : Tok) : Obj := { cls := Value.type "tuple", data := Data.seq #[Value.int r0 t0, Value.int r1 t1] }
set_option maxRecDepth 100000 in
set_option maxHeartbeats 8000000 in
theorem base_spec (w : World) (mean : ExcName → Option Value) (mg mb : Str → Option Value)
  (dp un : Nat) (gd : Option (List Code)) (cn : Str) (cs : Scope) (a : Addr) (ccd : Value) (cl : List (Str × Addr)) (outer : List Env) (A₀ : Around) (base h₀ : Heap) (L : Addr) (m : Str → Option Value) (news : List (Addr × Obj)) (s : Shared) (Q E : Value → Shared → Prop)
  (a0 a1 b0 b1 ze : Int) (t1 t2 t3 t4 t5 : Tok) :
  Below A₀ base outer h₀ → Fr h₀ L s.heap m → (pre.heap_1 w.params).In h₀ → News h₀ L s.heap news →
  Top vw (looseW vw [Str.ofString "PolynomialRing", Str.ofString "PolynomialNTT"]) mean mg mb h₀ → cs.kind = .function → dp + 1 < recursionLimit → un + 8 < cLine →
  0 ≤ a0 → a0 < 3329 → 0 ≤ a1 → a1 < 3329 → -3329 < ze → ze < 3329 →
  (∀ (T : Addr) (r0 r1 : Tok) (h' : Heap) (tk' : Nat), Fr h₀ L h' m → News h₀ L h' ((T, tupObj (bm0 a0 a1 b0 b1 ze) (bm1 a0 a1 b0 b1) r0 r1) :: news) → (∀ p ∈ news, p.1 < T) → Q (.ref T) { s with heap := h', toks := tk' }) →
  wpAny (model PySem.Challenge.rw_yi0060_01.row.prog w) (ktrTop dp un gd cn cs L a ccd cl outer) (call (.ref 387) [.int a0 t1, .int a1 t2, .int b0 t3, .int b1 t4, .int ze t5]) Q E s := by
  k_fill
  intro B F X N T hk hd hu h1 h2 h3 h4 h5 h6 hret
  have h7 := mul_small h5 h6 h3 h4
  refine wpAny_call ?_
  k_dflt k_enter
  k_steps
  exact hret _ _ _ _ _ (by assumption) (by assumption) (by assumption)
end
section
open PySem PySem.W PyProof.Rows PySem.Calls PyProof.V PySem.Spec
set_option maxRecDepth 100000
section
variable {M : Model} {prog : Program} {w : World} {A : Around} {E : Value → Shared → Prop} {s : Shared} {h₀ h : Heap} {L D b : Addr} {m : Str → Option Value} {news news' : List (Addr × Obj)} {vs ws : List Value} {n n2 : Nat}
theorem inplace_seq {a b : Value} {T id : String} {Q : Value → Shared → Prop} (ha : s.TypeIs a T) (hb : s.TypeIs b T)
    (hi : typeLookup (.type T) (dunderI "add") = pure (some (.builtin id))) (hs : isSeqSlot (some (.builtin id)) = true) (hfill : fillsNumberSlot (.type T) "add" = pure false)
    (hc : wpAny M A (call (.builtin id) [a, b]) Q E s) : wpAny M A (inplaceOp .Add a b) Q E s := by
  unfold inplaceOp
  refine wpAny_holding ?_
  have hfi : fillsInplaceSlot (.type T) "add" (Operator.Add == .Add) = pure false := by
    unfold fillsInplaceSlot
    show (typeLookup (.type T) (dunderI "add") >>= fun fi => pure (fi.isSome && !isSeqSlot fi)) = pure false
    rw [hi, pure_bind, hs]; rfl
  have hsi : seqSlot? (.type T) (dunderI "add") = pure (some (.builtin id)) := PySem.seqSlot_of hi hs
  refine wpAny_bind (wpAny_typeOf ha (wpAny_bind (wpAny_of_eq hfi ?_)))
  show wpAny M A (if false = true then _ else _) Q E s
  rw [if_neg Bool.false_ne_true]
  refine wpAny_bind (wpAny_binaryOp1_none (nm := "add") ha hb hfill ?_)
  refine wpAny_bind (wpAny_of_eq hsi ?_)
  exact wpAny_bind (wpAny_rule hc)
theorem iadd_K {Q : Value → Shared → Prop} (F : Fr h₀ L s.heap m) (N : News h₀ L s.heap news) (hb : (b, W.listOf ws.toArray n2) ∈ news)
    (U : Upd D (W.listOf vs.toArray n) (W.listOf (vs ++ ws).toArray (n + 1)) news news') (hne : 0 < ws.length) (hz : vs.length + ws.length ≤ 1000000)
    (h : ∀ h', Fr h₀ L h' m → News h₀ L h' news' → Q (.ref D) { s with heap := h' }) : wpAny (model prog w) A (inplaceOp .Add (.ref D) (.ref b)) Q E s := by
  obtain ⟨pre, post, rfl, rfl, a, c⟩ := U.split
  have z := N (D, W.listOf vs.toArray n) (List.mem_append.mpr (.inr (.head _)))
  have z2 := (N _ hb).1
  have hd : ¬(!vs.toArray.isEmpty && Builtin.List.listTooLong (vs.toArray.size + ws.toArray.size)) = true := extend_door (by rw [sizeLine_eq]; simp only [List.size_toArray]; omega)
  refine inplace_seq (T := "list") ⟨_, z.1, rfl⟩ ⟨_, z2, rfl⟩ PySem.F.slot_list_iadd.lookup (by decide +kernel) noFill_list_add ?_
  refine call_meets PySem.F.slot_list_iadd ⟨_, z.1, rfl⟩ PySem.F.entry_list_iadd (PySem.F.args_list_iadd_2 _ _) (PySem.AutoSeq1.list___iadd___list_list_0 D vs.toArray n b ws.toArray n2 hd (by rw [sizeLine_eq]; simp only [List.size_toArray]; omega) (by rw [sizeLine_eq]; simp only [List.size_toArray]; omega)) ⟨z.1, z2, ?_⟩
  exact h _ (F.change (Heap.SameBut.update ..) z.2.1 z.2.2) (kl_turn (fun x => x ++ ws.toArray) N a c (by simp) (by simp; intro e; rw [e] at hne; exact absurd hne (Nat.lt_irrefl 0)))
end
end
section
open PySem PySem.W PyProof.Rows PySem.Calls PyProof.V PySem.Spec


local macro_rules | `(tactic| walk_at "call ref") => `(tactic| (k_here; (with_unfolding_all show wpAny _ _ (call (Value.ref 387) _) _ _ _); (try k_unmd); k_dflt (refine' base_spec _ _ _ _ _ _ _ _ _ _ _ _ _ _ _ _ _ _ _ _ _ _ _ _ _ _ _ _ _ _ _ _ ?k1 ?k2 ?k3 ?k4 ?k5 ?kK ?kd ?ku ?ka ?kb ?kc ?ke ?kf ?kg ?_; (case k1 => k_asm); (case k2 => k_asm); (case k3 => k_asm); (case k4 => k_asm); (case k5 => k_asm); (case kK => first | exact rfl | assumption); (case kd => ktr_room); (case ku => ktr_units); (case ka => omega); (case kb => omega); (case kc => omega); (case ke => omega); (case kf => omega); (case kg => omega)); intro T9 r9 r8 h9 tk9 F9 N9 l9; (try k_lt l9); (try dsimp only); (try k_fold)))
local macro_rules | `(tactic| walk_at "inplaceOp Add ref ref") => `(tactic| (k_here; (with_reducible show wpAny _ _ (inplaceOp Operator.Add (Value.ref _) (Value.ref _)) _ _ _); k_dflt (refine' iadd_K ?k1 ?k2 ?k3 ?k4 ?k5 ?k6 ?_; (case k1 => k_asm); (case k2 => k_asm); (case k3 => k_mem); (case k4 => k_upd); (case k5 => exact Nat.succ_pos _); (case k6 => (simp only [List.length_cons, List.length_nil]; omega))); intro h' F' N'; (try k_sweep)))
theorem news_names {h₀ h : Heap} {L a b : Addr} {oa ob : Obj} {rest : List (Addr × Obj)} (_N : News h₀ L h ((a, oa) :: (b, ob) :: rest)) : ∃ a' b' ob', a' = a ∧ b' = b ∧ ob' = ob := ⟨_, _, _, rfl, rfl, rfl⟩
noncomputable def mulTurn (f g : List Int) (i : Nat) : List Int :=
  [bm0 (f.getD (4 * i) 0) (f.getD (4 * i + 1) 0) (g.getD (4 * i) 0) (g.getD (4 * i + 1) 0) (zetaL.getD (64 + i) 0), bm1 (f.getD (4 * i) 0) (f.getD (4 * i + 1) 0) (g.getD (4 * i) 0) (g.getD (4 * i + 1) 0),
    bm0 (f.getD (4 * i + 2) 0) (f.getD (4 * i + 3) 0) (g.getD (4 * i + 2) 0) (g.getD (4 * i + 3) 0) (-zetaL.getD (64 + i) 0), bm1 (f.getD (4 * i + 2) 0) (f.getD (4 * i + 3) 0) (g.getD (4 * i + 2) 0) (g.getD (4 * i + 3) 0)]
noncomputable def mulP (f g : List Int) (i : Nat) : List Int := (List.range i).foldl (fun c i => c ++ mulTurn f g i) []
theorem mulP_succ (f g : List Int) (i : Nat) : mulP f g (i + 1) = mulP f g i ++ mulTurn f g i := by simp [mulP, List.range_succ, List.foldl_append]
theorem mulP_len (f g : List Int) (i : Nat) : (mulP f g i).length = 4 * i := by
  induction i with
  | zero => rfl
  | succ i ih => rw [mulP_succ, List.length_append, ih]; rfl
theorem mul_turn (f g : List Int) (i : Nat) : [bm0 (f.getD (4 * (0 + (i : Int)) + 0).toNat 0) (f.getD (4 * (0 + (i : Int)) + 1).toNat 0) (g.getD (4 * (0 + (i : Int)) + 0).toNat 0) (g.getD (4 * (0 + (i : Int)) + 1).toNat 0) (zetaL.getD (64 + (0 + (i : Int))).toNat 0),
    bm1 (f.getD (4 * (0 + (i : Int)) + 0).toNat 0) (f.getD (4 * (0 + (i : Int)) + 1).toNat 0) (g.getD (4 * (0 + (i : Int)) + 0).toNat 0) (g.getD (4 * (0 + (i : Int)) + 1).toNat 0),
    bm0 (f.getD (4 * (0 + (i : Int)) + 2).toNat 0) (f.getD (4 * (0 + (i : Int)) + 3).toNat 0) (g.getD (4 * (0 + (i : Int)) + 2).toNat 0) (g.getD (4 * (0 + (i : Int)) + 3).toNat 0) (-zetaL.getD (64 + (0 + (i : Int))).toNat 0),
    bm1 (f.getD (4 * (0 + (i : Int)) + 2).toNat 0) (f.getD (4 * (0 + (i : Int)) + 3).toNat 0) (g.getD (4 * (0 + (i : Int)) + 2).toNat 0) (g.getD (4 * (0 + (i : Int)) + 3).toNat 0)] = mulTurn f g i := by
  rw [mulTurn]
  have e0 : (4 * (0 + (i : Int)) + 0).toNat = 4 * i := by omega
  have e1 : (4 * (0 + (i : Int)) + 1).toNat = 4 * i + 1 := by omega
  have e2 : (4 * (0 + (i : Int)) + 2).toNat = 4 * i + 2 := by omega
  have e3 : (4 * (0 + (i : Int)) + 3).toNat = 4 * i + 3 := by omega
  have e4 : (64 + (0 + (i : Int))).toNat = 64 + i := by omega
  rw [e0, e1, e2, e3, e4]
theorem ints_turn {xs ws : List Value} {ys l l' : List Int} (e : l = l') (h1 : IntsAre xs ys) (h2 : IntsAre ws l) : IntsAre (xs ++ ws) (ys ++ l') := by rw [← e]; exact IntsAre.append h1 h2
set_option maxRecDepth 100000 in
set_option maxHeartbeats 8000000 in
theorem mul_spec (w : World) (mean : ExcName → Option Value) (mg mb : Str → Option Value)
  (dp un : Nat) (gd : Option (List Code)) (cn : Str) (cs : Scope) (a : Addr) (ccd : Value) (cl : List (Str × Addr)) (outer : List Env) (A₀ : Around) (base h₀ : Heap) (L : Addr) (m : Str → Option Value) (s : Shared) (Q E : Value → Shared → Prop)
  (f df cf g dg cg x dx z a1 a2 : Addr) (b1 b2 : Obj) (vf vg zs : List Value) (nf ng : List Int) (n1 n2 nz : Nat) (t1 t2 t3 t4 t5 t6 t7 r1 r2 r3 r4 : Tok) :
  Below A₀ base outer h₀ → Fr h₀ L s.heap m → (pre.heap_1 w.params).In h₀ →
  News h₀ L s.heap [(f, instObj 426 df), (df, polyDict w x cf r1 r2), (cf, W.listOf vf.toArray n1), (g, instObj 426 dg), (dg, polyDict w x cg r3 r4), (cg, W.listOf vg.toArray n2), (z, W.listOf zs.toArray nz), (x, instObj 282 dx), (dx, ringDict w z t1 t2 t3 t4 t5 t6 t7), (a1, b1), (a2, b2)] →
  Top vw (looseW vw [Str.ofString "PolynomialRing", Str.ofString "PolynomialNTT"]) mean mg mb h₀ → cs.kind = .function → dp + 12 < recursionLimit → un + 96 < cLine →
  IntsAre vf nf → nf.length = 256 → (∀ i, 0 ≤ nf.getD i 0 ∧ nf.getD i 0 < 3329) → IntsAre vg ng → ng.length = 256 → IntsAre zs zetaL →
  (∀ (p dpa c : Addr) (vs' : List Value) (n : Nat) (r5 r6 : Tok) (h' : Heap) (tk' : Nat), Fr h₀ L h' m →
    News h₀ L h' [(p, instObj 426 dpa), (dpa, polyDict w x c r5 r6), (c, W.listOf vs'.toArray n), (f, instObj 426 df), (df, polyDict w x cf r1 r2), (cf, W.listOf vf.toArray n1), (g, instObj 426 dg), (dg, polyDict w x cg r3 r4), (cg, W.listOf vg.toArray n2), (z, W.listOf zs.toArray nz), (x, instObj 282 dx), (dx, ringDict w z t1 t2 t3 t4 t5 t6 t7), (a1, b1), (a2, b2)] →
    IntsAre vs' (mulP nf ng 64) → @LT.lt Nat _ z c → @LT.lt Nat _ x c → @LT.lt Nat _ dx c → @LT.lt Nat _ a1 c → @LT.lt Nat _ a2 c → @LT.lt Nat _ c dpa → @LT.lt Nat _ dpa p → Q (.ref p) { s with heap := h', toks := tk' }) →
  wpAny (model PySem.Challenge.rw_yi0060_01.row.prog w) (ktrTop dp un gd cn cs L a ccd cl outer) (call (.ref 423) [.ref f, .ref g]) Q E s := by
  k_fill
  intro B F X N T hk hd hu hi1 hl1 hb hi2 hl2 hz hret
  refine wpAny_call ?_
  k_dflt k_enter
  k_steps
  rename Fr _ _ _ _ => F2
  rename News _ _ _ _ => N2
  rename IsRange _ _ _ _ _ _ _ _ => rg
  obtain ⟨la, lc, oc, ha, hc, ho⟩ := news_names N2
  subst ha
  have hzl := zetaL_len
  unfold Stop
  (try k_unmd)
  k_fold
  with_unfolding_all refine' rangeL (σ := List Value × List Int × Nat) (n := 64) (fun q => [(la, W.listOf q.1.toArray q.2.2), (f, instObj 426 df), (df, polyDict w x cf r1 r2), (cf, W.listOf vf.toArray n1), (g, instObj 426 dg), (dg, polyDict w x cg r3 r4), (cg, W.listOf vg.toArray n2), (z, W.listOf zs.toArray nz), (x, instObj 282 dx), (dx, ringDict w z t1 t2 t3 t4 t5 t6 t7), (a1, b1), (a2, b2)]) [Str.ofString "r0", Str.ofString "r1", Str.ofString "r2", Str.ofString "r3"] (fun i q => IntsAre q.1 q.2.1 ∧ q.2.1 = mulP nf ng i) ([], [], 0) rfl rg (by decide) rfl (by decide) F2 (cb_drop N2 ?kn) ?kp ?_ ?_
  (case kn => kcj_all)
  (case kp => exact ⟨.nil, rfl⟩)
  · clear F2 N2
    intro i q t u h tk own hi9 hoff hq F2 N2
    obtain ⟨xs, ys, n⟩ := q
    dsimp only at F2 N2 hq ⊢
    obtain ⟨hx1, hx2⟩ := hq
    have hlx := mulP_len nf ng i
    rw [← hx2] at hlx
    simp only [List.cons_append, List.nil_append, List.map_cons, List.map_nil] at N2 hoff
    have g0 := hb (4 * (0 + (i : Int)) + 0).toNat
    have g1 := hb (4 * (0 + (i : Int)) + 1).toNat
    have g2 := hb (4 * (0 + (i : Int)) + 2).toNat
    have g3 := hb (4 * (0 + (i : Int)) + 3).toNat
    have gz := zetaL_small (64 + (0 + (i : Int))).toNat
    have hlxs := hx1.length
    k_steps
    rename Fr _ _ _ _ => F3
    rename News _ _ _ _ => N3
    refine' range_end (_, ys ++ mulTurn nf ng i, _) F3 N3 ?hn ?ho ?ha ?hx ?hr ?hp
    (case hn => kcj_all)
    (case ho => intro p hp; k_ownIn)
    (case ha => rfl)
    (case hx => exact ⟨_, by with_unfolding_all rfl⟩)
    (case hr => (intro z h2 h3; by_cases h9 : z = Str.ofString "new_coeffs"; (case pos => (subst h9; with_unfolding_all rfl)); (case neg => ((simp only [List.contains_cons, List.contains_nil, Bool.or_false, Bool.or_eq_false_iff, beq_eq_false_iff_ne, ne_eq] at h3); (simp [h2, h3, h9]; done)))))
    (case hp => exact ⟨ints_turn (mul_turn nf ng i) hx1 (.cons _ _ (.cons _ _ (.cons _ _ (.cons _ _ .nil)))), by rw [hx2, mulP_succ]⟩)
  · clear F2 N2
    intro q t u h tk hq F2 N2
    obtain ⟨xs, ys, n⟩ := q
    dsimp only at F2 N2 hq ⊢
    obtain ⟨hx1, hx2⟩ := hq
    have hlx := mulP_len nf ng 64
    rw [← hx2] at hlx
    have hlxs := hx1.length
    k_steps
    rename Fr _ _ _ _ => F4
    rename News _ _ _ _ => N4
    refine' hret _ _ la xs _ _ _ _ _ F4 ?zb ?zc ?z1 ?z2 ?z3 ?z4 ?z5 ?z6 ?z7
    (case zb => exact cb_drop N4 (by kcj_all))
    (case zc => rw [← hx2]; exact hx1)
    all_goals (try dsimp only)
    all_goals omega
end
section
open PySem PySem.W PyProof.Rows PySem.Calls PyProof.V PySem.Spec

local macro_rules | `(tactic| walk_at "exec For Name Call cons nil") => `(tactic| (k_here; (rename Fr _ _ _ _ => lF'); (with_unfolding_all refine' For_invVF lF' ?k1 ?k2 ?_; (case k1 => exact rfl); (case k2 => exact rfl); k_whole)))
local macro_rules | `(tactic| walk_at "exec For Name Name cons nil") => `(tactic| (k_here; (rename Fr _ _ _ _ => lF'); (with_unfolding_all refine' For_invVF lF' ?k1 ?k2 ?_; (case k1 => exact rfl); (case k2 => exact rfl); k_whole)))
theorem all_ne {d : Addr} {l : List (Addr × Obj)} (h : AllLt d l) : ∀ p ∈ l, p.1 ≠ d := fun p hp => Nat.ne_of_lt (ktn_ltOf h p hp)
local macro_rules | `(tactic| k_all) => `(tactic| first | (refine' List.forall_mem_append.mpr ⟨?kal1, ?kal2⟩; (case kal1 => k_all); (case kal2 => k_all)) | exact all_ne (by assumption) | exact all_ne (And.right (by assumption)) | exact all_ne (And.right (And.right (by assumption))) | exact all_ne (And.right (And.right (And.right (by assumption)))) | exact all_ne (And.right (And.right (And.right (And.right (by assumption))))) | exact all_ne (And.right (And.right (And.right (And.right (And.right (by assumption)))))))
local macro_rules | `(tactic| walk_at "inplaceOp Add ref ref") => `(tactic| (k_here; (with_reducible show wpAny _ _ (inplaceOp Operator.Add (Value.ref _) (Value.ref _)) _ _ _); k_dflt (refine' iadd_K ?k1 ?k2 ?k3 ?k4 ?k5 ?k6 ?_; (case k1 => k_asm); (case k2 => k_asm); (case k3 => k_mem); (case k4 => k_upd); (case k5 => exact Nat.succ_pos _); (case k6 => (simp only [List.length_cons, List.length_nil]; omega))); intro h' F' N'; (try k_sweep)))
theorem news_name1 {h₀ h : Heap} {L a : Addr} {oa : Obj} {rest : List (Addr × Obj)} (_N : News h₀ L h ((a, oa) :: rest)) : ∃ a' r', a' = a ∧ r' = rest := ⟨_, _, rfl, rfl⟩
noncomputable def wideL (pre : List Int) : List Int := pre.flatMap fun e => [e.fdiv 2, e.fdiv 2 + 128]
structure RootS where
  la : Addr
  vs : List Value
  ns : List Int
  n : Nat
noncomputable def expsL (i : Nat) : List Int := (List.range i).foldl (fun l _ => wideL l) [128]
theorem expsL_succ (i : Nat) : expsL (i + 1) = wideL (expsL i) := by simp [expsL, List.range_succ, List.foldl_append]
theorem wideL_snoc (pre : List Int) (e : Int) : wideL (pre ++ [e]) = wideL pre ++ [e.fdiv 2, e.fdiv 2 + 128] := by simp [wideL]
theorem wideL_len (pre : List Int) : (wideL pre).length = 2 * pre.length := by
  induction pre with
  | nil => rfl
  | cons a r ih => simp only [wideL, List.flatMap_cons, List.length_append, List.length_cons, List.length_nil] at ih ⊢; omega
theorem expsL_len (i : Nat) : (expsL i).length = 2 ^ i := by
  induction i with
  | zero => rfl
  | succ i ih => rw [expsL_succ, wideL_len, ih, Nat.pow_succ]; omega
local macro_rules | `(tactic| walk_at "PostA") => `(tactic| (dsimp only [PostA]))
local macro_rules | `(tactic| walk_at "call builtin:pow") => `(tactic| (k_dflt (refine pow3 ?k1 (by decide) ?_); (case k1 => exact (by assumption : ∀ e : Int, e ∈ _ → 0 ≤ e) _ (by assumption)); (try dsimp only)))
noncomputable def rootsL : List Int := [17, 3312, 2761, 568, 583, 2746, 2649, 680, 1637, 1692, 723, 2606, 2288, 1041, 1100, 2229, 1409, 1920, 2662, 667, 3281, 48, 233, 3096, 756, 2573, 2156, 1173, 3015, 314, 3050, 279, 1703, 1626, 1651, 1678, 2789, 540, 1789, 1540, 1847, 1482, 952, 2377, 1461, 1868, 2687, 642, 939, 2390, 2308, 1021, 2437, 892, 2388, 941, 733, 2596, 2337, 992, 268, 3061, 641, 2688, 1584, 1745, 2298, 1031, 2037, 1292, 3220, 109, 375, 2954, 2549, 780, 2090, 1239, 1645, 1684, 1063, 2266, 319, 3010, 2773, 556, 757, 2572, 2099, 1230, 561, 2768, 2466, 863, 2594, 735, 2804, 525, 1092, 2237, 403, 2926, 1026, 2303, 1143, 2186, 2150, 1179, 2775, 554, 886, 2443, 1722, 1607, 1212, 2117, 1874, 1455, 1029, 2300, 2110, 1219, 2935, 394, 885, 2444, 2154, 1175]
theorem exps_facts : ∀ e : Int, e ∈ expsL 7 → 0 ≤ e := by decide +kernel
theorem roots_eq : (expsL 7).map (fun a => ((Builtin.powMod ((17 : Int) % 3329).toNat a.toNat (3329 : Int).toNat : Nat) : Int)) = rootsL := by decide +kernel
set_option maxRecDepth 100000 in
set_option maxHeartbeats 8000000 in
theorem roots_spec (w : World) (mean : ExcName → Option Value) (mg mb : Str → Option Value)
  (dp un : Nat) (gd : Option (List Code)) (cn : Str) (cs : Scope) (a : Addr) (ccd : Value) (cl : List (Str × Addr)) (outer : List Env) (A₀ : Around) (base h₀ : Heap) (L : Addr) (m : Str → Option Value) (news : List (Addr × Obj)) (s : Shared) (Q E : Value → Shared → Prop) :
  Below A₀ base outer h₀ → Fr h₀ L s.heap m → (pre.heap_1 w.params).In h₀ → News h₀ L s.heap news →
  Top vw (looseW vw [Str.ofString "PolynomialRing", Str.ofString "PolynomialNTT"]) mean mg mb h₀ → cs.kind = .function → dp + 4 < recursionLimit → un + 32 < cLine →
  (∀ (c : Addr) (vs : List Value) (n : Nat) (h' : Heap) (tk' : Nat), Fr h₀ L h' m → News h₀ L h' ((c, W.listOf vs.toArray n) :: news) → IntsAre vs rootsL → Q (.ref c) { s with heap := h', toks := tk' }) →
  wpAny (model PySem.Challenge.rw_yi0060_01.row.prog w) (ktrTop dp un gd cn cs L a ccd cl outer) (call (.ref 440) []) Q E s := by
  k_fill
  intro B F X N T hk hd hu hret
  refine wpAny_call ?_
  k_dflt k_enter
  k_steps
  rename Fr _ _ _ _ => F2
  rename News _ _ _ _ => N2
  rename IsRange _ _ _ _ _ _ _ _ => rg
  obtain ⟨la, rest, ha, hrest⟩ := news_name1 N2
  subst ha hrest
  rename ∀ p ∈ rest, p.1 < la => lz
  unfold Stop
  (try k_unmd)
  k_fold
  with_unfolding_all refine' rangeA (σ := RootS) (n := 7) (fun q => (q.la, W.listOf q.vs.toArray q.n) :: rest) (fun q => [(Str.ofString "row", .ref q.la)]) [Str.ofString "wide", Str.ofString "e"] (fun i q => IntsAre q.vs q.ns ∧ q.ns = expsL i ∧ (∀ p ∈ rest, p.1 < q.la)) ⟨la, [_], [128], 0⟩ rfl rg (by decide) rfl F2 N2 ?kk ?kp ?_ ?_
  (case kk => with_unfolding_all exact List.forall_mem_cons.mpr ⟨rfl, List.forall_mem_nil _⟩)
  (case kp => exact ⟨.cons _ _ .nil, rfl, lz⟩)
  · clear F2 N2 rg lz
    intro i q t u h tk I oI hi9 hoff hq F2 N2
    obtain ⟨ra, xs, ys, n⟩ := q
    dsimp only at F2 N2 hq ⊢ hoff
    obtain ⟨hx1, hx2, hx3⟩ := hq
    have hI : @Ne Nat ra I := hoff _ (.head _)
    have hrI : ∀ p ∈ rest, p.1 ≠ I := fun p hp => hoff p (.tail _ hp)
    have hl := expsL_len i
    k_steps
    rename Fr _ _ _ _ => F3
    rename News _ _ _ _ => N3
    unfold Stop
    (try k_unmd)
    k_fold
    obtain ⟨wa, rest', hwa, hrest'⟩ := news_name1 N3
    subst hwa
    rename I < wa ∧ ra < wa ∧ AllLt wa rest => l9
    have hlw : xs.length = ys.length := hx1.length
    have hly : ys.length ≤ 128 := by rw [hx2, hl]; exact Nat.le_trans (Nat.pow_le_pow_right (by decide) (show i ≤ 7 by omega)) (by decide)
    with_unfolding_all refine' kst_listL (σ := List Value × List Int × Nat) (vs := xs) (nn := n) (l := ra) (fun q => (wa, W.listOf q.1.toArray q.2.2) :: (I, oI) :: (ra, W.listOf xs.toArray n) :: rest) (fun _ => []) (fun q => IntsAre q.1 q.2.1) [] (fun pre q => q.2.1 = wideL pre) ([], [], 0) rfl ?zl hx1 F3 N3 .nil (fun _ hp => nomatch hp) rfl ?_ ?_
    (case zl => exact fun _ => .tail _ (.tail _ (.head _)))
    · clear F3 N3
      intro q pre post e te u h tk own heq hmem hoff9 hf hq F3 N3
      obtain ⟨us, js, n9⟩ := q
      dsimp only at F3 N3 hq hf hoff9 ⊢
      have hjl : us.length = js.length := hf.length
      have hjp : js.length = 2 * pre.length := by rw [hq, wideL_len]
      have hpl : pre.length ≤ 128 := by
        have := congrArg List.length heq
        rw [List.length_append, List.length_cons] at this
        omega
      simp only [List.cons_append, List.nil_append, List.map_cons, List.map_nil] at N3 hoff9
      k_steps
      rename Fr _ _ _ _ => F4
      rename News _ _ _ _ => N4
      refine' kst_end (_, js ++ [e.fdiv 2, e.fdiv 2 + 128], _) F4 N4 ?zn ?zo ?za ?zf ?zk ?zr ?zp
      (case zn => refine' List.forall_mem_cons.mpr ⟨by k_memK, List.forall_mem_cons.mpr ⟨by k_memK, List.forall_mem_cons.mpr ⟨by k_memK, ?_⟩⟩⟩; exact fun p hp => .tail _ (.tail _ (.tail _ (.tail _ (List.mem_append.mpr (.inl hp))))))
      (case zo => exact fun p hp => .tail _ (.tail _ (.tail _ (.tail _ (List.mem_append.mpr (.inr hp))))))
      (case za => rfl)
      (case zf => exact IntsAre.append hf (.cons _ _ (.cons _ _ .nil)))
      (case zk => exact fun _ hp => nomatch hp)
      (case zr => (intro z h1 h2 h3; by_cases h9 : z = Str.ofString "wide"; (case pos => (subst h9; with_unfolding_all rfl)); (case neg => (simp [kstB, h1, h9]; done))))
      (case zp => dsimp only; rw [wideL_snoc, hq])
    · clear F3 N3
      intro q u h tk hf hq F3 N3
      obtain ⟨us, js, n9⟩ := q
      dsimp only at F3 N3 hq hf ⊢
      k_steps
      rename Fr _ _ _ _ => F4
      rename News _ _ _ _ => N4
      refine' end_A ⟨wa, us, js, n9⟩ F4 N4 ?zi ?zn ?ze ?zk ?zr ?zp
      (case zi => exact .tail _ (.head _))
      (case zn => exact List.forall_mem_cons.mpr ⟨.head _, fun p hp => .tail _ (.tail _ (.tail _ hp))⟩)
      (case ze => exact List.forall_mem_cons.mpr ⟨by k_ne, hrI⟩)
      (case zk => with_unfolding_all exact List.forall_mem_cons.mpr ⟨rfl, List.forall_mem_nil _⟩)
      (case zr => (intro z h1 h2 h3; (simp only [List.forall_mem_cons, List.not_mem_nil, false_implies, implies_true, and_true, ne_eq] at h2); (simp only [List.contains_cons, List.contains_nil, Bool.or_false, Bool.or_eq_false_iff, beq_eq_false_iff_ne, ne_eq] at h3); (simp [kstB, h1, h2, h3]; done)))
      (case zp => exact ⟨hf, by dsimp only; rw [hq, hx2, expsL_succ], fun p hp => ktn_ltOf l9.2.2 p hp⟩)
  · clear F2 N2 rg lz
    intro q u h tk hq F2 N2
    obtain ⟨ra, xs, ys, n⟩ := q
    dsimp only at F2 N2 hq ⊢
    obtain ⟨hx1, hx2, hx3⟩ := hq
    have hl := expsL_len 7
    rw [← hx2] at hl
    have hlw : xs.length = ys.length := hx1.length
    have hpos : ∀ e : Int, e ∈ ys → 0 ≤ e := by rw [hx2]; exact exps_facts
    k_steps
    rename Fr _ _ _ _ => F4
    rename News _ _ _ _ => N4
    rename IntsAre _ _ => hx4
    rw [hx2, roots_eq] at hx4
    refine' hret _ _ _ _ _ F4 ?zb hx4
    (case zb => exact cb_drop N4 (List.forall_mem_cons.mpr ⟨by k_memK, fun p hp => .tail _ (.tail _ hp)⟩))
end
end
section
open PySem PySem.W PyProof.Rows PySem.Calls PyProof.V PySem.Spec


/-- a number of the script, or the place's own -/
noncomputable def draw (ns : List Int) (k : Int) : Int := if k < (ns.length : Int) then ns.getD k.toNat 0 else 62 + 11 * k + 23 * k * k
set_option maxRecDepth 100000 in
set_option maxHeartbeats 8000000 in
theorem draw_spec (w : World) (mean : ExcName → Option Value) (mg mb : Str → Option Value)
  (dp un : Nat) (gd : Option (List Code)) (cn : Str) (cs : Scope) (a : Addr) (ccd : Value) (cl : List (Str × Addr)) (outer : List Env) (A₀ : Around) (base h₀ : Heap) (L : Addr) (m : Str → Option Value) (news : List (Addr × Obj)) (s : Shared) (Q E : Value → Shared → Prop)
  (l : Addr) (vs : List Value) (ns : List Int) (k : Int) (t : Tok) :
  Below A₀ base outer h₀ → Fr h₀ L s.heap m → (pre.heap_1 w.params).In h₀ → News h₀ L s.heap news →
  Top vw (looseW vw [Str.ofString "PolynomialRing", Str.ofString "PolynomialNTT"]) mean mg mb h₀ → cs.kind = .function → dp + 1 < recursionLimit → un + 8 < cLine →
  base.IsList l vs.toArray → IntsAre vs ns → ns.length ≤ 63 → 0 ≤ k → k < 1000 →
  (∀ (t : Tok) (h' : Heap) (tk' : Nat), Fr h₀ L h' m → News h₀ L h' news → Q (.int (draw ns k) t) { s with heap := h', toks := tk' }) →
  wpAny (model PySem.Challenge.rw_yi0060_01.row.prog w) (ktrTop dp un gd cn cs L a ccd cl outer) (call (.ref 435) [.ref l, .int k t]) Q E s := by
  k_fill
  intro B F X N T hk hd hu hl hi hlen h1 h2 hret
  refine wpAny_call ?_
  k_dflt k_enter
  k_steps
  · have e : draw ns k = ns.getD k.toNat 0 := if_pos (by omega)
    rw [← e]
    exact hret _ _ _ (by assumption) (by assumption)
  · have e : draw ns k = 62 + 11 * k + 23 * k * k := if_neg (by omega)
    rw [← e]
    exact hret _ _ _ (by assumption) (by assumption)
end
section
open PySem PySem.W PyProof.Rows PySem.Calls PyProof.V PySem.Spec

local macro_rules | `(tactic| walk_at "call ref") => `(tactic| (k_here; (with_reducible refine' call_at 435 ?hf ?_); (case hf => k_dflt (exact rfl)); (try k_unmd); k_dflt (refine' draw_spec _ _ _ _ _ _ _ _ _ _ _ _ _ _ _ _ _ _ _ _ _ _ _ _ _ _ _ ?k1 ?k2 ?k3 ?k4 ?k5 ?kK ?kd ?ku ?ka ?kb ?kc ?ke ?kf ?_; (case k1 => k_asm); (case k2 => k_asm); (case k3 => k_asm); (case k4 => k_asm); (case k5 => k_asm); (case kK => first | exact rfl | assumption); (case kd => first | k_room | ktr_room); (case ku => first | exact Nat.le_of_ble_eq_true rfl | ktr_units); (case ka => k_asm); (case kb => k_asm); (case kc => k_asm); (case ke => omega); (case kf => omega)); intro t9 h9 tk9 F9 N9; (try dsimp only); (try k_fold)))
theorem compEnd_push {h₀ : Heap} {L I C D : Addr} {m : Str → Option Value} {s₁ : Shared} {oI oC oD : Obj} {rest : Value → List (Addr × Obj) → Prop} {y : Value} {h' : Heap} {tk : Nat} {t : Addr × Obj} {news : List (Addr × Obj)} {P : Prop}
    (F : Fr h₀ L h' m) (N : News h₀ L h' (t :: (I, oI) :: (C, oC) :: (D, oD) :: news)) (off : LCg.Off3 I C D news) (lt : @LT.lt Nat _ I t.1 ∧ @LT.lt Nat _ C t.1 ∧ @LT.lt Nat _ D t.1 ∧ P) (r : rest y (t :: news)) :
    LCg.CompEnd h₀ L m s₁ I oI C oC D oD (fun _ => True) rest y { s₁ with heap := h', toks := tk } := by
  refine LCg.CompEnd.intro F N (t :: news) ?_ ⟨⟨Ne.symm (Nat.ne_of_lt lt.1), Ne.symm (Nat.ne_of_lt lt.2.1), Ne.symm (Nat.ne_of_lt lt.2.2.1)⟩, off⟩ trivial r
  intro p hp
  simp only [List.mem_cons] at hp ⊢
  rcases hp with h | h | h | h | h
  · exact .inr (.inl h)
  · exact .inr (.inr (.inl h))
  · exact .inr (.inr (.inr (.inl h)))
  · exact .inl h
  · exact .inr (.inr (.inr (.inr h)))
local macro_rules | `(tactic| walk_at "CompEnd") => `(tactic| (k_here; k_dflt (refine compEnd_push (by assumption) (by assumption) (by assumption) (by assumption) ?_)))
theorem news_drop1 {h₀ : Heap} {L : Addr} {h : Heap} {a b x y : Addr × Obj} {l : List (Addr × Obj)} (N : News h₀ L h (a :: b :: x :: y :: l)) : News h₀ L h (a :: b :: l) := fun p hp => N p (by
  simp only [List.mem_cons] at hp ⊢
  rcases hp with h | h | h
  · exact .inl h
  · exact .inr (.inl h)
  · exact .inr (.inr (.inr (.inr h))))
theorem news_drop2 {h₀ : Heap} {L : Addr} {h : Heap} {a b c x y : Addr × Obj} {l : List (Addr × Obj)} (N : News h₀ L h (a :: c :: b :: x :: y :: l)) : News h₀ L h (a :: b :: c :: l) := fun p hp => N p (by
  simp only [List.mem_cons] at hp ⊢
  rcases hp with h | h | h | h
  · exact .inl h
  · exact .inr (.inr (.inl h))
  · exact .inr (.inl h)
  · exact .inr (.inr (.inr (.inr (.inr h)))))
local macro_rules | `(tactic| walk_at "CompSrc") => `(tactic| (k_here; k_dflt (refine LCg.CompSrc.range (n := 1) (by rfl) (by k_asm) (by k_asm) (by assumption) (by first | decide | rfl) (by first | rfl | decide) (by exact Nat.le_of_ble_eq_true rfl) ?_; intro g')))
set_option maxRecDepth 100000 in
set_option maxHeartbeats 4000000 in
theorem terms1_spec (w : World) (mean : ExcName → Option Value) (mg mb : Str → Option Value)
  (dp un : Nat) (gd : Option (List Code)) (cn : Str) (cs : Scope) (a : Addr) (ccd : Value) (cl : List (Str × Addr)) (outer : List Env) (A₀ : Around) (base h₀ : Heap) (L : Addr) (m : Str → Option Value) (news : List (Addr × Obj)) (s : Shared) (Q E : Value → Shared → Prop)
  (l : Addr) (vs : List Value) (ns : List Int) (t t' : Tok) :
  Below A₀ base outer h₀ → Fr h₀ L s.heap m → (pre.heap_1 w.params).In h₀ → News h₀ L s.heap news →
  Top vw (looseW vw [Str.ofString "PolynomialRing", Str.ofString "PolynomialNTT"]) mean mg mb h₀ → cs.kind = .function → dp + 4 < recursionLimit → un + 32 < cLine →
  base.IsList l vs.toArray → IntsAre vs ns → ns.length ≤ 63 →
  (∀ (c T : Addr) (n : Nat) (t0 t1 : Tok) (h' : Heap) (tk' : Nat), Fr h₀ L h' m → News h₀ L h' ((c, W.listOf #[.ref T] n) :: (T, tupObj ((draw ns 2).fmod 256) (draw ns 3) t0 t1) :: news) → @Ne Nat T c → Q (.ref c) { s with heap := h', toks := tk' }) →
  wpAny (model PySem.Challenge.rw_yi0060_01.row.prog w) (ktrTop dp un gd cn cs L a ccd cl outer) (call (.ref 452) [.ref l, .int 2 t, .int 1 t']) Q E s := by
  k_fill
  intro B F X N T hk hd hu hl hi hlen hret
  refine wpAny_call ?_
  k_dflt k_enter
  k_steps
  with_reducible rename News h₀ _ _ (_ :: _) => kN
  with_reducible rename Fr h₀ _ _ _ => kF
  with_reducible rename (@Ne Nat _ _) ∧ _ => o1
  exact hret _ _ _ _ _ _ _ kF (news_drop1 kN) o1.1
local macro_rules | `(tactic| walk_at "CompSrc") => `(tactic| (k_here; k_dflt (refine LCg.CompSrc.range (n := 2) (by rfl) (by k_asm) (by k_asm) (by assumption) (by first | decide | rfl) (by first | rfl | decide) (by exact Nat.le_of_ble_eq_true rfl) ?_; intro g')))
set_option maxRecDepth 100000 in
set_option maxHeartbeats 4000000 in
theorem terms2_spec (w : World) (mean : ExcName → Option Value) (mg mb : Str → Option Value)
  (dp un : Nat) (gd : Option (List Code)) (cn : Str) (cs : Scope) (a : Addr) (ccd : Value) (cl : List (Str × Addr)) (outer : List Env) (A₀ : Around) (base h₀ : Heap) (L : Addr) (m : Str → Option Value) (news : List (Addr × Obj)) (s : Shared) (Q E : Value → Shared → Prop)
  (l : Addr) (vs : List Value) (ns : List Int) (t t' : Tok) :
  Below A₀ base outer h₀ → Fr h₀ L s.heap m → (pre.heap_1 w.params).In h₀ → News h₀ L s.heap news →
  Top vw (looseW vw [Str.ofString "PolynomialRing", Str.ofString "PolynomialNTT"]) mean mg mb h₀ → cs.kind = .function → dp + 4 < recursionLimit → un + 32 < cLine →
  base.IsList l vs.toArray → IntsAre vs ns → ns.length ≤ 63 →
  (∀ (c T T' : Addr) (n : Nat) (t0 t1 t2 t3 : Tok) (h' : Heap) (tk' : Nat), Fr h₀ L h' m → News h₀ L h' ((c, W.listOf #[.ref T, .ref T'] n) :: (T, tupObj ((draw ns 2).fmod 256) (draw ns 3) t0 t1) :: (T', tupObj ((draw ns 4).fmod 256) (draw ns 5) t2 t3) :: news) → @Ne Nat T c → @Ne Nat T' c → @Ne Nat T T' → Q (.ref c) { s with heap := h', toks := tk' }) →
  wpAny (model PySem.Challenge.rw_yi0060_01.row.prog w) (ktrTop dp un gd cn cs L a ccd cl outer) (call (.ref 452) [.ref l, .int 2 t, .int 2 t']) Q E s := by
  k_fill
  intro B F X N T hk hd hu hl hi hlen hret
  refine wpAny_call ?_
  k_dflt k_enter
  k_steps
  with_reducible rename News h₀ _ _ (_ :: _) => kN
  with_reducible rename Fr h₀ _ _ _ => kF
  with_reducible rename (@Ne Nat _ _) ∧ _ => o1
  with_reducible rename (@LT.lt Nat _ _ _) ∧ _ => l1
  exact hret _ _ _ _ _ _ _ _ _ _ kF (news_drop2 kN) o1.2.1 o1.1 (Nat.ne_of_lt l1.2.2.2.1)
end
section
open PySem PySem.W PyProof.Rows PySem.Calls PyProof.V PySem.Spec
section
variable {prog : Program} {w : World} {A : Around} {E : Value → Shared → Prop} {s : Shared} {env : Env} {h₀ : Heap} {target : Expr} {body : List Stmt} {Q : Flow → Shared → Prop}
noncomputable def TupEnd {σ : Type} (h₀ : Heap) (L : Addr) (Led : σ → List (Addr × Obj)) (stored : List Str) (m₀ : Str → Option Value) (P : Nat → σ → Prop) (i : Nat) (own : List (Addr × Obj)) (adr : List Addr) (s₁ s₂ : Shared) : Prop :=
  ∃ (c : σ) (h' : Heap) (tk : Nat) (m' : Str → Option Value) (news' : List (Addr × Obj)), s₂ = { s₁ with heap := h', toks := tk } ∧ Fr h₀ L h' m' ∧ News h₀ L h' news' ∧ (∀ p ∈ Led c, p ∈ news') ∧ (∀ p ∈ own, p ∈ news') ∧ (Led c).map (·.1) = adr ∧
    (∀ z, stored.contains z = false → m' z = m₀ z) ∧ P i c
noncomputable def TupPost {σ : Type} (h₀ : Heap) (L : Addr) (Led : σ → List (Addr × Obj)) (stored : List Str) (m₀ : Str → Option Value) (P : Nat → σ → Prop) (i : Nat) (own : List (Addr × Obj)) (adr : List Addr) (s₁ : Shared) (Q : Flow → Shared → Prop) (f : Flow) (s₂ : Shared) : Prop :=
  match f with
  | .ret v => Q (.ret v) s₂
  | .brk => Q .next s₂
  | _ => TupEnd h₀ L Led stored m₀ P i own adr s₁ s₂
noncomputable def TupJ {σ : Type} (Led : σ → List (Addr × Obj)) (stored : List Str) (m₀ : Str → Option Value) (P : Nat → σ → Prop) (adr : List Addr) (i : Nat) (m : Str → Option Value) (nx : List (Addr × Obj)) : Prop :=
  ∃ c : σ, nx = Led c ∧ (Led c).map (·.1) = adr ∧ P i c ∧ ∀ z, stored.contains z = false → m z = m₀ z
theorem tup_fr {L : Addr} {h : Heap} {stored : List Str} {m₀ m₁ : Str → Option Value} (h2 : ∀ z, stored.contains z = false → m₁ z = m₀ z) (F : Fr h₀ L h m₁) : Fr h₀ L h (fun y => if stored.contains y = true then m₁ y else m₀ y) := by
  have em : (fun y => if stored.contains y = true then m₁ y else m₀ y) = m₁ := by
    funext y
    cases h3 : stored.contains y with
    | true => simp
    | false => simp only [Bool.false_eq_true, if_false]; exact (h2 y h3).symm
  rw [em]
  exact F
theorem unr_inv {P₀ : Nat → Value → Prop} {fp : List Addr} {n : Nat} {J : Nat → (Str → Option Value) → List (Addr × Obj) → Prop}
    (turn : ∀ i m₁ news₁ v h₁ tk₁ own, i < n → J i m₁ news₁ → P₀ i v → (∀ p ∈ own, p.1 ∈ fp) → Fr h₀ env.locals h₁ m₁ → News h₀ env.locals h₁ (own ++ news₁) →
      wpAny (model prog w) A (assign target env v) (fun _ s₂ => wpAny (model prog w) A (execs body env)
        (LoopStep3 h₀ env.locals own news₁ (J (i + 1)) { s with heap := h₁, toks := tk₁ } (fun v s' => Q (.ret v) s') fun s' => Q .next s') E s₂) E { s with heap := h₁, toks := tk₁ })
    (done : ∀ m₁ news₁ h' tk, J n m₁ news₁ → Fr h₀ env.locals h' m₁ → News h₀ env.locals h' news₁ → Q .next { s with heap := h', toks := tk }) :
    ∀ k i m₁ news₁, k + i = n → J i m₁ news₁ → Unr prog w A E h₀ env target body Q P₀ fp s k i m₁ news₁ := by
  intro k
  induction k with
  | zero =>
    intro i m₁ news₁ e j
    have e' : i = n := by omega
    subst e'
    exact fun h' tk F N => done _ _ h' tk j F N
  | succ k ih =>
    intro i m₁ news₁ e j v h₁ tk₁ own a b c d
    refine wpAny_mono (turn i m₁ news₁ v h₁ tk₁ own (by omega) j a b c d) (fun _ s₂ h₂ => wpAny_mono h₂ (fun f s₃ h₃ => ?_) fun _ _ e => e) fun _ _ e => e
    cases f with
    | ret v => exact h₃
    | brk => exact h₃
    | cont =>
      obtain ⟨e0, h₃', tk₃, m₂, news₂, e1, F₃, N₃, ha₃, hJ₃⟩ := h₃
      exact ⟨e0, h₃', tk₃, m₂, news₂, e1, F₃, N₃, ha₃, ih (i + 1) m₂ news₂ (by omega) hJ₃⟩
    | next =>
      obtain ⟨e0, h₃', tk₃, m₂, news₂, e1, F₃, N₃, ha₃, hJ₃⟩ := h₃
      exact ⟨e0, h₃', tk₃, m₂, news₂, e1, F₃, N₃, ha₃, ih (i + 1) m₂ news₂ (by omega) hJ₃⟩
theorem tupL {σ : Type} {t : Addr} {items : Array Value} {m₀ : Str → Option Value} (Led : σ → List (Addr × Obj)) (stored : List Str) (P : Nat → σ → Prop) (c₀ : σ)
    (hh : A.handled = none) (ht : s.heap.IsList t items) (htL : t ≠ env.locals) (F : Fr h₀ env.locals s.heap m₀) (N : News h₀ env.locals s.heap (Led c₀)) (hp : P 0 c₀)
    (turn : ∀ (i : Nat) (c : σ) v (u : Str → Option Value) h tk own, items[i]? = some v → (∀ a ∈ (Led c₀).map (·.1), a ≠ t → ∀ p ∈ own, p.1 ≠ a) → P i c →
      Fr h₀ env.locals h (fun y => if stored.contains y = true then u y else m₀ y) → News h₀ env.locals h (Led c ++ own) →
      wpAny (model prog w) A (assign target env v) (fun _ s₂ => wpAny (model prog w) A (execs body env) (TupPost h₀ env.locals Led stored m₀ P (i + 1) own ((Led c₀).map (·.1)) { s with heap := h, toks := tk } Q) E s₂) E { s with heap := h, toks := tk })
    (done : ∀ (c : σ) (u : Str → Option Value) h tk, P items.size c → Fr h₀ env.locals h (fun y => if stored.contains y = true then u y else m₀ y) → News h₀ env.locals h (Led c) → Q .next { s with heap := h, toks := tk }) :
    wpAny (model prog w) A (pyIter (.ref t)) (fun it s₂ => UnrAt prog w A h₀ env target body Q E it s₂) E s := by
  refine Iter_list_unr hh ht F N htL ?_
  refine unr_inv (n := items.size) (J := TupJ Led stored m₀ P ((Led c₀).map (·.1))) ?_ ?_ items.size 0 m₀ (Led c₀) (Nat.add_zero _) ⟨c₀, rfl, rfl, hp, fun _ _ => rfl⟩
  · rintro i m₁ news₁ v h₁ tk₁ own hi ⟨c, rfl, had, hP, hm⟩ hv hown F₁ N₁
    have hoff : ∀ a ∈ (Led c₀).map (·.1), a ≠ t → ∀ p ∈ own, p.1 ≠ a := by
      intro a ha hat p hp e
      obtain ⟨q, hq, hqa⟩ := List.mem_map.mp ha
      rcases List.mem_cons.mp (hown p hp) with h | h
      · have z := Heap.lt_size (N q hq).1
        rw [hqa, ← e, h] at z
        exact Nat.lt_irrefl _ z
      · exact hat (e ▸ List.mem_singleton.mp h)
    have N₂ : News h₀ env.locals h₁ (Led c ++ own) := fun p hp => N₁ p (List.mem_append.mpr ((List.mem_append.mp hp).symm))
    refine wpAny_mono (turn i c v m₁ h₁ tk₁ own hv hoff hP (tup_fr hm F₁) N₂) (fun _ s₂ p => wpAny_mono p (fun f s₃ q => ?_) fun _ _ e => e) fun _ _ e => e
    have fin : TupEnd h₀ env.locals Led stored m₀ P (i + 1) own ((Led c₀).map (·.1)) { s with heap := h₁, toks := tk₁ } s₃ → LoopStep2 h₀ env.locals own (Led c) (TupJ Led stored m₀ P ((Led c₀).map (·.1)) (i + 1)) { s with heap := h₁, toks := tk₁ } .next s₃ := by
      rintro ⟨c', h', tk, m', news', e, F', N', hl, ho, ha, hr', hP'⟩
      refine ⟨rfl, h', tk, m', Led c', e, F', fun p hp => ?_, ha.trans had.symm, c', rfl, ha, hP', hr'⟩
      rcases List.mem_append.mp hp with hp | hp
      · exact N' p (ho p hp)
      · exact N' p (hl p hp)
    cases f with
    | ret v => exact q
    | brk => exact q
    | next => exact LoopStep3.next (fin q)
    | cont => exact LoopStep3.cont (fin q)
  · rintro m₁ news₁ h' tk ⟨c, rfl, had, hP, hm⟩ F₁ N₁
    exact done c m₁ h' tk hP (tup_fr hm F₁) N₁
theorem tup_end {σ : Type} {Led : σ → List (Addr × Obj)} {stored : List Str} {m₀ : Str → Option Value} {P : Nat → σ → Prop} {i : Nat} (c : σ) {L : Addr} {m' : Str → Option Value} {own news' : List (Addr × Obj)} {adr : List Addr} {s₁ : Shared} {h' : Heap} {tk : Nat}
    (F : Fr h₀ L h' m') (N : News h₀ L h' news') (hn : ∀ p ∈ Led c, p ∈ news') (ho : ∀ p ∈ own, p ∈ news') (ha : (Led c).map (·.1) = adr) (hr : ∀ z, stored.contains z = false → m' z = m₀ z) (hp : P i c) :
    TupEnd h₀ L Led stored m₀ P i own adr s₁ { s₁ with heap := h', toks := tk } := ⟨c, h', tk, m', news', rfl, F, N, hn, ho, ha, hr, hp⟩
end
end
section
open PySem PySem.W PyProof.Rows PySem.Calls PyProof.V PySem.Spec

local macro_rules | `(tactic| walk_at "exec While Compare cons nil") => `(tactic| (k_here; refine stop_here ?_))
local macro_rules | `(tactic| walk_at "pyIter ref") => `(tactic| (k_here; (with_reducible show wpAny _ _ (pyIter (Value.ref _)) (fun it s₂ => LoopAtV _ _ _ _ _ _ _ _ _ it s₂) _ _); refine stop_here ?_))
local macro_rules | `(tactic| walk_at "pyIter ref") => `(tactic| (k_here; (with_reducible show wpAny _ _ (pyIter (Value.ref _)) (fun it s₂ => UnrAt _ _ _ _ _ _ _ _ _ it s₂) _ _); refine stop_here ?_))
local macro_rules | `(tactic| walk_at "TupPost") => `(tactic| (dsimp only [TupPost]))
local macro_rules | `(tactic| walk_at "exec For Tuple Name cons nil") => `(tactic| (k_here; (rename Fr _ _ _ _ => lF'); (with_unfolding_all refine' For_unrF lF' ?_ ?ks); (case ks => (intro _; with_unfolding_all rfl)); k_whole))
local macro_rules | `(tactic| walk_at "exec For Name Call cons nil") => `(tactic| (k_here; (rename Fr _ _ _ _ => lF'); (with_unfolding_all refine' For_invVF lF' ?k1 ?k2 ?_; (case k1 => exact rfl); (case k2 => exact rfl); k_whole)))
local macro_rules | `(tactic| walk_at "exec For Name Name cons nil") => `(tactic| (k_here; (rename Fr _ _ _ _ => lF'); (with_unfolding_all refine' For_invVF lF' ?k1 ?k2 ?_; (case k1 => exact rfl); (case k2 => exact rfl); k_whole)))
local macro_rules | `(tactic| k_all) => `(tactic| first | (refine' List.forall_mem_append.mpr ⟨?kal1, ?kal2⟩; (case kal1 => k_all); (case kal2 => k_all)) | assumption | exact all_ne (by assumption) | exact all_ne (And.right (by assumption)) | exact all_ne (And.right (And.right (by assumption))) | exact all_ne (And.right (And.right (And.right (by assumption)))) | exact all_ne (And.right (And.right (And.right (And.right (by assumption))))) | exact all_ne (And.right (And.right (And.right (And.right (And.right (by assumption)))))))
local macro_rules | `(tactic| walk_at "inplaceOp Add ref ref") => `(tactic| (k_here; (with_reducible show wpAny _ _ (inplaceOp Operator.Add (Value.ref _) (Value.ref _)) _ _ _); k_dflt (refine' iadd_K ?k1 ?k2 ?k3 ?k4 ?k5 ?k6 ?_; (case k1 => k_asm); (case k2 => k_asm); (case k3 => k_mem); (case k4 => k_upd); (case k5 => first | exact Nat.succ_pos _ | omega); (case k6 => first | omega | (simp only [List.length_cons, List.length_nil]; omega))); intro h' F' N'; (try k_sweep)))
/-- number times a power of the root -/
noncomputable def powv (r p : Int) : Int := ((Builtin.powMod (r % 3329).toNat (p.fdiv 2).toNat (3329 : Int).toNat : Nat) : Int)
noncomputable def pairUp (r : Int) (pr : List Int) (t : Int × Int) : List Int := pr.set (t.1.fmod 2).toNat (pr.getD (t.1.fmod 2).toNat 0 + t.2 * powv r t.1)
noncomputable def valTurn (ts : List (Int × Int)) (r : Int) : List Int := ts.foldl (pairUp r) [0, 0]
noncomputable def valuesL (ts : List (Int × Int)) (rs : List Int) : List Int := rs.flatMap (valTurn ts)
theorem pairUp_len (r : Int) (pr : List Int) (t : Int × Int) : (pairUp r pr t).length = pr.length := List.length_set ..
theorem foldPair_len (r : Int) (ts : List (Int × Int)) : ∀ pr : List Int, (ts.foldl (pairUp r) pr).length = pr.length := by
  induction ts with
  | nil => intro pr; rfl
  | cons a l ih => intro pr; rw [List.foldl_cons, ih, pairUp_len]
theorem values_len (ts : List (Int × Int)) (rs : List Int) : (valuesL ts rs).length = 2 * rs.length := by
  induction rs with
  | nil => rfl
  | cons a l ih =>
    rw [valuesL, List.flatMap_cons, List.length_append]
    rw [valuesL] at ih
    rw [ih, valTurn, foldPair_len]
    simp only [List.length_cons, List.length_nil]
    omega
theorem values_snoc (ts : List (Int × Int)) (rs : List Int) (r : Int) : valuesL ts (rs ++ [r]) = valuesL ts rs ++ valTurn ts r := by
  simp [valuesL]
theorem powMod_lt (b e m : Nat) (hm : 0 < m) : Builtin.powMod b e m < m := by
  unfold Builtin.powMod
  suffices h : ∀ (l : List Nat) (p : Nat), p < m → l.foldl (fun p i => if e.testBit i then p * p % m * b % m else p * p % m) p < m from h _ _ (Nat.mod_lt _ hm)
  intro l
  induction l with
  | nil => intro p h; exact h
  | cons a l ih => intro p _; rw [List.foldl_cons]; refine ih _ ?_; split <;> exact Nat.mod_lt _ hm
theorem pow_bits (a : Nat) (e : Int) : Builtin.Int.intBits ((Builtin.powMod a e.toNat (3329 : Int).toNat : Nat) : Int) ≤ 64 := by
  have h := powMod_lt a e.toNat (3329 : Int).toNat (by decide)
  have h9 : (3329 : Int).toNat = 3329 := rfl
  rw [h9] at h ⊢
  refine intBits_le_64 ?_ ?_
  · omega
  · exact Int.lt_of_lt_of_le (Int.ofNat_lt.mpr h) (by decide)
/-- the list of terms: each item is the address of a pair of the ledger -/
noncomputable def TupsAt (vs : List Value) (ts : List (Int × Int)) (chunk : List (Addr × Obj)) : Prop :=
  vs.length = ts.length ∧ ∀ (i : Nat) (v : Value), vs.toArray[i]? = some v → ∃ (T : Addr) (ta tb : Tok) (p v' : Int), v = .ref T ∧ ts[i]? = some (p, v') ∧ (T, tupObj p v' ta tb) ∈ chunk
theorem take_fold {r : Int} {ts : List (Int × Int)} {i : Nat} {p v : Int} {z : List Int} (h : ts[i]? = some (p, v)) : (ts.take (i + 1)).foldl (pairUp r) z = pairUp r ((ts.take i).foldl (pairUp r) z) (p, v) := by
  rw [List.take_add_one, h, List.foldl_append]
  rfl
theorem news_add {h₀ h : Heap} {L : Addr} {x : Addr × Obj} {l : List (Addr × Obj)} (hm : x ∈ l) (N : News h₀ L h l) : News h₀ L h (x :: l) := fun p hp => by
  rcases List.mem_cons.mp hp with rfl | hp
  · exact N _ hm
  · exact N _ hp
local macro_rules | `(tactic| walk_at "call builtin:pow") => `(tactic| (k_dflt (refine pow3 ?k1 (by decide) ?_); (case k1 => first | assumption | omega); (try dsimp only)))
local macro_rules | `(tactic| mul_fits) => `(tactic| exact PySem.IntMulOk.of_right (pow_bits _ _))
set_option maxRecDepth 100000 in
set_option maxHeartbeats 8000000 in
theorem values_spec (w : World) (mean : ExcName → Option Value) (mg mb : Str → Option Value)
  (dp un : Nat) (gd : Option (List Code)) (cn : Str) (cs : Scope) (a : Addr) (ccd : Value) (cl : List (Str × Addr)) (outer : List Env) (A₀ : Around) (base h₀ : Heap) (L : Addr) (m : Str → Option Value) (news : List (Addr × Obj)) (s : Shared) (Q E : Value → Shared → Prop)
  (tl R : Addr) (n1 n2 : Nat) (tv rv : List Value) (ts : List (Int × Int)) :
  Below A₀ base outer h₀ → Fr h₀ L s.heap m → (pre.heap_1 w.params).In h₀ → News h₀ L s.heap ((R, W.listOf rv.toArray n2) :: (tl, W.listOf tv.toArray n1) :: news) →
  Top vw (looseW vw [Str.ofString "PolynomialRing", Str.ofString "PolynomialNTT"]) mean mg mb h₀ → cs.kind = .function → dp + 4 < recursionLimit → un + 32 < cLine →
  IntsAre rv rootsL → TupsAt tv ts news → (∀ p ∈ ts, 0 ≤ p.1) → ts.length ≤ 2 →
  (∀ (c : Addr) (vs : List Value) (n : Nat) (h' : Heap) (tk' : Nat), Fr h₀ L h' m → News h₀ L h' ((c, W.listOf vs.toArray n) :: (R, W.listOf rv.toArray n2) :: (tl, W.listOf tv.toArray n1) :: news) → IntsAre vs (valuesL ts rootsL) → @LT.lt Nat _ R c ∧ @LT.lt Nat _ tl c ∧ AllLt c news → Q (.ref c) { s with heap := h', toks := tk' }) →
  wpAny (model PySem.Challenge.rw_yi0060_01.row.prog w) (ktrTop dp un gd cn cs L a ccd cl outer) (call (.ref 447) [.ref tl, .ref R]) Q E s := by
  k_fill
  intro B F X N T hk hd hu hi hT hpos hlen hret
  refine wpAny_call ?_
  k_dflt k_enter
  k_steps
  rename Fr _ _ _ _ => F3
  rename News _ _ _ _ => N3
  obtain ⟨oa, rest', hwa, hrest'⟩ := news_name1 N3
  subst hwa
  rename R < oa ∧ tl < oa ∧ AllLt oa news => l9
  unfold Stop
  (try k_unmd)
  k_fold
  with_unfolding_all refine' kst_listL (σ := List Value × List Int × Nat) (vs := rv) (nn := n2) (l := R) (fun q => (oa, W.listOf q.1.toArray q.2.2) :: (R, W.listOf rv.toArray n2) :: (tl, W.listOf tv.toArray n1) :: news) (fun _ => []) (fun q => IntsAre q.1 q.2.1) [Str.ofString "pair", Str.ofString "place", Str.ofString "number"] (fun pre q => q.2.1 = valuesL ts pre) ([], [], 0) rfl ?zl hi F3 N3 .nil (fun _ hp => nomatch hp) rfl ?_ ?_
  (case zl => exact fun _ => .tail _ (.head _))
  · clear F3 N3
    intro q pre post e te u h tk own heq hmem hoff9 hf hq F3 N3
    obtain ⟨us, js, n9⟩ := q
    dsimp only at F3 N3 hq hf hoff9 ⊢
    have hjl : us.length = js.length := hf.length
    have hjv : js.length = 2 * pre.length := by rw [hq, values_len]
    have hpl : pre.length ≤ 128 := by
      have := congrArg List.length heq
      rw [List.length_append, List.length_cons] at this
      have h9 : rootsL.length = 128 := by decide +kernel
      omega
    simp only [List.cons_append, List.nil_append, List.map_cons, List.map_nil] at N3 hoff9
    k_steps
    rename Fr _ _ _ _ => F4
    rename News _ _ _ _ => N4
    obtain ⟨pa, rest4, hpa, hrest4⟩ := news_name1 N4
    subst hpa
    rename oa < pa ∧ R < pa ∧ tl < pa ∧ AllLt pa (news ++ own) => l8
    unfold Stop
    (try k_unmd)
    k_fold
    have hz : s.heap = s.heap := rfl
    with_unfolding_all refine' tupL (σ := List Value × List Int × Nat) (fun q => (pa, W.listOf q.1.toArray q.2.2) :: (oa, W.listOf us.toArray n9) :: (R, W.listOf rv.toArray n2) :: (tl, W.listOf tv.toArray n1) :: (news ++ own)) [Str.ofString "place", Str.ofString "number"] (fun i q => IntsAre q.1 q.2.1 ∧ q.2.1 = (ts.take i).foldl (pairUp e) [0, 0]) ([_, _], [0, 0], 0) rfl ?zt ?zL F4 N4 ⟨.cons _ _ (.cons _ _ .nil), rfl⟩ ?_ ?_
    (case zt => exact News.isList N4 (by k_memK))
    (case zL => exact News.ne_locals N4 (by k_memK))
    · clear F4 N4
      intro i q v u h tk own5 hv hoff5 hq5 F5 N5
      obtain ⟨ps, qs, n5⟩ := q
      obtain ⟨hp5, hq5⟩ := hq5
      obtain ⟨T9, ta, tb, p9, v9, rfl, hti, hmem9⟩ := hT.2 i v hv
      dsimp only at F5 N5 hp5 hq5 hoff5 ⊢
      have hql : qs.length = 2 := by rw [hq5, foldPair_len]; rfl
      have hpl5 : ps.length = qs.length := hp5.length
      have hp0 : 0 ≤ p9 := hpos _ (List.mem_of_getElem? hti)
      have hf1 : 0 ≤ p9.fdiv 2 := by rw [Int.fdiv_eq_ediv_of_nonneg _ (by decide)]; omega
      have hf2 : 0 ≤ p9.fmod 2 := Int.fmod_nonneg_of_pos _ (by decide)
      have hf3 : p9.fmod 2 < 2 := Int.fmod_lt_of_pos _ (by decide)
      have hn1 : ∀ p ∈ news, p.1 ≠ pa := fun p hp => all_ne l8.2.2.2 p (List.mem_append.mpr (.inl hp))
      have hn2 : ∀ p ∈ own, p.1 ≠ pa := fun p hp => all_ne l8.2.2.2 p (List.mem_append.mpr (.inr hp))
      have hTn : @Ne Nat T9 pa := hn1 _ hmem9
      simp only [List.cons_append, List.append_assoc, List.map_cons] at N5 hoff5
      have hown5 : ∀ p ∈ own5, p.1 ≠ pa := hoff5 pa (.head _) (fun e => absurd (e ▸ l8.2.2.1) (Nat.lt_irrefl _))
      replace N5 := news_add (.tail _ (.tail _ (.tail _ (.tail _ (List.mem_append.mpr (.inl hmem9)))))) N5
      k_steps
      rename Fr _ _ _ _ => F6
      rename News _ _ _ _ => N6
      refine' tup_end (_, pairUp e qs (p9, v9), _) F6 N6 ?zn ?zo ?za ?zr ?zp
      (case zn => refine' List.forall_mem_cons.mpr ⟨by k_memK, List.forall_mem_cons.mpr ⟨by k_memK, List.forall_mem_cons.mpr ⟨by k_memK, List.forall_mem_cons.mpr ⟨by k_memK, ?_⟩⟩⟩⟩; exact fun p hp => .tail _ (.tail _ (.tail _ (.tail _ (.tail _ (by rw [← List.append_assoc]; exact List.mem_append.mpr (.inl hp)))))))
      (case zo => exact fun p hp => .tail _ (.tail _ (.tail _ (.tail _ (.tail _ (by rw [← List.append_assoc]; exact List.mem_append.mpr (.inr hp)))))))
      (case za => rfl)
      (case zr => (intro z h3; (simp only [List.contains_cons, List.contains_nil, Bool.or_false, Bool.or_eq_false_iff, beq_eq_false_iff_ne, ne_eq] at h3); (simp [h3]; done)))
      (case zp => dsimp only; exact ⟨by assumption, by rw [take_fold hti, ← hq5]⟩)
    · clear F4 N4
      intro q u h tk hq5 F5 N5
      obtain ⟨ps, qs, n5⟩ := q
      obtain ⟨hp5, hq5⟩ := hq5
      dsimp only at F5 N5 hp5 hq5 ⊢
      have hql : qs.length = 2 := by rw [hq5, foldPair_len]; rfl
      have hpl5 : ps.length = qs.length := hp5.length
      have hon : ∀ p ∈ news ++ own, p.1 ≠ oa := fun p hp => by
        rcases List.mem_append.mp hp with hp | hp
        · exact all_ne l9.2.2 p hp
        · exact hoff9 p hp oa (.head _)
      have hon1 : ∀ p ∈ news, p.1 ≠ oa := fun p hp => hon p (List.mem_append.mpr (.inl hp))
      have hon2 : ∀ p ∈ own, p.1 ≠ oa := fun p hp => hon p (List.mem_append.mpr (.inr hp))
      k_steps
      rename Fr _ _ _ _ => F6
      rename News _ _ _ _ => N6
      refine' kst_end (us ++ ps, js ++ qs, n9 + 1) F6 N6 ?zn ?zo ?za ?zf ?zk ?zr ?zp
      (case zn => refine' List.forall_mem_cons.mpr ⟨by k_memK, List.forall_mem_cons.mpr ⟨by k_memK, List.forall_mem_cons.mpr ⟨by k_memK, ?_⟩⟩⟩; exact fun p hp => .tail _ (.tail _ (.tail _ (.tail _ (List.mem_append.mpr (.inl hp))))))
      (case zo => exact fun p hp => .tail _ (.tail _ (.tail _ (.tail _ (List.mem_append.mpr (.inr hp))))))
      (case za => rfl)
      (case zf => exact IntsAre.append hf hp5)
      (case zk => exact fun _ hp => nomatch hp)
      (case zr => (intro z h1 h2 h3; (simp only [List.contains_cons, List.contains_nil, Bool.or_false, Bool.or_eq_false_iff, beq_eq_false_iff_ne, ne_eq] at h3); by_cases h9 : z = Str.ofString "out"; (case pos => (subst h9; with_unfolding_all rfl)); (case neg => (simp [kstB, h1, h3, h9]; done))))
      (case zp => dsimp only; rw [values_snoc, hq, hq5, List.take_of_length_le (by rw [List.size_toArray, hT.1]; exact Nat.le_refl _)]; rfl)
  · clear F3 N3
    intro q u h tk hf hq F3 N3
    obtain ⟨us, js, n9⟩ := q
    dsimp only at F3 N3 hq hf ⊢
    k_steps
    rename Fr _ _ _ _ => F4
    rename News _ _ _ _ => N4
    exact hret _ us _ _ _ F4 N4 (hq ▸ hf) l9
end
section
open PySem PySem.W PyProof.Rows PySem.Calls PyProof.V PySem.Spec
noncomputable def termsL (ns : List Int) (n : Nat) : List (Int × Int) := (List.range n).map fun t => ((draw ns (2 + 2 * ((t : Nat) : Int))).fmod 256, draw ns (3 + 2 * ((t : Nat) : Int)))
theorem TupsAt.mono {vs : List Value} {ts : List (Int × Int)} {c c' : List (Addr × Obj)} (h : TupsAt vs ts c) (k : ∀ p ∈ c, p ∈ c') : TupsAt vs ts c' :=
  ⟨h.1, fun i v e => let ⟨T, ta, tb, p, v', a, b, d⟩ := h.2 i v e; ⟨T, ta, tb, p, v', a, b, k _ d⟩⟩
set_option maxRecDepth 100000 in
theorem terms_spec (w : World) (mean : ExcName → Option Value) (mg mb : Str → Option Value)
  (dp un : Nat) (gd : Option (List Code)) (cn : Str) (cs : Scope) (a : Addr) (ccd : Value) (cl : List (Str × Addr)) (outer : List Env) (A₀ : Around) (base h₀ : Heap) (L : Addr) (m : Str → Option Value) (news : List (Addr × Obj)) (s : Shared) (Q E : Value → Shared → Prop)
  (l : Addr) (vs : List Value) (ns : List Int) (k : Int) (t t' : Tok) :
  Below A₀ base outer h₀ → Fr h₀ L s.heap m → (pre.heap_1 w.params).In h₀ → News h₀ L s.heap news →
  Top vw (looseW vw [Str.ofString "PolynomialRing", Str.ofString "PolynomialNTT"]) mean mg mb h₀ → cs.kind = .function → dp + 4 < recursionLimit → un + 32 < cLine →
  base.IsList l vs.toArray → IntsAre vs ns → ns.length ≤ 63 → 1 ≤ k → k ≤ 2 →
  (∀ (c : Addr) (us : List Value) (n : Nat) (chunk : List (Addr × Obj)) (h' : Heap) (tk' : Nat), Fr h₀ L h' m → News h₀ L h' ((c, W.listOf us.toArray n) :: (news ++ chunk)) → TupsAt us (termsL ns k.toNat) chunk → (∀ p ∈ chunk, p.1 ≠ c) → Q (.ref c) { s with heap := h', toks := tk' }) →
  wpAny (model PySem.Challenge.rw_yi0060_01.row.prog w) (ktrTop dp un gd cn cs L a ccd cl outer) (call (.ref 452) [.ref l, .int 2 t, .int k t']) Q E s := by
  intro B F X N T hk hd hu hl hi hlen k1 k2 hret
  rcases (show k = 1 ∨ k = 2 by omega) with rfl | rfl
  · refine terms1_spec _ _ _ _ _ _ _ _ _ _ _ _ _ _ _ _ _ _ _ _ _ _ _ _ _ _ _ B F X N T hk hd hu hl hi hlen ?_
    intro c T n t0 t1 h' tk' F' N' ne
    refine hret c [.ref T] n [(T, tupObj ((draw ns 2).fmod 256) (draw ns 3) t0 t1)] h' tk' F' (fun p hp => N' p ?_) ⟨rfl, ?_⟩ ?_
    · simp only [List.mem_cons, List.mem_append, List.not_mem_nil, or_false] at hp ⊢
      rcases hp with h | h | h
      · exact .inl h
      · exact .inr (.inr h)
      · exact .inr (.inl h)
    · intro i v e
      match i, e with
      | 0, e => exact ⟨T, t0, t1, _, _, (Option.some.inj e).symm, rfl, .head _⟩
      | i + 1, e => exact absurd e (by simp)
    · exact List.forall_mem_cons.mpr ⟨ne, List.forall_mem_nil _⟩
  · refine terms2_spec _ _ _ _ _ _ _ _ _ _ _ _ _ _ _ _ _ _ _ _ _ _ _ _ _ _ _ B F X N T hk hd hu hl hi hlen ?_
    intro c T T' n t0 t1 t2 t3 h' tk' F' N' ne ne' _
    refine hret c [.ref T, .ref T'] n [(T, tupObj ((draw ns 2).fmod 256) (draw ns 3) t0 t1), (T', tupObj ((draw ns 4).fmod 256) (draw ns 5) t2 t3)] h' tk' F' (fun p hp => N' p ?_) ⟨rfl, ?_⟩ ?_
    · simp only [List.mem_cons, List.mem_append, List.not_mem_nil, or_false] at hp ⊢
      rcases hp with h | h | h | h
      · exact .inl h
      · exact .inr (.inr (.inr h))
      · exact .inr (.inl h)
      · exact .inr (.inr (.inl h))
    · intro i v e
      match i, e with
      | 0, e => exact ⟨T, t0, t1, _, _, (Option.some.inj e).symm, rfl, .head _⟩
      | 1, e => exact ⟨T', t2, t3, _, _, (Option.some.inj e).symm, rfl, .tail _ (.head _)⟩
      | i + 2, e => exact absurd e (by simp)
    · exact List.forall_mem_cons.mpr ⟨ne, List.forall_mem_cons.mpr ⟨ne', List.forall_mem_nil _⟩⟩
end
section
open PySem PySem.W PyProof.Rows PySem.Calls PyProof.V PySem.Spec
noncomputable def wantStep (row : List Int) (p v : Int) (W : List Int) (i : Nat) : List Int :=
  if 0 + (i : Int) + p < 256 then W.set (0 + (i : Int) + p).toNat (W.getD (0 + (i : Int) + p).toNat 0 + v * row.getD (0 + (i : Int)).toNat 0)
  else W.set (0 + (i : Int) + p - 256).toNat (W.getD (0 + (i : Int) + p - 256).toNat 0 - v * row.getD (0 + (i : Int)).toNat 0)
noncomputable def wantF (row : List Int) (p v : Int) (n : Nat) (W : List Int) : List Int := (List.range n).foldl (wantStep row p v) W
theorem wantF_succ (row : List Int) (p v : Int) (n : Nat) (W : List Int) : wantF row p v (n + 1) W = wantStep row p v (wantF row p v n W) n := by simp [wantF, List.range_succ, List.foldl_append]
noncomputable def wantT (row : List Int) (W : List Int) (t : Int × Int) : List Int := wantF row t.1 t.2 256 W
noncomputable def wantL (row : List Int) (ts : List (Int × Int)) (W : List Int) : List Int := ts.foldl (wantT row) W
theorem want_take {row : List Int} {ts : List (Int × Int)} {i : Nat} {p v : Int} {z : List Int} (h : ts[i]? = some (p, v)) : wantL row (ts.take (i + 1)) z = wantF row p v 256 (wantL row (ts.take i) z) := by
  simp only [wantL, List.take_add_one, h, List.foldl_append, Option.toList_some, List.foldl_cons, List.foldl_nil, wantT]
theorem draw_bits {ns : List Int} {k : Int} (h : PyData.layable0 (.list (ns.map .int)) = true) (h1 : 0 ≤ k) (h2 : k < 1000) : Builtin.Int.intBits (draw ns k) ≤ 2 ^ 20 := by
  unfold draw
  split
  · exact bits_getD h
  · refine Nat.le_trans (intBits_le_64 ?_ ?_) (by decide)
    · have : (0 : Int) ≤ 23 * k * k := Int.mul_nonneg (by omega) h1
      omega
    · have : 23 * k * k ≤ 23 * 1000 * 1000 := Int.mul_le_mul (by omega) (by omega) h1 (by omega)
      omega
theorem news_tail {h₀ h : Heap} {L : Addr} {e : Addr × Obj} {l : List (Addr × Obj)} (N : News h₀ L h (e :: l)) : News h₀ L h l := fun p hp => N p (.tail _ hp)
theorem main_names {h₀ h : Heap} {L wa a1 ra a3 a4 a5 tl : Addr} {v0 : Array Value} {n0 n2 : Nat} {ws : List Value} {o1 o3 o4 o5 ot : Obj} {rest : List (Addr × Obj)}
    (N : News h₀ L h ((wa, W.listOf v0 n0) :: (a1, o1) :: (ra, W.listOf ws.toArray n2) :: (a3, o3) :: (a4, o4) :: (a5, o5) :: (tl, ot) :: rest))
    (l : @LT.lt Nat _ a1 wa ∧ @LT.lt Nat _ ra wa ∧ @LT.lt Nat _ a3 wa ∧ @LT.lt Nat _ a4 wa ∧ @LT.lt Nat _ a5 wa ∧ @LT.lt Nat _ tl wa ∧ AllLt wa rest) :
    ∃ wa' ra' rest', wa' = wa ∧ ra' = ra ∧ rest' = rest ∧ News h₀ L h ((wa', W.listOf v0 n0) :: (ra', W.listOf ws.toArray n2) :: (tl, ot) :: rest') ∧ @LT.lt Nat _ ra' wa' ∧ @LT.lt Nat _ tl wa' ∧ AllLt wa' rest' := by
  refine ⟨wa, ra, rest, rfl, rfl, rfl, fun p hp => N p ?_, l.2.1, l.2.2.2.2.2.1, l.2.2.2.2.2.2⟩
  simp only [List.mem_cons] at hp ⊢
  rcases hp with h | h | h | h
  · exact .inl h
  · exact .inr (.inr (.inl h))
  · exact .inr (.inr (.inr (.inr (.inr (.inr (.inl h))))))
  · exact .inr (.inr (.inr (.inr (.inr (.inr (.inr h))))))
/-- the row's numbers -/
noncomputable def rowL (ns : List Int) : List Int :=
  (rangeKs 0 ((if 256 < (draw ns 0).fmod 300 then (256 : Int) else (draw ns 0).fmod 300) - 0).toNat).map (fun k' => draw ns (2 + 2 * (1 + (draw ns 1).fmod 2) + k')) ++
    (List.replicate (256 - if 256 < (draw ns 0).fmod 300 then (256 : Int) else (draw ns 0).fmod 300).toNat [(0 : Int)]).flatten
theorem flat_len (n : Nat) : ((List.replicate n [(0 : Int)]).flatten).length = n := by simp
theorem rowL_len (ns : List Int) : (rowL ns).length = 256 := by
  have h1 : 0 ≤ (draw ns 0).fmod 300 := Int.fmod_nonneg_of_pos _ (by decide)
  have h2 : (draw ns 0).fmod 300 < 300 := Int.fmod_lt_of_pos _ (by decide)
  unfold rowL
  rw [List.length_append, List.length_map, flat_len, rangeKs_length]
  split <;> omega
theorem rowL_bits {ns : List Int} (h : PyData.layable0 (.list (ns.map .int)) = true) (i : Nat) : Builtin.Int.intBits ((rowL ns).getD i 0) ≤ 2 ^ 20 := by
  have h1 : 0 ≤ (draw ns 1).fmod 2 := Int.fmod_nonneg_of_pos _ (by decide)
  have h2 : (draw ns 1).fmod 2 < 2 := Int.fmod_lt_of_pos _ (by decide)
  suffices k : ∀ x ∈ rowL ns, Builtin.Int.intBits x ≤ 2 ^ 20 by
    rw [List.getD_eq_getElem?_getD]
    cases e : (rowL ns)[i]? with
    | none => show Builtin.Int.intBits 0 ≤ 2 ^ 20; decide
    | some n => exact k n (List.mem_of_getElem? e)
  intro x hx
  rcases List.mem_append.mp hx with hx | hx
  · obtain ⟨k, hk, rfl⟩ := List.mem_map.mp hx
    have hk' : 0 ≤ k ∧ k < 256 := by
      obtain ⟨j, hj, rfl⟩ := List.mem_map.mp hk
      have := List.mem_range.mp hj
      split at this <;> omega
    exact draw_bits h (by omega) (by omega)
  · obtain ⟨l, hl, hxl⟩ := List.mem_flatten.mp hx
    have := (List.mem_replicate.mp hl).2
    subst this
    rw [List.mem_singleton.mp hxl]
    decide
theorem termsL_facts {ns : List Int} {n : Nat} (h : PyData.layable0 (.list (ns.map .int)) = true) (hn : n ≤ 2) : ∀ p ∈ termsL ns n, 0 ≤ p.1 ∧ p.1 < 256 ∧ Builtin.Int.intBits p.2 ≤ 2 ^ 20 := by
  intro p hp
  obtain ⟨t, ht, rfl⟩ := List.mem_map.mp hp
  have := List.mem_range.mp ht
  exact ⟨Int.fmod_nonneg_of_pos _ (by decide), Int.fmod_lt_of_pos _ (by decide), draw_bits h (by omega) (by omega)⟩
theorem termsL_len (ns : List Int) (n : Nat) : (termsL ns n).length = n := by simp [termsL]
theorem ints_name {vs : List Value} {ns : List Int} (_ : IntsAre vs ns) : ∃ ns', ns' = ns := ⟨_, rfl⟩
theorem ints_nameV {vs : List Value} {ns : List Int} (_ : IntsAre vs ns) : ∃ vs', vs' = vs := ⟨_, rfl⟩
theorem news_tlf {h₀ h : Heap} {L : Addr} {a b c : Addr × Obj} {l : List (Addr × Obj)} (N : News h₀ L h (a :: b :: c :: l)) : News h₀ L h (c :: a :: b :: l) := fun p hp => N p (by
  simp only [List.mem_cons] at hp ⊢
  rcases hp with h | h | h | h
  · exact .inr (.inr (.inl h))
  · exact .inl h
  · exact .inr (.inl h)
  · exact .inr (.inr (.inr h)))
end
section
open PySem PySem.W PyProof.Rows PySem.Calls PyProof.V PySem.Spec


set_option maxRecDepth 100000 in
set_option maxHeartbeats 8000000 in
theorem rcallA_spec (w : World) (mean : ExcName → Option Value) (mg mb : Str → Option Value)
  (dp un : Nat) (gd : Option (List Code)) (cn : Str) (cs : Scope) (a : Addr) (ccd : Value) (cl : List (Str × Addr)) (outer : List Env) (A₀ : Around) (base h₀ : Heap) (L : Addr) (m : Str → Option Value) (news : List (Addr × Obj)) (s : Shared) (Q E : Value → Shared → Prop)
  (x dx z c : Addr) (vs : List Value) (ns : List Int) (n : Nat) (t1 t2 t3 t4 t5 t6 t7 : Tok) :
  Below A₀ base outer h₀ → Fr h₀ L s.heap m → (pre.heap_1 w.params).In h₀ → News h₀ L s.heap ((c, W.listOf vs.toArray n) :: (x, instObj 282 dx) :: (dx, ringDict w z t1 t2 t3 t4 t5 t6 t7) :: news) →
  Top vw (looseW vw [Str.ofString "PolynomialRing", Str.ofString "PolynomialNTT"]) mean mg mb h₀ → cs.kind = .function → dp + 8 < recursionLimit → un + 64 < cLine →
  IntsAre vs ns → ns.length = 256 →
  (∀ (p dpa : Addr) (r1 r2 : Tok) (h' : Heap) (tk' : Nat), Fr h₀ L h' m → News h₀ L h' ((p, instObj 350 dpa) :: (dpa, polyDict w x c r1 r2) :: (c, W.listOf vs.toArray n) :: (x, instObj 282 dx) :: (dx, ringDict w z t1 t2 t3 t4 t5 t6 t7) :: news) → @LT.lt Nat _ dpa p → @LT.lt Nat _ c dpa ∧ @LT.lt Nat _ x dpa ∧ @LT.lt Nat _ dx dpa ∧ AllLt dpa news → Q (.ref p) { s with heap := h', toks := tk' }) →
  wpAny (model PySem.Challenge.rw_yi0060_01.row.prog w) (ktrTop dp un gd cn cs L a ccd cl outer) (call (.ref x) [.ref c]) Q E s := by
  k_fill
  intro B F X N T hk hd hu hi hl hret
  have hvl : vs.length = ns.length := hi.length
  k_steps
  with_reducible rename News h₀ _ _ (_ :: _) => kN
  with_reducible rename Fr h₀ _ _ _ => kF
  with_reducible rename @LT.lt Nat _ _ _ => k2
  with_reducible rename (@LT.lt Nat _ _ _) ∧ _ => k1
  exact hret _ _ _ _ _ _ kF kN k2 k1
set_option maxRecDepth 100000 in
set_option maxHeartbeats 8000000 in
theorem rcallB_spec (w : World) (mean : ExcName → Option Value) (mg mb : Str → Option Value)
  (dp un : Nat) (gd : Option (List Code)) (cn : Str) (cs : Scope) (a : Addr) (ccd : Value) (cl : List (Str × Addr)) (outer : List Env) (A₀ : Around) (base h₀ : Heap) (L : Addr) (m : Str → Option Value) (news : List (Addr × Obj)) (s : Shared) (Q E : Value → Shared → Prop)
  (x dx z c : Addr) (vs : List Value) (ns : List Int) (n : Nat) (t1 t2 t3 t4 t5 t6 t7 : Tok) :
  Below A₀ base outer h₀ → Fr h₀ L s.heap m → (pre.heap_1 w.params).In h₀ → News h₀ L s.heap ((c, W.listOf vs.toArray n) :: (x, instObj 282 dx) :: (dx, ringDict w z t1 t2 t3 t4 t5 t6 t7) :: news) →
  Top vw (looseW vw [Str.ofString "PolynomialRing", Str.ofString "PolynomialNTT"]) mean mg mb h₀ → cs.kind = .function → dp + 8 < recursionLimit → un + 64 < cLine →
  IntsAre vs ns → ns.length = 256 →
  (∀ (p dpa : Addr) (r1 r2 : Tok) (h' : Heap) (tk' : Nat), Fr h₀ L h' m → News h₀ L h' ((p, instObj 426 dpa) :: (dpa, polyDict w x c r1 r2) :: (c, W.listOf vs.toArray n) :: (x, instObj 282 dx) :: (dx, ringDict w z t1 t2 t3 t4 t5 t6 t7) :: news) → @LT.lt Nat _ dpa p → @LT.lt Nat _ c dpa ∧ @LT.lt Nat _ x dpa ∧ @LT.lt Nat _ dx dpa ∧ AllLt dpa news → Q (.ref p) { s with heap := h', toks := tk' }) →
  wpAny (model PySem.Challenge.rw_yi0060_01.row.prog w) (ktrTop dp un gd cn cs L a ccd cl outer) (call (.ref x) [.ref c] [(Str.ofString "is_ntt", .bool true)]) Q E s := by
  k_fill
  intro B F X N T hk hd hu hi hl hret
  have hvl : vs.length = ns.length := hi.length
  k_steps
  with_reducible rename News h₀ _ _ (_ :: _) => kN
  with_reducible rename Fr h₀ _ _ _ => kF
  with_reducible rename @LT.lt Nat _ _ _ => k2
  with_reducible rename (@LT.lt Nat _ _ _) ∧ _ => k1
  exact hret _ _ _ _ _ _ kF kN k2 k1
theorem rcallA_in (w : World) (mean : ExcName → Option Value) (mg mb : Str → Option Value)
  (dp un : Nat) (gd : Option (List Code)) (cn : Str) (cs : Scope) (a : Addr) (ccd : Value) (cl : List (Str × Addr)) (outer : List Env) (A₀ : Around) (base h₀ : Heap) (L : Addr) (m : Str → Option Value) (led : List (Addr × Obj)) (s : Shared) (Q E : Value → Shared → Prop)
  (x dx z c : Addr) (vs : List Value) (ns : List Int) (n : Nat) (t1 t2 t3 t4 t5 t6 t7 : Tok) :
  Below A₀ base outer h₀ → Fr h₀ L s.heap m → (pre.heap_1 w.params).In h₀ → News h₀ L s.heap led →
  Top vw (looseW vw [Str.ofString "PolynomialRing", Str.ofString "PolynomialNTT"]) mean mg mb h₀ → cs.kind = .function → dp + 8 < recursionLimit → un + 64 < cLine →
  (x, instObj 282 dx) ∈ led → (dx, ringDict w z t1 t2 t3 t4 t5 t6 t7) ∈ led → (c, W.listOf vs.toArray n) ∈ led → IntsAre vs ns → ns.length = 256 →
  (∀ (p dpa : Addr) (r1 r2 : Tok) (h' : Heap) (tk' : Nat), Fr h₀ L h' m → News h₀ L h' ((p, instObj 350 dpa) :: (dpa, polyDict w x c r1 r2) :: led) → @LT.lt Nat _ dpa p ∧ AllLt dpa led → Q (.ref p) { s with heap := h', toks := tk' }) →
  wpAny (model PySem.Challenge.rw_yi0060_01.row.prog w) (ktrTop dp un gd cn cs L a ccd cl outer) (call (.ref x) [.ref c]) Q E s := by
  intro B F X N T hk hd hu hx hdx hc hi hl hret
  refine rcallA_spec _ _ _ _ _ _ _ _ _ _ _ _ _ _ _ _ _ _ led _ _ _ _ _ _ _ _ _ _ _ _ _ _ _ _ _ B F X (news_add (.tail _ (.tail _ hc)) (news_add (.tail _ hx) (news_add hdx N))) T hk hd hu hi hl ?_
  intro p dpa r1 r2 h' tk' F' N' l2 l1
  exact hret p dpa r1 r2 h' tk' F' (fun q hq => N' q (by
    simp only [List.mem_cons] at hq ⊢
    rcases hq with h | h | h
    · exact .inl h
    · exact .inr (.inl h)
    · exact .inr (.inr (.inr (.inr (.inr h)))))) ⟨l2, l1.2.2.2⟩
theorem rcallB_in (w : World) (mean : ExcName → Option Value) (mg mb : Str → Option Value)
  (dp un : Nat) (gd : Option (List Code)) (cn : Str) (cs : Scope) (a : Addr) (ccd : Value) (cl : List (Str × Addr)) (outer : List Env) (A₀ : Around) (base h₀ : Heap) (L : Addr) (m : Str → Option Value) (led : List (Addr × Obj)) (s : Shared) (Q E : Value → Shared → Prop)
  (x dx z c : Addr) (vs : List Value) (ns : List Int) (n : Nat) (t1 t2 t3 t4 t5 t6 t7 : Tok) :
  Below A₀ base outer h₀ → Fr h₀ L s.heap m → (pre.heap_1 w.params).In h₀ → News h₀ L s.heap led →
  Top vw (looseW vw [Str.ofString "PolynomialRing", Str.ofString "PolynomialNTT"]) mean mg mb h₀ → cs.kind = .function → dp + 8 < recursionLimit → un + 64 < cLine →
  (x, instObj 282 dx) ∈ led → (dx, ringDict w z t1 t2 t3 t4 t5 t6 t7) ∈ led → (c, W.listOf vs.toArray n) ∈ led → IntsAre vs ns → ns.length = 256 →
  (∀ (p dpa : Addr) (r1 r2 : Tok) (h' : Heap) (tk' : Nat), Fr h₀ L h' m → News h₀ L h' ((p, instObj 426 dpa) :: (dpa, polyDict w x c r1 r2) :: led) → @LT.lt Nat _ dpa p ∧ AllLt dpa led → Q (.ref p) { s with heap := h', toks := tk' }) →
  wpAny (model PySem.Challenge.rw_yi0060_01.row.prog w) (ktrTop dp un gd cn cs L a ccd cl outer) (call (.ref x) [.ref c] [(Str.ofString "is_ntt", .bool true)]) Q E s := by
  intro B F X N T hk hd hu hx hdx hc hi hl hret
  refine rcallB_spec _ _ _ _ _ _ _ _ _ _ _ _ _ _ _ _ _ _ led _ _ _ _ _ _ _ _ _ _ _ _ _ _ _ _ _ B F X (news_add (.tail _ (.tail _ hc)) (news_add (.tail _ hx) (news_add hdx N))) T hk hd hu hi hl ?_
  intro p dpa r1 r2 h' tk' F' N' l2 l1
  exact hret p dpa r1 r2 h' tk' F' (fun q hq => N' q (by
    simp only [List.mem_cons] at hq ⊢
    rcases hq with h | h | h
    · exact .inl h
    · exact .inr (.inl h)
    · exact .inr (.inr (.inr (.inr (.inr h)))))) ⟨l2, l1.2.2.2⟩
end
end Mine
end
section
namespace Mine
/-- congruent modulo 3329 -/
noncomputable def Cg (a b : Int) : Prop := ∃ k : Int, a = b + 3329 * k
theorem Cg.refl (a : Int) : Cg a a := ⟨0, by omega⟩
theorem Cg.of_eq {a b : Int} (h : a = b) : Cg a b := h ▸ Cg.refl a
theorem Cg.symm {a b : Int} (h : Cg a b) : Cg b a := let ⟨k, e⟩ := h; ⟨-k, by omega⟩
theorem Cg.trans {a b c : Int} (h : Cg a b) (h' : Cg b c) : Cg a c := let ⟨k, e⟩ := h; let ⟨j, f⟩ := h'; ⟨k + j, by omega⟩
theorem Cg.add {a b c d : Int} (h : Cg a b) (h' : Cg c d) : Cg (a + c) (b + d) := let ⟨k, e⟩ := h; let ⟨j, f⟩ := h'; ⟨k + j, by omega⟩
theorem Cg.sub {a b c d : Int} (h : Cg a b) (h' : Cg c d) : Cg (a - c) (b - d) := let ⟨k, e⟩ := h; let ⟨j, f⟩ := h'; ⟨k - j, by omega⟩
theorem Cg.neg {a b : Int} (h : Cg a b) : Cg (-a) (-b) := let ⟨k, e⟩ := h; ⟨-k, by omega⟩
theorem Cg.mulR {a b : Int} (c : Int) (h : Cg a b) : Cg (a * c) (b * c) := let ⟨k, e⟩ := h; ⟨k * c, by rw [e, Int.add_mul, Int.mul_assoc]⟩
theorem Cg.mulL {a b : Int} (c : Int) (h : Cg a b) : Cg (c * a) (c * b) := by rw [Int.mul_comm c a, Int.mul_comm c b]; exact h.mulR c
theorem Cg.mul {a b c d : Int} (h : Cg a b) (h' : Cg c d) : Cg (a * c) (b * d) := (h.mulR c).trans (h'.mulL b)
theorem Cg.fmod (a : Int) : Cg (a.fmod 3329) a := ⟨-(a.fdiv 3329), by have := Int.fmod_add_mul_fdiv a 3329; omega⟩
theorem Cg.emod (a : Int) : Cg (a % 3329) a := ⟨-(a / 3329), by have := Int.emod_add_mul_ediv a 3329; omega⟩
theorem Cg.iff_emod {a b : Int} : Cg a b ↔ a % 3329 = b % 3329 := by
  constructor
  · rintro ⟨k, e⟩
    omega
  · intro h
    exact ⟨a / 3329 - b / 3329, by omega⟩
theorem Cg.fmod_eq {a b : Int} (h : Cg a b) : a.fmod 3329 = b.fmod 3329 := by
  rw [Int.fmod_eq_emod_of_nonneg _ (by decide), Int.fmod_eq_emod_of_nonneg _ (by decide)]
  exact Cg.iff_emod.mp h
/-- the zetas as a function -/
noncomputable def zt (i : Nat) : Int := zetaL.getD i 0
noncomputable def LF (l k : Nat) (f : Nat → Int) (x : Nat) : Int := if x % (2 * l) < l then f x + zt (k + x / (2 * l)) * f (x + l) else f (x - l) - zt (k + x / (2 * l)) * f x
noncomputable def ILF (l k : Nat) (f : Nat → Int) (x : Nat) : Int := if x % (2 * l) < l then f x + f (x + l) else zt (k - x / (2 * l)) * (f x - f (x - l))
noncomputable def MX (n : Nat) (c : Nat → Int) (f : Nat → Int) (x : Nat) : Int := if x % n = 0 then c (x / n) * f (x + n - 1) else f (x - 1)
noncomputable def Halv (l : Nat) : Prop := l = 128 ∨ l = 64 ∨ l = 32 ∨ l = 16 ∨ l = 8 ∨ l = 4 ∨ l = 2
/-- equal modulo 3329 on the 256 places -/
noncomputable def Cf (f g : Nat → Int) : Prop := ∀ x, x < 256 → Cg (f x) (g x)
theorem Cf.refl (f : Nat → Int) : Cf f f := fun _ _ => Cg.refl _
theorem Cf.trans {f g h : Nat → Int} (a : Cf f g) (b : Cf g h) : Cf f h := fun x hx => (a x hx).trans (b x hx)
theorem Cf.symm {f g : Nat → Int} (a : Cf f g) : Cf g f := fun x hx => (a x hx).symm
theorem half_pos {l : Nat} (hl : Halv l) : 2 ≤ l ∧ ∃ m, 256 = 2 * l * m := by
  rcases hl with rfl | rfl | rfl | rfl | rfl | rfl | rfl
  · exact ⟨by decide, 1, rfl⟩
  · exact ⟨by decide, 2, rfl⟩
  · exact ⟨by decide, 4, rfl⟩
  · exact ⟨by decide, 8, rfl⟩
  · exact ⟨by decide, 16, rfl⟩
  · exact ⟨by decide, 32, rfl⟩
  · exact ⟨by decide, 64, rfl⟩
theorem dmA {l b o x P : Nat} (hP : P = l * b) (hx : x = 2 * P + o) (ho : o < 2 * l) : x / (2 * l) = b ∧ x % (2 * l) = o := by
  rw [hx, hP, ← Nat.mul_assoc]
  exact ⟨by rw [Nat.mul_add_div (Nat.lt_of_le_of_lt (Nat.zero_le _) ho), Nat.div_eq_of_lt ho, Nat.add_zero], by rw [Nat.mul_add_mod, Nat.mod_eq_of_lt ho]⟩
theorem dmB {l b o x P : Nat} (hP : P = l * b) (hx : x = 2 * P + o) (ho : o < l) : x / l = 2 * b ∧ x % l = o := by
  rw [hx, hP, Nat.mul_left_comm]
  exact ⟨by rw [Nat.mul_add_div (Nat.lt_of_le_of_lt (Nat.zero_le _) ho), Nat.div_eq_of_lt ho, Nat.add_zero], by rw [Nat.mul_add_mod, Nat.mod_eq_of_lt ho]⟩
theorem dmC {l b o x P : Nat} (hP : P = l * b) (hx : x = 2 * P + l + o) (ho : o < l) : x / l = 2 * b + 1 ∧ x % l = o := by
  have e : x = l * (2 * b + 1) + o := by rw [hx, hP, Nat.mul_add, Nat.mul_one, Nat.mul_left_comm]
  rw [e]
  exact ⟨by rw [Nat.mul_add_div (Nat.lt_of_le_of_lt (Nat.zero_le _) ho), Nat.div_eq_of_lt ho, Nat.add_zero], by rw [Nat.mul_add_mod, Nat.mod_eq_of_lt ho]⟩
theorem half_split {l x : Nat} (hl : Halv l) (hx : x < 256) : x = 2 * (l * (x / (2 * l))) + x % (2 * l) ∧ x % (2 * l) < 2 * l ∧ x / (2 * l) < 256 / (2 * l) ∧ 2 * (l * (x / (2 * l))) + 2 * l ≤ 256 := by
  obtain ⟨h2, m, hm⟩ := half_pos hl
  have h0 : 0 < 2 * l := by omega
  have hb : x / (2 * l) < m := by
    rw [Nat.div_lt_iff_lt_mul h0, Nat.mul_comm m, ← hm]
    exact hx
  refine ⟨?_, Nat.mod_lt _ h0, ?_, ?_⟩
  · rw [← Nat.mul_assoc]
    exact (Nat.div_add_mod _ _).symm
  · rw [hm, Nat.mul_div_cancel_left _ h0]
    exact hb
  · rw [← Nat.mul_assoc, hm]
    exact Nat.mul_le_mul (Nat.le_refl (2 * l)) hb
theorem half_in {l x : Nat} (hl : Halv l) (hx : x < 256) (h : x % (2 * l) < l) : x + l < 256 := by
  obtain ⟨h1, h2, h3, h4⟩ := half_split hl hx
  generalize l * (x / (2 * l)) = P at h1 h4
  generalize x % (2 * l) = o at h h1 h2
  clear h3
  omega
theorem LF_cg {l k : Nat} (hl : Halv l) {f g : Nat → Int} (h : Cf f g) : Cf (LF l k f) (LF l k g) := by
  intro x hx
  unfold LF
  by_cases c : x % (2 * l) < l
  · rw [if_pos c, if_pos c]; exact (h x hx).add ((h _ (half_in hl hx c)).mulL _)
  · rw [if_neg c, if_neg c]; exact (h _ (by omega)).sub ((h x hx).mulL _)
theorem ILF_cg {l k : Nat} (hl : Halv l) {f g : Nat → Int} (h : Cf f g) : Cf (ILF l k f) (ILF l k g) := by
  intro x hx
  unfold ILF
  by_cases c : x % (2 * l) < l
  · rw [if_pos c, if_pos c]; exact (h x hx).add (h _ (half_in hl hx c))
  · rw [if_neg c, if_neg c]; exact ((h x hx).sub (h _ (by omega))).mulL _
/-- the root of a block before and after a layer -/
noncomputable def nxt (k : Nat) (b : Nat) : Int := if b % 2 = 0 then zt (k + b / 2) else -zt (k + b / 2)
theorem ll_zero {a b : Nat} (h : a = b) (hb : b ≠ 0) : a ≠ 0 := h ▸ hb
theorem ll_lt {a b l : Nat} (h : a = b) (hb : b < l) : a < l := h ▸ hb
theorem ll_ge {a b l : Nat} (h : a = b) (hb : ¬ b < l) : ¬ a < l := h ▸ hb
theorem LF_MX {l k : Nat} (hl : Halv l) {c : Nat → Int} (hc : ∀ b, b < 256 / (2 * l) → Cg (c b) (zt (k + b) * zt (k + b))) (f : Nat → Int) : Cf (LF l k (MX (2 * l) c f)) (MX l (nxt k) (LF l k f)) := by
  intro x hx
  have hl0 : 2 ≤ l := (half_pos hl).1
  obtain ⟨hx0, ho2, hb', -⟩ := half_split hl hx
  obtain ⟨b, hb⟩ : ∃ b, b = x / (2 * l) := ⟨_, rfl⟩
  obtain ⟨o, ho⟩ : ∃ o, o = x % (2 * l) := ⟨_, rfl⟩
  rw [← hb, ← ho] at hx0
  rw [← ho] at ho2
  rw [← hb] at hb'
  have hz := hc b hb'
  obtain ⟨P, hP⟩ : ∃ P, P = l * b := ⟨_, rfl⟩
  rw [← hP] at hx0
  clear hl hc hx hb'
  by_cases c1 : o < l
  · by_cases c2 : o = 0
    · -- the first place of the block
      obtain ⟨e3, e1⟩ := dmB (x := x) hP hx0 c1
      have e2 := ll_zero (dmA (x := x + l) (o := l) hP (by omega) (by omega)).2 (by omega)
      have e4' := dmA (x := x + l - 1) (o := l - 1) hP (by omega) (by omega)
      have e4 : (x + l - 1) % (2 * l) < l := ll_lt e4'.2 (by omega)
      have e5 := e4'.1
      have e6 : x + 2 * l - 1 = x + l - 1 + l := by omega
      have e7 : (2 * b) % 2 = 0 := Nat.mul_mod_right 2 b
      have e8 : (2 * b) / 2 = b := Nat.mul_div_cancel_left b (by decide)
      rw [c2] at e1
      simp only [LF, MX, nxt, ← ho, ← hb, c1, c2, if_true, e1, e2, if_false, e3, e4, e5, e6, e7, e8]
      rw [if_pos (by omega)]
      rw [Int.mul_add, ← Int.mul_assoc, Int.add_comm]
      exact (Cg.refl _).add (hz.mulR _)
    · have e1 := ll_zero (dmB (x := x) hP hx0 c1).2 c2
      have e2 := ll_zero (dmA (x := x + l) (o := o + l) hP (by omega) (by omega)).2 (by omega)
      have e4' := dmA (x := x - 1) (o := o - 1) hP (by omega) (by omega)
      have e4 : (x - 1) % (2 * l) < l := ll_lt e4'.2 (by omega)
      have e5 := e4'.1
      have e6 : x + l - 1 = x - 1 + l := by omega
      simp only [LF, MX, ← ho, ← hb, c1, c2, if_true, e1, e2, if_false, e4, e5, e6]
      exact Cg.refl _
  · by_cases c2 : o = l
    · have e0 : x % (2 * l) ≠ 0 := ho ▸ (by omega)
      obtain ⟨e3, e1⟩ := dmC (x := x) (o := 0) hP (by omega) (by omega)
      obtain ⟨e2', e2⟩ := dmA (x := x - l) (o := 0) hP (by omega) (by omega)
      have e4' := dmA (x := x + l - 1) (o := 2 * l - 1) hP (by omega) (by omega)
      have e4 : ¬ (x + l - 1) % (2 * l) < l := ll_ge e4'.2 (by omega)
      have e5 := e4'.1
      have e6 : x - l + 2 * l - 1 = x + l - 1 := by omega
      have e7 : x + l - 1 - l = x - 1 := by omega
      have e8 : ¬ (2 * b + 1) % 2 = 0 := by omega
      have e9 : (2 * b + 1) / 2 = b := by omega
      simp only [LF, MX, nxt, ← hb, e0, e1, e2, e2', e3, e4, e5, e6, e7, e8, e9, if_true, if_false]
      rw [if_neg (by omega)]
      have : -zt (k + b) * (f (x - 1) - zt (k + b) * f (x + l - 1)) = zt (k + b) * zt (k + b) * f (x + l - 1) - zt (k + b) * f (x - 1) := by
        rw [Int.neg_mul, Int.mul_sub, Int.mul_assoc, Int.neg_sub]
      rw [this]
      exact (hz.mulR _).sub (Cg.refl _)
    · have e0 : x % (2 * l) ≠ 0 := ho ▸ (by omega)
      have e1 := ll_zero (dmC (x := x) (o := o - l) hP (by omega) (by omega)).2 (by omega)
      have e2 := ll_zero (dmA (x := x - l) (o := o - l) hP (by omega) (by omega)).2 (by omega)
      have e4' := dmA (x := x - 1) (o := o - 1) hP (by omega) (by omega)
      have e4 : ¬ (x - 1) % (2 * l) < l := ll_ge e4'.2 (by omega)
      have e5 := e4'.1
      have e6 : x - l - 1 = x - 1 - l := by omega
      simp only [LF, MX, ← ho, ← hb, c1, e0, e1, e2, if_false, e4, e5, e6]
      rw [if_neg (by omega)]
      exact Cg.refl _
theorem ILF_LF {l k : Nat} (hl : Halv l) (hk : ∀ b, b < 256 / (2 * l) → Cg (zt (2 * k - 1 - b) * zt (k + b)) (-1)) (f : Nat → Int) : Cf (ILF l (2 * k - 1) (LF l k f)) (fun x => 2 * f x) := by
  intro x hx
  obtain ⟨hx0, ho2, hb', -⟩ := half_split hl hx
  obtain ⟨b, hb⟩ : ∃ b, b = x / (2 * l) := ⟨_, rfl⟩
  obtain ⟨o, ho⟩ : ∃ o, o = x % (2 * l) := ⟨_, rfl⟩
  rw [← hb, ← ho] at hx0
  rw [← ho] at ho2
  rw [← hb] at hb'
  have hz := hk b hb'
  obtain ⟨P, hP⟩ : ∃ P, P = l * b := ⟨_, rfl⟩
  rw [← hP] at hx0
  clear hl hk hx hb'
  by_cases c1 : o < l
  · have e' := dmA (x := x + l) (o := o + l) hP (by omega) (by omega)
    have e1 : ¬ (x + l) % (2 * l) < l := ll_ge e'.2 (by omega)
    have e2 := e'.1
    have e3 : x + l - l = x := Nat.add_sub_cancel ..
    simp only [ILF, LF, ← ho, ← hb, c1, if_true, e1, if_false, e2, e3]
    exact Cg.of_eq (by omega)
  · have e' := dmA (x := x - l) (o := o - l) hP (by omega) (by omega)
    have e1 : (x - l) % (2 * l) < l := ll_lt e'.2 (by omega)
    have e2 := e'.1
    have e3 : x - l + l = x := by omega
    simp only [ILF, LF, ← ho, ← hb, c1, if_true, e1, if_false, e2, e3]
    have : zt (2 * k - 1 - b) * (f (x - l) - zt (k + b) * f x - (f (x - l) + zt (k + b) * f x)) = zt (2 * k - 1 - b) * zt (k + b) * (-2 * f x) := by
      rw [Int.mul_assoc]
      congr 1
      rw [← Int.mul_assoc, Int.mul_comm (zt (k + b)) (-2), Int.mul_assoc]
      omega
    rw [this]
    exact (hz.mulR _).trans (Cg.of_eq (by omega))
end Mine
end
section
namespace Mine
/-- a list as a function -/
noncomputable abbrev fn (cs : List Int) : Nat → Int := fun x => cs.getD x 0
theorem getD_set (cs : List Int) (j x : Nat) (v : Int) (hj : j < cs.length) : (cs.set j v).getD x 0 = if x = j then v else cs.getD x 0 := by
  rw [List.getD_eq_getElem?_getD, List.getD_eq_getElem?_getD, List.getElem?_set]
  by_cases e : j = x
  · subst e; simp [hj]
  · rw [if_neg e, if_neg (fun h => e h.symm)]
theorem blockF_len (z : Int) (l s : Nat) (cs : List Int) : ∀ i, (blockF z l s i cs).length = cs.length := by
  intro i
  induction i with
  | zero => rfl
  | succ i ih => rw [blockF_succ, bfly_len, ih]
theorem layerF_len (l k : Nat) (cs : List Int) : ∀ b, (layerF l k b cs).length = cs.length := by
  intro b
  induction b with
  | zero => rfl
  | succ b ih => rw [layerF_succ, blockF_len, ih]
theorem fwdF_len (cs : List Int) : ∀ r, (fwdF r cs).length = cs.length := by
  intro r
  induction r with
  | zero => rfl
  | succ r ih => rw [fwdF_succ, layerF_len, ih]
theorem bfly_get (z : Int) (l : Nat) (cs : List Int) (j x : Nat) (hl : 0 < l) (hj : j + l < cs.length) :
    (bfly z l cs j).getD x 0 = if x = j then cs.getD j 0 + z * cs.getD (j + l) 0 else if x = j + l then cs.getD j 0 - z * cs.getD (j + l) 0 else cs.getD x 0 := by
  unfold bfly
  rw [getD_set _ _ _ _ (by rw [List.length_set]; omega), getD_set _ _ _ _ hj, getD_set _ _ _ _ hj, if_neg (show ¬ j = j + l by omega)]
theorem blockF_get (z : Int) (l s : Nat) (cs : List Int) (x : Nat) (hl : 0 < l) (hs : s + 2 * l ≤ cs.length) : ∀ i, i ≤ l →
    (blockF z l s i cs).getD x 0 = if s ≤ x ∧ x < s + i then cs.getD x 0 + z * cs.getD (x + l) 0 else if s + l ≤ x ∧ x < s + l + i then cs.getD (x - l) 0 - z * cs.getD x 0 else cs.getD x 0 := by
  intro i
  induction i generalizing x with
  | zero => intro _; rw [if_neg (by omega), if_neg (by omega)]; rfl
  | succ i ih =>
    intro hi
    rw [blockF_succ, bfly_get _ _ _ _ _ hl (by rw [blockF_len]; omega), ih (s + i) (by omega), ih (s + i + l) (by omega), ih x (by omega)]
    rw [if_neg (show ¬ (s ≤ s + i ∧ s + i < s + i) by omega), if_neg (show ¬ (s + l ≤ s + i ∧ s + i < s + l + i) by omega), if_neg (show ¬ (s ≤ s + i + l ∧ s + i + l < s + i) by omega), if_neg (show ¬ (s + l ≤ s + i + l ∧ s + i + l < s + l + i) by omega)]
    by_cases e1 : x = s + i
    · subst e1
      rw [if_pos rfl, if_pos (by omega)]
    · rw [if_neg e1]
      by_cases e2 : x = s + i + l
      · subst e2
        rw [if_pos rfl, if_neg (by omega), if_pos (by omega), show s + i + l - l = s + i by omega]
      · rw [if_neg e2]
        by_cases c1 : s ≤ x ∧ x < s + i
        · rw [if_pos c1, if_pos (by omega)]
        · rw [if_neg c1, if_neg (show ¬ (s ≤ x ∧ x < s + (i + 1)) by omega)]
          by_cases c2 : s + l ≤ x ∧ x < s + l + i
          · rw [if_pos c2, if_pos (by omega)]
          · rw [if_neg c2, if_neg (by omega)]
theorem layerF_get {l : Nat} (hl : Halv l) (k : Nat) (cs : List Int) (hc : cs.length = 256) (x : Nat) : ∀ b, 2 * l * b ≤ 256 →
    (layerF l k b cs).getD x 0 = if x < 2 * l * b then LF l k (fn cs) x else cs.getD x 0 := by
  have hl0 : 2 ≤ l := by rcases hl with rfl | rfl | rfl | rfl | rfl | rfl | rfl <;> omega
  intro b
  induction b generalizing x with
  | zero => intro _; rw [if_neg (by omega)]; rfl
  | succ b ih =>
    intro hb
    have hm : 2 * l * (b + 1) = 2 * l * b + 2 * l := Nat.mul_succ _ _
    rw [layerF_succ, blockF_get _ _ _ _ _ (by omega) (by rw [layerF_len, hc]; omega) l (Nat.le_refl _), ih x (by omega), ih (x + l) (by omega), ih (x - l) (by omega)]
    have hd : ∀ y, 2 * l * b ≤ y → y < 2 * l * b + 2 * l → y / (2 * l) = b ∧ y % (2 * l) = y - 2 * l * b := by
      intro y h1 h2
      have e : y = (y - 2 * l * b) + 2 * l * b := by omega
      constructor
      · rw [e, Nat.add_mul_div_left _ _ (by omega), Nat.div_eq_of_lt (by omega), Nat.zero_add]
      · conv => lhs; rw [e]
        rw [Nat.add_mul_mod_self_left, Nat.mod_eq_of_lt (by omega)]
    by_cases c1 : 2 * l * b ≤ x ∧ x < 2 * l * b + l
    · rw [if_pos c1, if_neg (show ¬ x < 2 * l * b by omega), if_neg (show ¬ x + l < 2 * l * b by omega), if_pos (show x < 2 * l * (b + 1) by omega)]
      obtain ⟨d1, d2⟩ := hd x c1.1 (by omega)
      rw [LF, d1, d2, if_pos (by omega)]
      rfl
    · rw [if_neg c1]
      by_cases c2 : 2 * l * b + l ≤ x ∧ x < 2 * l * b + l + l
      · rw [if_pos c2, if_neg (show ¬ x - l < 2 * l * b by omega), if_neg (show ¬ x < 2 * l * b by omega), if_pos (show x < 2 * l * (b + 1) by omega)]
        obtain ⟨d1, d2⟩ := hd x (by omega) (by omega)
        rw [LF, d1, d2, if_neg (by omega)]
        rfl
      · rw [if_neg c2]
        by_cases c3 : x < 2 * l * b
        · rw [if_pos c3, if_pos (by omega)]
        · rw [if_neg c3, if_neg (by omega)]
/-- the forward layers, on functions -/
noncomputable def fw : Nat → (Nat → Int) → Nat → Int
  | 0, f => f
  | r + 1, f => LF (2 ^ (7 - r)) (2 ^ r) (fw r f)
theorem halv_pow {r : Nat} (hr : r ≤ 6) : Halv (2 ^ (7 - r)) ∧ 2 * 2 ^ (7 - r) * 2 ^ r = 256 ∧ 256 / (2 * 2 ^ (7 - r)) = 2 ^ r := by
  have : r = 0 ∨ r = 1 ∨ r = 2 ∨ r = 3 ∨ r = 4 ∨ r = 5 ∨ r = 6 := by omega
  unfold Halv
  rcases this with rfl | rfl | rfl | rfl | rfl | rfl | rfl <;> decide
theorem LF_eq {l k : Nat} (hl : Halv l) {f g : Nat → Int} (h : ∀ x, x < 256 → f x = g x) : ∀ x, x < 256 → LF l k f x = LF l k g x := by
  intro x hx
  unfold LF
  by_cases c : x % (2 * l) < l
  · rw [if_pos c, if_pos c, h x hx, h _ (half_in hl hx c)]
  · rw [if_neg c, if_neg c, h x hx, h _ (by omega)]
theorem fwdF_get (cs : List Int) (hc : cs.length = 256) : ∀ r, r ≤ 7 → ∀ x, x < 256 → (fwdF r cs).getD x 0 = fw r (fn cs) x := by
  intro r
  induction r with
  | zero => intro _ x _; rfl
  | succ r ih =>
    intro hr x hx
    obtain ⟨h1, h2, _⟩ := halv_pow (r := r) (by omega)
    rw [fwdF_succ, layerF_get h1 _ _ (by rw [fwdF_len, hc]) _ _ (by omega), if_pos (by omega), fw]
    exact LF_eq h1 (ih (by omega)) x hx
end Mine
end
section
namespace Mine
theorem ibfly_len (z : Int) (l : Nat) (cs : List Int) (j : Nat) : (ibfly z l cs j).length = cs.length := by simp [ibfly]
theorem iblockF_len (z : Int) (l s : Nat) (cs : List Int) : ∀ i, (iblockF z l s i cs).length = cs.length := by
  intro i
  induction i with
  | zero => rfl
  | succ i ih => rw [iblockF_succ, ibfly_len, ih]
theorem ilayerF_len (l k : Nat) (cs : List Int) : ∀ b, (ilayerF l k b cs).length = cs.length := by
  intro b
  induction b with
  | zero => rfl
  | succ b ih => rw [ilayerF_succ, iblockF_len, ih]
theorem invF_len (cs : List Int) : ∀ r, (invF r cs).length = cs.length := by
  intro r
  induction r with
  | zero => rfl
  | succ r ih => rw [invF_succ, ilayerF_len, ih]
theorem ibfly_get (z : Int) (l : Nat) (cs : List Int) (j x : Nat) (hl : 0 < l) (hj : j + l < cs.length) :
    (ibfly z l cs j).getD x 0 = if x = j then cs.getD j 0 + cs.getD (j + l) 0 else if x = j + l then z * (cs.getD (j + l) 0 - cs.getD j 0) else cs.getD x 0 := by
  unfold ibfly
  have hj0 : j < cs.length := by omega
  have l1 : j + l < (cs.set j (cs.getD j 0 + cs.getD (j + l) 0)).length := by rw [List.length_set]; exact hj
  have l2 : ∀ v, j + l < ((cs.set j (cs.getD j 0 + cs.getD (j + l) 0)).set (j + l) v).length := fun v => by rw [List.length_set]; exact l1
  have ne : ¬ j + l = j := by omega
  simp only [getD_set _ _ _ _ (l2 _), getD_set _ _ _ _ l1, getD_set _ _ _ _ hj0, ne, if_true, if_false]
  by_cases e1 : x = j
  · subst e1
    have ne' : ¬ x = x + l := by omega
    simp only [ne', if_true, if_false]
  · by_cases e2 : x = j + l
    · subst e2
      simp only [ne, if_true, if_false]
    · simp only [e1, e2, if_false]
theorem iblockF_get (z : Int) (l s : Nat) (cs : List Int) (x : Nat) (hl : 0 < l) (hs : s + 2 * l ≤ cs.length) : ∀ i, i ≤ l →
    (iblockF z l s i cs).getD x 0 = if s ≤ x ∧ x < s + i then cs.getD x 0 + cs.getD (x + l) 0 else if s + l ≤ x ∧ x < s + l + i then z * (cs.getD x 0 - cs.getD (x - l) 0) else cs.getD x 0 := by
  intro i
  induction i generalizing x with
  | zero => intro _; rw [if_neg (by omega), if_neg (by omega)]; rfl
  | succ i ih =>
    intro hi
    rw [iblockF_succ, ibfly_get _ _ _ _ _ hl (by rw [iblockF_len]; omega), ih (s + i) (by omega), ih (s + i + l) (by omega), ih x (by omega)]
    rw [if_neg (show ¬ (s ≤ s + i ∧ s + i < s + i) by omega), if_neg (show ¬ (s + l ≤ s + i ∧ s + i < s + l + i) by omega), if_neg (show ¬ (s ≤ s + i + l ∧ s + i + l < s + i) by omega), if_neg (show ¬ (s + l ≤ s + i + l ∧ s + i + l < s + l + i) by omega)]
    by_cases e1 : x = s + i
    · subst e1
      rw [if_pos rfl, if_pos (by omega)]
    · rw [if_neg e1]
      by_cases e2 : x = s + i + l
      · subst e2
        rw [if_pos rfl, if_neg (by omega), if_pos (by omega), show s + i + l - l = s + i by omega]
      · rw [if_neg e2]
        by_cases c1 : s ≤ x ∧ x < s + i
        · rw [if_pos c1, if_pos (by omega)]
        · rw [if_neg c1, if_neg (show ¬ (s ≤ x ∧ x < s + (i + 1)) by omega)]
          by_cases c2 : s + l ≤ x ∧ x < s + l + i
          · rw [if_pos c2, if_pos (by omega)]
          · rw [if_neg c2, if_neg (by omega)]
theorem ilayerF_get {l : Nat} (hl : Halv l) (k : Nat) (cs : List Int) (hc : cs.length = 256) (x : Nat) : ∀ b, 2 * l * b ≤ 256 →
    (ilayerF l k b cs).getD x 0 = if x < 2 * l * b then ILF l k (fn cs) x else cs.getD x 0 := by
  have hl0 : 2 ≤ l := by rcases hl with rfl | rfl | rfl | rfl | rfl | rfl | rfl <;> omega
  intro b
  induction b generalizing x with
  | zero => intro _; rw [if_neg (by omega)]; rfl
  | succ b ih =>
    intro hb
    have hm : 2 * l * (b + 1) = 2 * l * b + 2 * l := Nat.mul_succ _ _
    rw [ilayerF_succ, iblockF_get _ _ _ _ _ (by omega) (by rw [ilayerF_len, hc]; omega) l (Nat.le_refl _), ih x (by omega), ih (x + l) (by omega), ih (x - l) (by omega)]
    have hd : ∀ y, 2 * l * b ≤ y → y < 2 * l * b + 2 * l → y / (2 * l) = b ∧ y % (2 * l) = y - 2 * l * b := by
      intro y h1 h2
      have e : y = (y - 2 * l * b) + 2 * l * b := by omega
      constructor
      · rw [e, Nat.add_mul_div_left _ _ (by omega), Nat.div_eq_of_lt (by omega), Nat.zero_add]
      · conv => lhs; rw [e]
        rw [Nat.add_mul_mod_self_left, Nat.mod_eq_of_lt (by omega)]
    by_cases c1 : 2 * l * b ≤ x ∧ x < 2 * l * b + l
    · rw [if_pos c1, if_neg (show ¬ x < 2 * l * b by omega), if_neg (show ¬ x + l < 2 * l * b by omega), if_pos (show x < 2 * l * (b + 1) by omega)]
      obtain ⟨d1, d2⟩ := hd x c1.1 (by omega)
      rw [ILF, d1, d2, if_pos (by omega)]
    · rw [if_neg c1]
      by_cases c2 : 2 * l * b + l ≤ x ∧ x < 2 * l * b + l + l
      · rw [if_pos c2, if_neg (show ¬ x - l < 2 * l * b by omega), if_neg (show ¬ x < 2 * l * b by omega), if_pos (show x < 2 * l * (b + 1) by omega)]
        obtain ⟨d1, d2⟩ := hd x (by omega) (by omega)
        rw [ILF, d1, d2, if_neg (by omega)]
        rfl
      · rw [if_neg c2]
        by_cases c3 : x < 2 * l * b
        · rw [if_pos c3, if_pos (by omega)]
        · rw [if_neg c3, if_neg (by omega)]
/-- the layers back, on functions -/
noncomputable def iv : Nat → (Nat → Int) → Nat → Int
  | 0, f => f
  | r + 1, f => ILF (2 ^ (r + 1)) (2 ^ (7 - r) - 1) (iv r f)
theorem halv_ipow {r : Nat} (hr : r ≤ 6) : Halv (2 ^ (r + 1)) ∧ 2 * 2 ^ (r + 1) * 2 ^ (6 - r) = 256 ∧ 256 / (2 * 2 ^ (r + 1)) = 2 ^ (6 - r) ∧ 2 ^ (7 - r) = 2 * 2 ^ (6 - r) ∧ 2 ^ (r + 1) = 2 ^ (7 - (6 - r)) := by
  have : r = 0 ∨ r = 1 ∨ r = 2 ∨ r = 3 ∨ r = 4 ∨ r = 5 ∨ r = 6 := by omega
  unfold Halv
  rcases this with rfl | rfl | rfl | rfl | rfl | rfl | rfl <;> decide
theorem ILF_eq {l k : Nat} (hl : Halv l) {f g : Nat → Int} (h : ∀ x, x < 256 → f x = g x) : ∀ x, x < 256 → ILF l k f x = ILF l k g x := by
  intro x hx
  unfold ILF
  by_cases c : x % (2 * l) < l
  · rw [if_pos c, if_pos c, h x hx, h _ (half_in hl hx c)]
  · rw [if_neg c, if_neg c, h x hx, h _ (by omega)]
theorem invF_get (cs : List Int) (hc : cs.length = 256) : ∀ r, r ≤ 7 → ∀ x, x < 256 → (invF r cs).getD x 0 = iv r (fn cs) x := by
  intro r
  induction r with
  | zero => intro _ x _; rfl
  | succ r ih =>
    intro hr x hx
    obtain ⟨h1, h2, _⟩ := halv_ipow (r := r) (by omega)
    rw [invF_succ, ilayerF_get h1 _ _ (by rw [invF_len, hc]) _ _ (by omega), if_pos (by omega), iv]
    exact ILF_eq h1 (ih (by omega)) x hx
/-- the roots of the blocks after r layers -/
noncomputable def cr : Nat → Nat → Int
  | 0 => fun _ => -1
  | r + 1 => nxt (2 ^ r)
set_option maxRecDepth 100000 in
theorem cr_facts : ∀ r, r < 7 → ∀ b, b < 2 ^ r → (cr r b) % 3329 = (zt (2 ^ r + b) * zt (2 ^ r + b)) % 3329 := by decide +kernel
set_option maxRecDepth 100000 in
theorem inv_facts : ∀ r, r < 7 → ∀ b, b < 2 ^ r → (zt (2 * 2 ^ r - 1 - b) * zt (2 ^ r + b)) % 3329 = (-1 : Int) % 3329 := by decide +kernel
theorem fw_MX (f : Nat → Int) : ∀ r, r ≤ 7 → Cf (fw r (MX 256 (cr 0) f)) (MX (2 ^ (8 - r)) (cr r) (fw r f)) := by
  intro r
  induction r with
  | zero => intro _; exact Cf.refl _
  | succ r ih =>
    intro hr
    obtain ⟨h1, h2, h3⟩ := halv_pow (r := r) (by omega)
    refine (LF_cg h1 (ih (by omega))).trans ?_
    have e : 2 ^ (8 - r) = 2 * 2 ^ (7 - r) := by rw [show 8 - r = (7 - r) + 1 by omega, Nat.pow_succ, Nat.mul_comm]
    rw [e]
    have := LF_MX h1 (k := 2 ^ r) (c := cr r) (fun b hb => Cg.iff_emod.mpr (cr_facts r (by omega) b (h3 ▸ hb))) (fw r f)
    rw [show 8 - (r + 1) = 7 - r by omega]
    exact this
theorem iv_fw (f : Nat → Int) : ∀ r, r ≤ 7 → Cf (iv r (fw 7 f)) (fun x => 2 ^ r * fw (7 - r) f x) := by
  intro r
  induction r with
  | zero => intro _ x _; exact Cg.of_eq (by simp [iv])
  | succ r ih =>
    intro hr
    obtain ⟨h1, h2, h3, h4, h5⟩ := halv_ipow (r := r) (by omega)
    refine (ILF_cg h1 (ih (by omega))).trans ?_
    intro x hx
    have lin : ∀ (a : Int) (g : Nat → Int), ILF (2 ^ (r + 1)) (2 ^ (7 - r) - 1) (fun x => a * g x) x = a * ILF (2 ^ (r + 1)) (2 ^ (7 - r) - 1) g x := by
      intro a g
      unfold ILF
      split
      · rw [Int.mul_add]
      · rw [← Int.mul_sub, ← Int.mul_assoc, ← Int.mul_assoc, Int.mul_comm a]
    rw [lin]
    have e7 : 7 - r = (6 - r) + 1 := by omega
    have k9 : Cf (ILF (2 ^ (r + 1)) (2 ^ (7 - r) - 1) (fw (7 - r) f)) (fun x => 2 * fw (6 - r) f x) := by
      rw [h4, e7, fw, ← h5]
      exact ILF_LF h1 (fun b hb => Cg.iff_emod.mpr (inv_facts (6 - r) (by omega) b (h3 ▸ hb))) _
    have := (k9 x hx).mulL (2 ^ r)
    refine this.trans (Cg.of_eq ?_)
    show 2 ^ r * (2 * fw (6 - r) f x) = 2 ^ (r + 1) * fw (7 - (r + 1)) f x
    rw [show 7 - (r + 1) = 6 - r by omega, Int.pow_succ, Int.mul_assoc]
end Mine
end
section
namespace Mine
noncomputable def sh (p : Nat) (f : Nat → Int) (x : Nat) : Int := if p ≤ x then f (x - p) else -f (x + 256 - p)
theorem sh_succ (p : Nat) (hp : p < 255) (f : Nat → Int) : ∀ x, x < 256 → sh (p + 1) f x = MX 256 (cr 0) (sh p f) x := by
  intro x hx
  unfold MX
  by_cases e : x = 0
  · subst e
    have h1 : (0 : Nat) % 256 = 0 := rfl
    have h2 : ¬ (p + 1 ≤ 0) := by omega
    have h3 : p ≤ 0 + 256 - 1 := by omega
    have h4 : 0 + 256 - (p + 1) = 0 + 256 - 1 - p := by omega
    simp only [h1, if_true, sh, h2, h3, if_false, h4, cr]
    omega
  · have h1 : ¬ x % 256 = 0 := by omega
    simp only [h1, if_false, sh]
    by_cases c : p + 1 ≤ x
    · rw [if_pos c, if_pos (by omega), show x - (p + 1) = x - 1 - p by omega]
    · rw [if_neg c, if_neg (by omega), show x + 256 - (p + 1) = x - 1 + 256 - p by omega]
theorem fw_cg {f g : Nat → Int} (h : Cf f g) : ∀ r, r ≤ 7 → Cf (fw r f) (fw r g) := by
  intro r
  induction r with
  | zero => intro _; exact h
  | succ r ih => intro hr; exact LF_cg (halv_pow (r := r) (by omega)).1 (ih (by omega))
theorem iv_cg {f g : Nat → Int} (h : Cf f g) : ∀ r, r ≤ 7 → Cf (iv r f) (iv r g) := by
  intro r
  induction r with
  | zero => intro _; exact h
  | succ r ih => intro hr; exact ILF_cg (halv_ipow (r := r) (by omega)).1 (ih (by omega))
noncomputable def mxp : Nat → (Nat → Int) → Nat → Int
  | 0, g => g
  | p + 1, g => MX 2 (cr 7) (mxp p g)
theorem MX2_cg {c f g : Nat → Int} (h : Cf f g) : Cf (MX 2 c f) (MX 2 c g) := by
  intro x hx
  unfold MX
  by_cases e : x % 2 = 0
  · rw [if_pos e, if_pos e]; exact (h _ (by omega)).mulL _
  · rw [if_neg e, if_neg e]; exact h _ (by omega)
theorem fw_sh (f : Nat → Int) : ∀ p, p ≤ 255 → Cf (fw 7 (sh p f)) (mxp p (fw 7 f)) := by
  intro p
  induction p with
  | zero => intro _; exact fw_cg (fun x _ => Cg.of_eq (by simp [sh])) 7 (Nat.le_refl _)
  | succ p ih =>
    intro hp
    refine (fw_cg (fun x hx => Cg.of_eq (sh_succ p (by omega) f x hx)) 7 (Nat.le_refl _)).trans ?_
    refine (fw_MX (sh p f) 7 (Nat.le_refl _)).trans ?_
    exact MX2_cg (ih (by omega))
theorem MX2_even (c h : Nat → Int) (i : Nat) : MX 2 c h (2 * i) = c i * h (2 * i + 1) := by
  unfold MX
  rw [if_pos (by omega), show 2 * i / 2 = i by omega, show 2 * i + 2 - 1 = 2 * i + 1 by omega]
theorem MX2_odd (c h : Nat → Int) (i : Nat) : MX 2 c h (2 * i + 1) = h (2 * i) := by
  unfold MX
  rw [if_neg (by omega), show 2 * i + 1 - 1 = 2 * i by omega]
theorem mxp_even (g : Nat → Int) (i : Nat) : ∀ k, mxp (2 * k) g (2 * i) = cr 7 i ^ k * g (2 * i) ∧ mxp (2 * k) g (2 * i + 1) = cr 7 i ^ k * g (2 * i + 1) := by
  intro k
  induction k with
  | zero => exact ⟨by simp [mxp], by simp [mxp]⟩
  | succ k ih =>
    rw [show 2 * (k + 1) = 2 * k + 1 + 1 by omega, mxp, mxp, MX2_even, MX2_odd, MX2_odd, MX2_even, ih.1, ih.2, Int.pow_succ, ← Int.mul_assoc, ← Int.mul_assoc, Int.mul_comm (cr 7 i)]
    exact ⟨rfl, rfl⟩
theorem mxp_odd (g : Nat → Int) (i k : Nat) : mxp (2 * k + 1) g (2 * i) = cr 7 i * (cr 7 i ^ k * g (2 * i + 1)) ∧ mxp (2 * k + 1) g (2 * i + 1) = cr 7 i ^ k * g (2 * i) := by
  rw [mxp, MX2_even, MX2_odd, (mxp_even g i k).1, (mxp_even g i k).2]
  exact ⟨rfl, rfl⟩
theorem lin1 (z v a b : Int) : z * (a + v * b) = z * a + v * (z * b) := by
  rw [Int.mul_add, ← Int.mul_assoc z v b, Int.mul_comm z v, Int.mul_assoc]
theorem lin2 (z v a b c d : Int) : a + v * b + z * (c + v * d) = a + z * c + v * (b + z * d) := by
  rw [lin1, Int.mul_add]; omega
theorem lin3 (z v a b c d : Int) : a + v * b - z * (c + v * d) = a - z * c + v * (b - z * d) := by
  rw [lin1, Int.mul_sub]; omega
theorem fw_lin (f g : Nat → Int) (v : Int) : ∀ r x, fw r (fun x => f x + v * g x) x = fw r f x + v * fw r g x := by
  intro r
  induction r with
  | zero => intro x; rfl
  | succ r ih =>
    intro x
    have e : fw r (fun x => f x + v * g x) = fun x => fw r f x + v * fw r g x := funext ih
    simp only [fw, e, LF]
    split
    · exact lin2 ..
    · exact lin3 ..
theorem fw_zero : ∀ r x, fw r (fun _ => 0) x = 0 := by
  intro r
  induction r with
  | zero => intro x; rfl
  | succ r ih =>
    intro x
    have e : fw r (fun _ => 0) = fun _ => (0 : Int) := funext ih
    simp only [fw, e, LF, Int.mul_zero]
    split <;> rfl
theorem wantF_len (row : List Int) (p v : Int) (W : List Int) : ∀ n, (wantF row p v n W).length = W.length := by
  intro n
  induction n with
  | zero => rfl
  | succ n ih => rw [wantF_succ, wantStep]; split <;> rw [List.length_set, ih]
theorem wantF_get (row W : List Int) (p : Nat) (v : Int) (hp : p < 256) (hW : W.length = 256) (x : Nat) (hx : x < 256) : ∀ n, n ≤ 256 →
    (wantF row (p : Int) v n W).getD x 0 = if (x + 256 - p) % 256 < n then W.getD x 0 + v * sh p (fn row) x else W.getD x 0 := by
  intro n
  induction n with
  | zero => intro _; rw [if_neg (by omega)]; rfl
  | succ n ih =>
    intro hn
    rw [wantF_succ, wantStep]
    by_cases c : 0 + (n : Int) + (p : Int) < 256
    · have e1 : (0 + (n : Int) + (p : Int)).toNat = n + p := by omega
      have e2 : (0 + (n : Int)).toNat = n := by omega
      rw [if_pos c, e1, e2, getD_set _ _ _ _ (by rw [wantF_len, hW]; omega)]
      by_cases e : x = n + p
      · rw [if_pos e, ← e, ih (by omega), if_neg (by omega), if_pos (by omega), sh, if_pos (by omega), show x - p = n by omega]
      · rw [if_neg e, ih (by omega)]
        by_cases d : (x + 256 - p) % 256 < n
        · rw [if_pos d, if_pos (by omega)]
        · rw [if_neg d, if_neg (by omega)]
    · have e1 : (0 + (n : Int) + (p : Int) - 256).toNat = n + p - 256 := by omega
      have e2 : (0 + (n : Int)).toNat = n := by omega
      rw [if_neg c, e1, e2, getD_set _ _ _ _ (by rw [wantF_len, hW]; omega)]
      by_cases e : x = n + p - 256
      · rw [if_pos e, ← e, ih (by omega), if_neg (by omega), if_pos (by omega), sh, if_neg (by omega), show x + 256 - p = n by omega]
        rw [Int.mul_neg]; rfl
      · rw [if_neg e, ih (by omega)]
        by_cases d : (x + 256 - p) % 256 < n
        · rw [if_pos d, if_pos (by omega)]
        · rw [if_neg d, if_neg (by omega)]
theorem wantT_len (row : List Int) (W : List Int) (t : Int × Int) : (wantT row W t).length = W.length := wantF_len ..
noncomputable def tsum (g : Nat → Int) (x : Nat) (a : Int) (ts : List (Int × Int)) : Int := ts.foldl (fun a t => a + t.2 * mxp t.1.toNat g x) a
theorem tsum_cg (g : Nat → Int) (x : Nat) (ts : List (Int × Int)) : ∀ a b, Cg a b → Cg (tsum g x a ts) (tsum g x b ts) := by
  induction ts with
  | nil => intro a b h; exact h
  | cons t l ih => intro a b h; exact ih _ _ (h.add (Cg.refl _))
theorem fw_eq {f g : Nat → Int} (h : ∀ x, x < 256 → f x = g x) : ∀ r, r ≤ 7 → ∀ x, x < 256 → fw r f x = fw r g x := by
  intro r
  induction r with
  | zero => intro _; exact h
  | succ r ih => intro hr; exact LF_eq (halv_pow (r := r) (by omega)).1 (ih (by omega))
theorem wantL_cons (row : List Int) (t : Int × Int) (l : List (Int × Int)) (W : List Int) : wantL row (t :: l) W = wantL row l (wantT row W t) := by simp only [wantL, List.foldl_cons]
theorem tsum_cons (g : Nat → Int) (x : Nat) (a : Int) (t : Int × Int) (l : List (Int × Int)) : tsum g x a (t :: l) = tsum g x (a + t.2 * mxp t.1.toNat g x) l := by simp only [tsum, List.foldl_cons]
theorem want_fw (row : List Int) (ts : List (Int × Int)) (hp : ∀ t ∈ ts, 0 ≤ t.1 ∧ t.1 < 256) : ∀ W : List Int, W.length = 256 → ∀ x, x < 256 →
    Cg (fw 7 (fn (wantL row ts W)) x) (tsum (fw 7 (fn row)) x (fw 7 (fn W) x) ts) := by
  induction ts with
  | nil => intro W _ x _; exact Cg.refl _
  | cons t l ih =>
    intro W hW x hx
    obtain ⟨p, v⟩ := t
    obtain ⟨h1, h2⟩ := hp _ (.head _)
    obtain ⟨k, rfl⟩ := Int.eq_ofNat_of_zero_le h1
    dsimp only at h2
    rw [wantL_cons, tsum_cons]
    refine (ih (fun t ht => hp t (.tail _ ht)) (wantT row W ((k : Int), v)) (by rw [wantT_len, hW]) x hx).trans ?_
    refine tsum_cg _ _ _ _ _ ?_
    have e : fw 7 (fn (wantT row W ((k : Int), v))) x = fw 7 (fun x => fn W x + v * sh k (fn row) x) x := by
      refine fw_eq (fun y hy => ?_) 7 (Nat.le_refl _) x hx
      show (wantF row (k : Int) v 256 W).getD y 0 = _
      rw [wantF_get row W k v (by omega) hW y hy 256 (Nat.le_refl _), if_pos (Nat.mod_lt _ (by decide))]
    rw [e, fw_lin]
    exact (Cg.refl _).add ((fw_sh (fn row) k (by omega) x hx).mulL _)
end Mine
end
section
open PySem PySem.W PyProof.Rows PySem.Calls PyProof.V PySem.Spec
namespace Mine
set_option maxRecDepth 100000 in
theorem roots_cr : ∀ i, i < 128 → (rootsL.getD i 0) % 3329 = (cr 7 i) % 3329 := by decide +kernel
theorem powMod_eq (b e m : Nat) : Builtin.powMod b e m = b ^ e % m := by
  have key : ∀ n, (List.range n).reverse.foldl (fun p i => if e.testBit i then p * p % m * b % m else p * p % m) (b ^ (e >>> n) % m) = b ^ e % m := by
    intro n
    induction n with
    | zero => rfl
    | succ n ih =>
      rw [List.range_succ, List.reverse_append, List.reverse_cons, List.reverse_nil, List.nil_append, List.singleton_append, List.foldl_cons]
      have h1 : e >>> n = 2 * (e >>> (n + 1)) + (if e.testBit n then 1 else 0) := by
        rw [Nat.shiftRight_succ, Nat.testBit, Nat.and_comm, Nat.and_one_is_mod]
        have : e >>> n % 2 = 0 ∨ e >>> n % 2 = 1 := by omega
        rcases this with h | h <;> simp [h] <;> omega
      have h2 : (if e.testBit n = true then b ^ (e >>> (n + 1)) % m * (b ^ (e >>> (n + 1)) % m) % m * b % m else b ^ (e >>> (n + 1)) % m * (b ^ (e >>> (n + 1)) % m) % m) = b ^ (e >>> n) % m := by
        have sq : b ^ (e >>> (n + 1)) % m * (b ^ (e >>> (n + 1)) % m) % m = b ^ (2 * (e >>> (n + 1))) % m := by
          rw [← Nat.mul_mod, ← Nat.pow_add, Nat.two_mul]
        by_cases c : e.testBit n = true
        · rw [if_pos c, sq, h1, if_pos c, Nat.pow_succ, Nat.mod_mul_mod]
        · rw [if_neg c] at h1
          rw [if_neg c, sq, h1]
          rfl
      rw [h2]
      exact ih
  have h0 : e >>> Builtin.Int.intBits (e : Int) = 0 := by
    rw [Nat.shiftRight_eq_div_pow]
    refine Nat.div_eq_of_lt ?_
    have := natAbs_lt_pow_bits (e : Int)
    simpa using this
  have := key (Builtin.Int.intBits (e : Int))
  rw [h0, Nat.pow_zero] at this
  exact this
theorem powv_cg {r c : Int} (h : Cg r c) (k : Nat) {p : Int} (hp : p.fdiv 2 = (k : Int)) : Cg (powv r p) (c ^ k) := by
  unfold powv
  rw [powMod_eq, hp]
  have h1 : (((r % 3329).toNat : Nat) : Int) = r % 3329 := Int.toNat_of_nonneg (Int.emod_nonneg _ (by decide))
  have h2 : ((3329 : Int).toNat) = 3329 := rfl
  rw [h2, Int.natCast_emod, Int.natCast_pow, h1, Int.toNat_natCast]
  refine (Cg.emod _).trans ?_
  have h3 : Cg (r % 3329) c := (Cg.emod r).trans h
  clear hp
  induction k with
  | zero => rw [Int.pow_zero, Int.pow_zero]; exact Cg.refl _
  | succ j ih => rw [Int.pow_succ, Int.pow_succ]; exact ih.mul h3
theorem mA (F v w b : Int) : F * (b + v * w) = F * b + v * (w * F) := by
  rw [Int.mul_add, ← Int.mul_assoc F v w, Int.mul_comm F v, Int.mul_assoc, Int.mul_comm F w]
theorem mB (z F v w b : Int) : z * F * (b + v * w) = z * F * b + v * (z * (w * F)) := by
  rw [mA, Int.mul_left_comm w z F]
/-- the sums that a pair of values stands for -/
theorem pair_inv (g : Nat → Int) (i : Nat) (hi : i < 128) (F0 F1 r : Int) (h0 : Cg F0 (g (2 * i))) (h1 : Cg F1 (g (2 * i + 1))) (hr : Cg r (cr 7 i)) (ts : List (Int × Int)) (hp : ∀ t ∈ ts, 0 ≤ t.1) :
    ∀ (b0 b1 a0 a1 : Int), Cg (F0 * b0 + cr 7 i * F1 * b1) a0 → Cg (F1 * b0 + F0 * b1) a1 →
    ∃ c0 c1, ts.foldl (pairUp r) [b0, b1] = [c0, c1] ∧ Cg (F0 * c0 + cr 7 i * F1 * c1) (tsum g (2 * i) a0 ts) ∧ Cg (F1 * c0 + F0 * c1) (tsum g (2 * i + 1) a1 ts) := by
  induction ts with
  | nil => intro b0 b1 a0 a1 x y; exact ⟨b0, b1, rfl, x, y⟩
  | cons t l ih =>
    intro b0 b1 a0 a1 x y
    obtain ⟨p, v⟩ := t
    have hp0 : 0 ≤ p := hp _ (.head _)
    obtain ⟨n, rfl⟩ := Int.eq_ofNat_of_zero_le hp0
    rw [List.foldl_cons, tsum_cons, tsum_cons]
    have hl := fun t ht => hp t (List.Mem.tail _ ht)
    have hn : ((n : Int)).toNat = n := rfl
    obtain ⟨k, hk | hk⟩ : ∃ k, n = 2 * k ∨ n = 2 * k + 1 := ⟨n / 2, by omega⟩
    · have f1 : ((n : Int)).fmod 2 = 0 := by rw [Int.fmod_eq_emod_of_nonneg _ (by decide)]; omega
      have f2 : ((n : Int)).fdiv 2 = (k : Int) := by rw [Int.fdiv_eq_ediv_of_nonneg _ (by decide)]; omega
      have e : pairUp r [b0, b1] ((n : Int), v) = [b0 + v * powv r (n : Int), b1] := by
        unfold pairUp
        dsimp only
        rw [f1]
        rfl
      have q := powv_cg hr k f2
      rw [e]
      dsimp only
      rw [hn, hk, (mxp_even g i k).1, (mxp_even g i k).2]
      refine ih hl _ _ _ _ ?_ ?_
      · have : F0 * (b0 + v * powv r (n : Int)) + cr 7 i * F1 * b1 = F0 * b0 + cr 7 i * F1 * b1 + v * (powv r (n : Int) * F0) := by
          rw [mA]; omega
        rw [← hk, this]
        exact x.add ((q.mul h0).mulL v)
      · have : F1 * (b0 + v * powv r (n : Int)) + F0 * b1 = F1 * b0 + F0 * b1 + v * (powv r (n : Int) * F1) := by
          rw [mA]; omega
        rw [← hk, this]
        exact y.add ((q.mul h1).mulL v)
    · have f1 : ((n : Int)).fmod 2 = 1 := by rw [Int.fmod_eq_emod_of_nonneg _ (by decide)]; omega
      have f2 : ((n : Int)).fdiv 2 = (k : Int) := by rw [Int.fdiv_eq_ediv_of_nonneg _ (by decide)]; omega
      have e : pairUp r [b0, b1] ((n : Int), v) = [b0, b1 + v * powv r (n : Int)] := by
        unfold pairUp
        dsimp only
        rw [f1]
        rfl
      have q := powv_cg hr k f2
      rw [e]
      dsimp only
      rw [hn, hk, (mxp_odd g i k).1, (mxp_odd g i k).2]
      refine ih hl _ _ _ _ ?_ ?_
      · have : F0 * b0 + cr 7 i * F1 * (b1 + v * powv r (n : Int)) = F0 * b0 + cr 7 i * F1 * b1 + v * (cr 7 i * (powv r (n : Int) * F1)) := by
          rw [mB]; omega
        rw [← hk, this]
        exact x.add (((q.mul h1).mulL _).mulL v)
      · have : F1 * b0 + F0 * (b1 + v * powv r (n : Int)) = F1 * b0 + F0 * b1 + v * (powv r (n : Int) * F0) := by
          rw [mA]; omega
        rw [← hk, this]
        exact y.add ((q.mul h0).mulL v)
end Mine
end
section
open PySem PySem.W PyProof.Rows PySem.Calls PyProof.V PySem.Spec
namespace Mine
theorem modF_len (cs : List Int) : ∀ n, (modF n cs).length = cs.length := by
  intro n
  induction n with
  | zero => rfl
  | succ n ih => rw [modF_succ, List.length_set, ih]
theorem modF_get (cs : List Int) (x : Nat) : ∀ n, n ≤ cs.length → (modF n cs).getD x 0 = if x < n then (cs.getD x 0).fmod 3329 else cs.getD x 0 := by
  intro n
  induction n generalizing x with
  | zero => intro _; rw [if_neg (by omega)]; rfl
  | succ n ih =>
    intro hn
    rw [modF_succ, getD_set _ _ _ _ (by rw [modF_len]; omega), ih n (by omega), ih x (by omega), if_neg (Nat.lt_irrefl n)]
    by_cases e : x = n
    · subst e; rw [if_pos rfl, if_pos (by omega)]
    · rw [if_neg e]
      by_cases c : x < n
      · rw [if_pos c, if_pos (by omega)]
      · rw [if_neg c, if_neg (by omega)]
theorem mulF_len (cs : List Int) : ∀ n, (mulF n cs).length = cs.length := by
  intro n
  induction n with
  | zero => rfl
  | succ n ih => rw [mulF_succ, List.length_set, ih]
theorem mulF_get (cs : List Int) (x : Nat) : ∀ n, n ≤ cs.length → (mulF n cs).getD x 0 = if x < n then (cs.getD x 0 * 3303).fmod 3329 else cs.getD x 0 := by
  intro n
  induction n generalizing x with
  | zero => intro _; rw [if_neg (by omega)]; rfl
  | succ n ih =>
    intro hn
    rw [mulF_succ, getD_set _ _ _ _ (by rw [mulF_len]; omega), ih n (by omega), ih x (by omega), if_neg (Nat.lt_irrefl n)]
    by_cases e : x = n
    · subst e; rw [if_pos rfl, if_pos (by omega)]
    · rw [if_neg e]
      by_cases c : x < n
      · rw [if_pos c, if_pos (by omega)]
      · rw [if_neg c, if_neg (by omega)]
theorem mulP_get (f g : List Int) (i s : Nat) (hs : s < 4) : ∀ n, i < n → (mulP f g n).getD (4 * i + s) 0 = (mulTurn f g i).getD s 0 := by
  intro n
  induction n with
  | zero => intro h; omega
  | succ n ih =>
    intro h
    rw [mulP_succ, List.getD_eq_getElem?_getD, List.getD_eq_getElem?_getD]
    by_cases e : i < n
    · rw [List.getElem?_append_left (by rw [mulP_len]; omega), ← List.getD_eq_getElem?_getD, ih e, List.getD_eq_getElem?_getD]
    · have e' : i = n := by omega
      subst e'
      rw [List.getElem?_append_right (by rw [mulP_len]; omega), mulP_len, show 4 * i + s - 4 * i = s by omega]
theorem valTurn_len (ts : List (Int × Int)) (r : Int) : (valTurn ts r).length = 2 := by rw [valTurn, foldPair_len]; rfl
theorem values_get (ts : List (Int × Int)) (s : Nat) (hs : s < 2) (rs : List Int) : ∀ i, i < rs.length → (valuesL ts rs).getD (2 * i + s) 0 = (valTurn ts (rs.getD i 0)).getD s 0 := by
  induction rs with
  | nil => intro i h; exact absurd h (Nat.not_lt_zero _)
  | cons a l ih =>
    intro i h
    have e : valuesL ts (a :: l) = valTurn ts a ++ valuesL ts l := by simp [valuesL]
    rw [e, List.getD_eq_getElem?_getD]
    cases i with
    | zero => rw [List.getElem?_append_left (by rw [valTurn_len]; omega), Nat.mul_zero, Nat.zero_add, ← List.getD_eq_getElem?_getD]; rfl
    | succ i =>
      rw [List.getElem?_append_right (by rw [valTurn_len]; omega), valTurn_len, show 2 * (i + 1) + s - 2 = 2 * i + s by omega, ← List.getD_eq_getElem?_getD, ih i (by simpa using h)]
      rfl
theorem toNtt_len (cs : List Int) : (toNtt cs).length = cs.length := by rw [toNtt, modF_len, fwdF_len]
theorem toNtt_fm (cs : List Int) (hc : cs.length = 256) (x : Nat) (hx : x < 256) : (toNtt cs).getD x 0 = (fw 7 (fn cs) x).fmod 3329 := by
  rw [toNtt, modF_get _ _ _ (by rw [fwdF_len, hc]; exact Nat.le_refl _), if_pos hx, fwdF_get cs hc 7 (Nat.le_refl _) x hx]
theorem toNtt_bounds (cs : List Int) (hc : cs.length = 256) (i : Nat) : 0 ≤ (toNtt cs).getD i 0 ∧ (toNtt cs).getD i 0 < 3329 := by
  by_cases h : i < 256
  · rw [toNtt_fm cs hc i h]
    exact ⟨Int.fmod_nonneg_of_pos _ (by decide), Int.fmod_lt_of_pos _ (by decide)⟩
  · rw [List.getD_eq_getElem?_getD, List.getElem?_eq_none (by rw [toNtt_len, hc]; omega)]
    decide
theorem cr7 (i : Nat) : cr 7 i = if i % 2 = 0 then zt (64 + i / 2) else -zt (64 + i / 2) := rfl
theorem mulP_pair (f g : List Int) (i : Nat) (hi : i < 128) : (mulP f g 64).getD (2 * i) 0 = (f.getD (2 * i) 0 * g.getD (2 * i) 0 + cr 7 i * f.getD (2 * i + 1) 0 * g.getD (2 * i + 1) 0).fmod 3329 ∧
    (mulP f g 64).getD (2 * i + 1) 0 = (f.getD (2 * i + 1) 0 * g.getD (2 * i) 0 + f.getD (2 * i) 0 * g.getD (2 * i + 1) 0).fmod 3329 := by
  obtain ⟨k, rfl | rfl⟩ : ∃ k, i = 2 * k ∨ i = 2 * k + 1 := ⟨i / 2, by omega⟩
  · rw [cr7, if_pos (by omega), show 2 * k / 2 = k by omega, show 2 * (2 * k) = 4 * k by omega]
    exact ⟨mulP_get f g k 0 (by omega) 64 (by omega), mulP_get f g k 1 (by omega) 64 (by omega)⟩
  · rw [cr7, if_neg (by omega), show (2 * k + 1) / 2 = k by omega, show 2 * (2 * k + 1) = 4 * k + 2 by omega]
    exact ⟨mulP_get f g k 2 (by omega) 64 (by omega), mulP_get f g k 3 (by omega) 64 (by omega)⟩
theorem fn_zero (x : Nat) : fn (List.replicate 256 0) x = 0 := by
  show (List.replicate 256 (0 : Int)).getD x 0 = 0
  rw [List.getD_eq_getElem?_getD, List.getElem?_replicate]
  split <;> rfl
theorem wantL_len (row : List Int) (ts : List (Int × Int)) : ∀ W, (wantL row ts W).length = W.length := by
  induction ts with
  | nil => intro W; rfl
  | cons t l ih => intro W; rw [wantL_cons, ih, wantT_len]
theorem prod_fw (row : List Int) (hr : row.length = 256) (ts : List (Int × Int)) (hts : ∀ t ∈ ts, 0 ≤ t.1 ∧ t.1 < 256) :
    Cf (fn (mulP (toNtt row) (valuesL ts rootsL) 64)) (fw 7 (fn (wantL row ts (List.replicate 256 0)))) := by
  have hz : ∀ x, x < 256 → fw 7 (fn (List.replicate 256 0)) x = 0 := fun x hx => (fw_eq (fun y _ => fn_zero y) 7 (Nat.le_refl _) x hx).trans (fw_zero 7 x)
  have hlen : rootsL.length = 128 := by decide +kernel
  have key : ∀ i, i < 128 → Cg (fn (mulP (toNtt row) (valuesL ts rootsL) 64) (2 * i)) (fw 7 (fn (wantL row ts (List.replicate 256 0))) (2 * i)) ∧ Cg (fn (mulP (toNtt row) (valuesL ts rootsL) 64) (2 * i + 1)) (fw 7 (fn (wantL row ts (List.replicate 256 0))) (2 * i + 1)) := by
    intro i hi
    have h0 : Cg ((toNtt row).getD (2 * i) 0) (fw 7 (fn row) (2 * i)) := by rw [toNtt_fm row hr _ (by omega)]; exact Cg.fmod _
    have h1 : Cg ((toNtt row).getD (2 * i + 1) 0) (fw 7 (fn row) (2 * i + 1)) := by rw [toNtt_fm row hr _ (by omega)]; exact Cg.fmod _
    obtain ⟨c0, c1, e, k0, k1⟩ := pair_inv (fw 7 (fn row)) i hi _ _ (rootsL.getD i 0) h0 h1 (Cg.iff_emod.mpr (roots_cr i hi)) ts (fun t ht => (hts t ht).1) 0 0 0 0 (Cg.of_eq (by simp)) (Cg.of_eq (by simp))
    have v0 : (valuesL ts rootsL).getD (2 * i) 0 = c0 := by
      have := values_get ts 0 (by omega) rootsL i (by omega)
      rw [Nat.add_zero, valTurn, e] at this
      exact this
    have v1 : (valuesL ts rootsL).getD (2 * i + 1) 0 = c1 := by
      have := values_get ts 1 (by omega) rootsL i (by omega)
      rw [valTurn, e] at this
      exact this
    obtain ⟨m0, m1⟩ := mulP_pair (toNtt row) (valuesL ts rootsL) i hi
    have w0 := want_fw row ts hts (List.replicate 256 0) List.length_replicate (2 * i) (by omega)
    have w1 := want_fw row ts hts (List.replicate 256 0) List.length_replicate (2 * i + 1) (by omega)
    rw [hz _ (by omega)] at w0 w1
    rw [v0, v1] at m0 m1
    constructor
    · refine (Cg.of_eq m0).trans ((Cg.fmod _).trans (k0.trans w0.symm))
    · refine (Cg.of_eq m1).trans ((Cg.fmod _).trans (k1.trans w1.symm))
  intro x hx
  have := key (x / 2) (by omega)
  rcases (show x = 2 * (x / 2) ∨ x = 2 * (x / 2) + 1 by omega) with e | e
  · rw [e]; exact this.1
  · rw [e]; exact this.2
theorem back_num (a : Int) : Cg (2 ^ 7 * a * 3303) a := ⟨127 * a, by
  have e : (2 : Int) ^ 7 = 128 := by decide
  rw [e]
  omega⟩
theorem iv7 (M W : List Int) (h : Cf (fn M) (fw 7 (fn W))) (x : Nat) (hx : x < 256) : Cg (iv 7 (fn M) x) (2 ^ 7 * W.getD x 0) :=
  (iv_cg h 7 (Nat.le_refl _) x hx).trans (iv_fw (fn W) 7 (Nat.le_refl _) x hx)
theorem from_get (M W : List Int) (hM : M.length = 256) (h : Cf (fn M) (fw 7 (fn W))) (x : Nat) (hx : x < 256) : (fromNtt M).getD x 0 = (W.getD x 0).fmod 3329 := by
  have e : (fromNtt M).getD x 0 = (iv 7 (fn M) x * 3303).fmod 3329 := by
    rw [fromNtt, mulF_get _ _ _ (by rw [invF_len, hM]; exact Nat.le_refl _), if_pos hx, invF_get _ hM 7 (Nat.le_refl _) x hx]
  rw [e]
  exact Cg.fmod_eq (((iv7 M W h x hx).mulR 3303).trans (back_num _))
theorem from_fw (M W : List Int) (hM : M.length = 256) (hW : W.length = 256) (h : Cf (fn M) (fw 7 (fn W))) : fromNtt M = W.map (fun c => c.fmod 3329) := by
  have hl : (fromNtt M).length = 256 := by rw [fromNtt, mulF_len, invF_len, hM]
  have get : ∀ x, x < 256 → (fromNtt M).getD x 0 = (W.getD x 0).fmod 3329 := fun x hx => from_get M W hM h x hx
  apply List.ext_getElem
  · rw [hl, List.length_map, hW]
  · intro i h1 h2
    have hi : i < 256 := by rw [hl] at h1; exact h1
    have := get i hi
    rw [List.getD_eq_getElem?_getD, List.getD_eq_getElem?_getD, List.getElem?_eq_getElem h1, List.getElem?_eq_getElem (by rw [hW]; exact hi), Option.getD_some, Option.getD_some] at this
    rw [List.getElem_map]
    exact this
theorem law_math (row : List Int) (hr : row.length = 256) (ts : List (Int × Int)) (hts : ∀ t ∈ ts, 0 ≤ t.1 ∧ t.1 < 256) :
    fromNtt (mulP (toNtt row) (valuesL ts rootsL) 64) = (wantL row ts (List.replicate 256 0)).map (fun c => c.fmod 3329) :=
  from_fw _ _ (by rw [mulP_len]) (by rw [wantL_len, List.length_replicate]) (prod_fw row hr ts hts)
end Mine
end
section
open PySem PySem.W PyProof.Rows PySem.Calls PyProof.V PySem.Spec
namespace Mine
set_option maxRecDepth 100000 in
theorem toNtt_in (w : World) (mean : ExcName → Option Value) (mg mb : Str → Option Value)
  (dp un : Nat) (gd : Option (List Code)) (cn : Str) (cs : Scope) (a : Addr) (ccd : Value) (cl : List (Str × Addr)) (outer : List Env) (A₀ : Around) (base h₀ : Heap) (L : Addr) (m : Str → Option Value) (s : Shared) (Q E : Value → Shared → Prop)
  (p dpa c x dx z a1 a2 i1 i2 i3 : Addr) (b1 b2 j1 j2 j3 : Obj) (vs zs : List Value) (ns : List Int) (n nz : Nat) (t1 t2 t3 t4 t5 t6 t7 r1 r2 : Tok) (rest : List (Addr × Obj)) :
  Below A₀ base outer h₀ → Fr h₀ L s.heap m → (pre.heap_1 w.params).In h₀ →
  News h₀ L s.heap ((p, instObj 350 dpa) :: (dpa, polyDict w x c r1 r2) :: (c, W.listOf vs.toArray n) :: (a2, b2) :: (i1, j1) :: (i2, j2) :: (a1, b1) :: (i3, j3) :: (z, W.listOf zs.toArray nz) :: (x, instObj 282 dx) :: (dx, ringDict w z t1 t2 t3 t4 t5 t6 t7) :: rest) →
  Top vw (looseW vw [Str.ofString "PolynomialRing", Str.ofString "PolynomialNTT"]) mean mg mb h₀ → cs.kind = .function → dp + 8 < recursionLimit → un + 64 < cLine →
  IntsAre vs ns → ns.length = 256 → IntsAre zs zetaL → @LT.lt Nat _ dpa p ∧ @LT.lt Nat _ c dpa ∧ AllLt dpa ((a2, b2) :: (i1, j1) :: (i2, j2) :: (a1, b1) :: (i3, j3) :: (z, W.listOf zs.toArray nz) :: (x, instObj 282 dx) :: (dx, ringDict w z t1 t2 t3 t4 t5 t6 t7) :: rest) →
  @LT.lt Nat _ a2 c ∧ AllLt c ((i1, j1) :: (i2, j2) :: (a1, b1) :: (i3, j3) :: (z, W.listOf zs.toArray nz) :: (x, instObj 282 dx) :: (dx, ringDict w z t1 t2 t3 t4 t5 t6 t7) :: rest) →
  (∀ (q dq : Addr) (vs' : List Value) (r3 r4 : Tok) (h' : Heap) (tk' : Nat), Fr h₀ L h' m →
    News h₀ L h' [(q, instObj 426 dq), (dq, polyDict w x c r3 r4), (c, W.listOf vs'.toArray n), (z, W.listOf zs.toArray nz), (x, instObj 282 dx), (dx, ringDict w z t1 t2 t3 t4 t5 t6 t7), (a1, b1), (a2, b2)] →
    IntsAre vs' (toNtt ns) → @LT.lt Nat _ dq q ∧ @LT.lt Nat _ c dq ∧ @LT.lt Nat _ z dq ∧ @LT.lt Nat _ x dq ∧ @LT.lt Nat _ dx dq ∧ @LT.lt Nat _ a1 dq ∧ @LT.lt Nat _ a2 dq → Q (.ref q) { s with heap := h', toks := tk' }) →
  wpAny (model PySem.Challenge.rw_yi0060_01.row.prog w) (ktrTop dp un gd cn cs L a ccd cl outer) (call (.ref 340) [.ref p]) Q E s := by
  intro B F X N T hk hd hu hi hlen hz lp lc hret
  obtain ⟨l1, l2, _⟩ := lp
  obtain ⟨k1, k2, k3, k4, k5, k6, k7, k8, _⟩ := lc
  have ne : ∀ {u v : Nat}, v < u → u ≠ v := fun h => Ne.symm (Nat.ne_of_lt h)
  refine toNtt_spec _ _ _ _ _ _ _ _ _ _ _ _ _ _ _ _ _ _ _ _ _ p dpa c x dx z a1 a2 b1 b2 vs zs ns n nz t1 t2 t3 t4 t5 t6 t7 r1 r2 B F X (cb_drop N (by kcj_all)) T hk hd hu hi hlen hz (Nat.ne_of_lt (Nat.lt_trans l2 l1)) (Nat.ne_of_lt l2) (ne k6) (ne k7) (ne k8) (ne k4) (ne k1) ?_
  · intro q dq vs' r3 r4 h' tk' F' N' I' o1 o2 o3 o4 o5 o6 o7
    exact hret q dq vs' r3 r4 h' tk' F' N' I' ⟨o7, o1, o2, o3, o4, o5, o6⟩
set_option maxRecDepth 100000 in
theorem mul_in (w : World) (mean : ExcName → Option Value) (mg mb : Str → Option Value)
  (dp un : Nat) (gd : Option (List Code)) (cn : Str) (cs : Scope) (a : Addr) (ccd : Value) (cl : List (Str × Addr)) (outer : List Env) (A₀ : Around) (base h₀ : Heap) (L : Addr) (m : Str → Option Value) (s : Shared) (Q E : Value → Shared → Prop)
  (f df cf g dg cg x dx z a1 a2 : Addr) (b1 b2 : Obj) (vf vg zs : List Value) (row ng : List Int) (n1 n2 nz : Nat) (t1 t2 t3 t4 t5 t6 t7 r1 r2 r3 r4 : Tok) :
  Below A₀ base outer h₀ → Fr h₀ L s.heap m → (pre.heap_1 w.params).In h₀ →
  News h₀ L s.heap [(g, instObj 426 dg), (dg, polyDict w x cg r3 r4), (cg, W.listOf vg.toArray n2), (f, instObj 426 df), (df, polyDict w x cf r1 r2), (cf, W.listOf vf.toArray n1), (z, W.listOf zs.toArray nz), (x, instObj 282 dx), (dx, ringDict w z t1 t2 t3 t4 t5 t6 t7), (a1, b1), (a2, b2)] →
  Top vw (looseW vw [Str.ofString "PolynomialRing", Str.ofString "PolynomialNTT"]) mean mg mb h₀ → cs.kind = .function → dp + 12 < recursionLimit → un + 96 < cLine →
  IntsAre vf (toNtt row) → row.length = 256 → IntsAre vg ng → ng.length = 256 → IntsAre zs zetaL →
  (∀ (p dpa c : Addr) (vs' : List Value) (n : Nat) (r5 r6 : Tok) (h' : Heap) (tk' : Nat), Fr h₀ L h' m →
    News h₀ L h' [(p, instObj 426 dpa), (dpa, polyDict w x c r5 r6), (c, W.listOf vs'.toArray n), (g, instObj 426 dg), (dg, polyDict w x cg r3 r4), (cg, W.listOf vg.toArray n2), (f, instObj 426 df), (df, polyDict w x cf r1 r2), (cf, W.listOf vf.toArray n1), (z, W.listOf zs.toArray nz), (x, instObj 282 dx), (dx, ringDict w z t1 t2 t3 t4 t5 t6 t7), (a1, b1), (a2, b2)] →
    IntsAre vs' (mulP (toNtt row) ng 64) → @LT.lt Nat _ z c ∧ @LT.lt Nat _ x c ∧ @LT.lt Nat _ dx c ∧ @LT.lt Nat _ a1 c ∧ @LT.lt Nat _ a2 c ∧ @LT.lt Nat _ c dpa ∧ @LT.lt Nat _ dpa p → Q (.ref p) { s with heap := h', toks := tk' }) →
  wpAny (model PySem.Challenge.rw_yi0060_01.row.prog w) (ktrTop dp un gd cn cs L a ccd cl outer) (call (.ref 423) [.ref f, .ref g]) Q E s := by
  intro B F X N T hk hd hu hf hl hg hlg hz hret
  refine mul_spec _ _ _ _ _ _ _ _ _ _ _ _ _ _ _ _ _ _ _ _ _ f df cf g dg cg x dx z a1 a2 b1 b2 vf vg zs (toNtt row) ng n1 n2 nz t1 t2 t3 t4 t5 t6 t7 r1 r2 r3 r4 B F X (cb_drop N (by kcj_all)) T hk hd hu hf ((toNtt_len row).trans hl) (toNtt_bounds row hl) hg hlg hz ?_
  · intro p dpa c vs' n r5 r6 h' tk' F' N' I' o1 o2 o3 o4 o5 o6 o7
    refine hret p dpa c vs' n r5 r6 h' tk' F' (cb_drop N' (by kcj_all)) I' ⟨o1, o2, o3, o4, o5, o6, o7⟩
set_option maxRecDepth 100000 in
theorem from_in (w : World) (mean : ExcName → Option Value) (mg mb : Str → Option Value)
  (dp un : Nat) (gd : Option (List Code)) (cn : Str) (cs : Scope) (a : Addr) (ccd : Value) (cl : List (Str × Addr)) (outer : List Env) (A₀ : Around) (base h₀ : Heap) (L : Addr) (m : Str → Option Value) (s : Shared) (Q E : Value → Shared → Prop)
  (p dpa c x dx z a1 a2 i1 i2 i3 i4 i5 i6 : Addr) (b1 b2 j1 j2 j3 j4 j5 j6 : Obj) (vs zs : List Value) (ns : List Int) (n nz : Nat) (t1 t2 t3 t4 t5 t6 t7 r1 r2 : Tok) :
  Below A₀ base outer h₀ → Fr h₀ L s.heap m → (pre.heap_1 w.params).In h₀ →
  News h₀ L s.heap [(p, instObj 426 dpa), (dpa, polyDict w x c r1 r2), (c, W.listOf vs.toArray n), (i1, j1), (i2, j2), (i3, j3), (i4, j4), (i5, j5), (i6, j6), (z, W.listOf zs.toArray nz), (x, instObj 282 dx), (dx, ringDict w z t1 t2 t3 t4 t5 t6 t7), (a1, b1), (a2, b2)] →
  Top vw (looseW vw [Str.ofString "PolynomialRing", Str.ofString "PolynomialNTT"]) mean mg mb h₀ → cs.kind = .function → dp + 8 < recursionLimit → un + 64 < cLine →
  IntsAre vs ns → ns.length = 256 → IntsAre zs zetaL → @LT.lt Nat _ z c ∧ @LT.lt Nat _ x c ∧ @LT.lt Nat _ dx c ∧ @LT.lt Nat _ a1 c ∧ @LT.lt Nat _ a2 c ∧ @LT.lt Nat _ c dpa ∧ @LT.lt Nat _ dpa p →
  (∀ (q dq : Addr) (vs' : List Value) (r3 r4 : Tok) (h' : Heap) (tk' : Nat), Fr h₀ L h' m →
    News h₀ L h' [(q, instObj 350 dq), (dq, polyDict w x c r3 r4), (c, W.listOf vs'.toArray n), (z, W.listOf zs.toArray nz), (x, instObj 282 dx), (dx, ringDict w z t1 t2 t3 t4 t5 t6 t7), (a1, b1)] →
    IntsAre vs' (fromNtt ns) → @LT.lt Nat _ dq q ∧ @LT.lt Nat _ c dq ∧ @LT.lt Nat _ z dq ∧ @LT.lt Nat _ x dq ∧ @LT.lt Nat _ dx dq ∧ @LT.lt Nat _ a1 dq → Q (.ref q) { s with heap := h', toks := tk' }) →
  wpAny (model PySem.Challenge.rw_yi0060_01.row.prog w) (ktrTop dp un gd cn cs L a ccd cl outer) (call (.ref 380) [.ref p]) Q E s := by
  intro B F X N T hk hd hu hi hlen hz lc hret
  obtain ⟨k1, k2, k3, k4, k5, k6, k7⟩ := lc
  have ne : ∀ {u v : Nat}, v < u → u ≠ v := fun h => Ne.symm (Nat.ne_of_lt h)
  refine fromNtt_spec _ _ _ _ _ _ _ _ _ _ _ _ _ _ _ _ _ _ _ _ _ p dpa c x dx z a1 b1 vs zs ns n nz t1 t2 t3 t4 t5 t6 t7 r1 r2 B F X (cb_drop N (by kcj_all)) T hk hd hu hi hlen hz (Nat.ne_of_lt (Nat.lt_trans k6 k7)) (Nat.ne_of_lt k6) (ne k1) (ne k2) (ne k3) (ne k4) ?_
  · intro q dq vs' r3 r4 h' tk' F' N' I' o1 o2 o3 o4 o5 o6
    exact hret q dq vs' r3 r4 h' tk' F' N' I' ⟨o6, o1, o2, o3, o4, o5⟩
end Mine
end
section
open PySem PySem.W PyProof.Rows PySem.Calls PyProof.V PySem.Spec
namespace Mine
local macro_rules | `(tactic| k_in) => `(tactic| first | with_reducible assumption | exact Frag.In.keeps (by with_reducible assumption) (Fr.keep (by with_reducible assumption)))
structure Kept (p : Prop) : Prop where
  out : p
noncomputable def ktr_ns {vs : List Value} {ns : List Int} (_ : IntsAre vs ns) : List Int := ns
theorem row_hi {x c k' : Int} (h : k' < 0 + (((if 256 < x then (256 : Int) else x) - 0).toNat : Int)) (hx : x < 300) (hc : c < 2) : 2 + 2 * (1 + c) + k' < 1000 := by
  split at h <;> omega
theorem row_lo {c k' : Int} (h : 0 ≤ k') (hc : 0 ≤ c) : 0 ≤ 2 + 2 * (1 + c) + k' := by omega
local macro_rules | `(tactic| walk_at "exec For Name Call cons nil") => `(tactic| (k_here; (rename Fr _ _ _ _ => lF'); (with_unfolding_all refine' For_invVF lF' ?k1 ?k2 ?_; (case k1 => exact rfl); (case k2 => exact rfl); k_whole)))
local macro_rules | `(tactic| walk_at "exec For Name Name cons nil") => `(tactic| (k_here; (rename Fr _ _ _ _ => lF'); (with_unfolding_all refine' For_invVF lF' ?k1 ?k2 ?_; (case k1 => exact rfl); (case k2 => exact rfl); k_whole)))
local macro_rules | `(tactic| walk_at "callWith ref") => `(tactic| (k_here; kco_here; k_dflt (refine' kco_callWithKW ?k1 ?k2 ?k3 ?k4 ?k5 ?_; (case k1 => k_in); (case k2 => k_inst); (case k3 => rfl); (case k4 => k_is); (case k5 => exact rfl); k_whole)))
local macro_rules | `(tactic| walk_at "exec While Compare cons nil") => `(tactic| (k_here; refine stop_here ?_))
local macro_rules | `(tactic| walk_at "pyIter ref") => `(tactic| (k_here; (with_reducible show wpAny _ _ (pyIter (Value.ref _)) (fun it s₂ => LoopAtV _ _ _ _ _ _ _ _ _ it s₂) _ _); refine stop_here ?_))
local macro_rules | `(tactic| walk_at "pyIter ref") => `(tactic| (k_here; (with_reducible show wpAny _ _ (pyIter (Value.ref _)) (fun it s₂ => UnrAt _ _ _ _ _ _ _ _ _ it s₂) _ _); refine stop_here ?_))
local macro_rules | `(tactic| walk_at "TupPost") => `(tactic| (dsimp only [TupPost]))
local macro_rules | `(tactic| walk_at "exec For Tuple Name cons nil") => `(tactic| (k_here; (rename Fr _ _ _ _ => lF'); (with_unfolding_all refine' For_unrF lF' ?_ ?ks); (case ks => (intro _; with_unfolding_all rfl)); k_whole))
theorem valR_len (ts : List (Int × Int)) : (valuesL ts rootsL).length = 256 := by
  rw [values_len]
  have h : rootsL.length = 128 := by decide +kernel
  omega
local macro_rules | `(tactic| walk_at "call ref") => `(tactic| (k_here; refine stop_here ?_))
local macro_rules | `(tactic| walk_at "call ref") => `(tactic| (k_here; (with_reducible refine' call_at 435 ?hf ?_); (case hf => k_dflt (exact rfl)); (try k_unmd); k_dflt (refine' draw_spec _ _ _ _ _ _ _ _ _ _ _ _ _ _ _ _ _ _ _ _ _ _ _ _ _ _ _ ?k1 ?k2 ?k3 ?k4 ?k5 ?kK ?kd ?ku ?ka ?kb ?kc ?ke ?kf ?_; (case k1 => k_asm); (case k2 => k_asm); (case k3 => k_asm); (case k4 => k_asm); (case k5 => k_asm); (case kK => first | exact rfl | assumption); (case kd => first | exact Nat.le_of_ble_eq_true rfl | k_room | ktr_room); (case ku => first | exact Nat.le_of_ble_eq_true rfl | ktr_units); (case ka => k_asm); (case kb => k_asm); (case kc => k_asm); (case ke => first | exact row_lo (by assumption) (by assumption) | decide | omega); (case kf => first | exact row_hi (by assumption) (by assumption) (by assumption) | decide | omega)); intro t9 h9 tk9 F9 N9; (try dsimp only); (try k_fold)))
local macro_rules | `(tactic| walk_at "CmpBack") => `(tactic| (dsimp only [W.CmpBack]))
local macro_rules | `(tactic| walk_at "W.CmpBack") => `(tactic| (dsimp only [W.CmpBack]))
local macro_rules | `(tactic| walk_at "InvEndN") => `(tactic| (refine stop_here ?_))
local macro_rules | `(tactic| k_all) => `(tactic| first | (refine' List.forall_mem_append.mpr ⟨?kal1, ?kal2⟩; (case kal1 => k_all); (case kal2 => k_all)) | assumption | exact all_ne (by assumption) | exact all_ne (And.right (by assumption)) | exact all_ne (And.right (And.right (by assumption))))
local macro_rules | `(tactic| mul_fits) => `(tactic| exact PyProof.Rows.mulOk_of_bits (m := 2 ^ 20) (n := 2 ^ 20) (by with_reducible assumption) ((by with_reducible assumption : ∀ i : Nat, Builtin.Int.intBits (List.getD _ i 0) ≤ 2 ^ 20) _) (by decide))
local macro_rules | `(tactic| kc_close) => `(tactic| ((with_reducible rename Kept _ => hlm9); rw [@decide_eq_true _ _ hlm9.out]; kc_close))
noncomputable def adrs : List Addr := [2, 3, 15, 17, 18, 20, 21, 29, 31, 32, 34, 35, 36, 38, 39, 41, 42, 43, 45, 46, 48, 49, 50, 52, 53, 55, 56, 57, 58, 59, 60, 61, 71, 73, 74, 76, 77, 78, 80, 81, 83, 84, 85, 87, 88, 90, 91, 92, 95, 96, 97, 99, 100, 102, 103, 104, 106, 107, 109, 110, 111, 113, 114, 116, 117, 118, 121, 122, 123, 126, 127, 128, 131, 132, 133, 135, 136, 138, 139, 140, 142, 143, 145, 146, 147, 149, 150, 152, 153, 154, 157, 158, 159, 161, 162, 164, 165, 166, 168, 169, 171, 172, 173, 175, 176, 178, 179, 180, 183, 184, 185, 187, 188, 190, 191, 192, 194, 195, 197, 198, 199, 201, 202, 204, 205, 206, 208, 209, 211, 212, 213, 215, 216, 218, 219, 220, 221, 222, 223, 224, 227, 234, 237, 238, 239, 241, 242, 244, 245, 246, 247, 248, 249, 251, 252, 254, 255, 256, 257, 259, 260, 262, 263, 264, 265, 267, 268, 270, 271, 272, 273, 275, 276, 278, 279, 280, 281, 282, 285, 292, 294, 295, 297, 298, 299, 301, 302, 304, 305, 306, 308, 309, 311, 312, 313, 315, 316, 318, 319, 320, 322, 323, 325, 326, 327, 329, 330, 332, 333, 334, 336, 337, 339, 340, 341, 343, 344, 346, 347, 348, 349, 350, 353, 360, 362, 363, 365, 366, 367, 369, 370, 372, 373, 374, 376, 377, 379, 380, 381, 383, 384, 386, 387, 388, 389, 390, 391, 393, 394, 396, 397, 398, 400, 401, 403, 404, 405, 407, 408, 410, 411, 412, 414, 415, 417, 418, 419, 422, 423, 424, 425, 426, 429, 431, 432, 434, 435, 436, 439, 440, 441, 443, 444, 446, 447, 448, 451, 452, 453, 456, 457]
local macro_rules | `(tactic| k_head) => `(tactic| o_head (kHook pre.heap_1 adrs (fun _ => by kernel_rfl)))
noncomputable def law_holds.tw11539556534233449701 : Unit := ()
noncomputable def law_holds.tw14489315793263303861 : Unit := ()
noncomputable def law_holds.tw2782419253953178936 : Unit := ()
noncomputable def law_holds.tw8481075993509181622 : Unit := ()
noncomputable def law_holds.tw14064573792008682920 : Unit := ()
noncomputable def law_holds.tw3136910860242942599 : Unit := ()
noncomputable def law_holds.tw16691439815215545270 : Unit := ()
noncomputable def law_holds.tw16098122237329998606 : Unit := ()
noncomputable def law_holds.tw15609566024721092083 : Unit := ()
noncomputable def law_holds.tw6869992995446874880 : Unit := ()
noncomputable def law_holds.tw11846676642670509255 : Unit := ()
noncomputable def law_holds.tw1341266762083198811 : Unit := ()
noncomputable def law_holds.tw8591876402714022951 : Unit := ()
noncomputable def law_holds.tw10222300733896627045 : Unit := ()
noncomputable def law_holds.tw1053317679998426468 : Unit := ()
noncomputable def law_holds.tw13392613628428298086 : Unit := ()
noncomputable def law_holds.tw14904137174637212347 : Unit := ()
noncomputable def law_holds.tw2136269947727277649 : Unit := ()
noncomputable def law_holds.tw12831907817818079685 : Unit := ()
noncomputable def law_holds.tw3979707639553702691 : Unit := ()
noncomputable def law_holds.tw908389787484368193 : Unit := ()
noncomputable def law_holds.tw12108977868540685583 : Unit := ()
noncomputable def law_holds.tw10486713781251687710 : Unit := ()
noncomputable def law_holds.tw11677100312832694166 : Unit := ()
noncomputable def law_holds.tw11625900857008200698 : Unit := ()
noncomputable def law_holds.tw2075624079617657780 : Unit := ()
noncomputable def law_holds.tw808278469055374699 : Unit := ()
noncomputable def law_holds.tw9207643191828677137 : Unit := ()
noncomputable def law_holds.tw14596297492920191028 : Unit := ()
noncomputable def law_holds.tw1385162719727133579 : Unit := ()
noncomputable def law_holds.tw4741859662064258567 : Unit := ()
noncomputable def law_holds.tw14991590004735058009 : Unit := ()
noncomputable def law_holds.tw3035144380315620824 : Unit := ()
noncomputable def law_holds.tw4614512636035447770 : Unit := ()
noncomputable def law_holds.tw4991859449750346478 : Unit := ()
noncomputable def law_holds.tw8249079356659094474 : Unit := ()
noncomputable def law_holds.tw4146061822495498468 : Unit := ()
noncomputable def law_holds.tw12977093529070104392 : Unit := ()
noncomputable def law_holds.tw2644310842459337959 : Unit := ()
noncomputable def law_holds.tw3494445600050047599 : Unit := ()
noncomputable def law_holds.tw8909828626151137519 : Unit := ()
noncomputable def law_holds.tw16947615914383616782 : Unit := ()
noncomputable def law_holds.tw8835965917227929528 : Unit := ()
noncomputable def law_holds.tw4593294709026258786 : Unit := ()
noncomputable def law_holds.tw6381524096760519305 : Unit := ()
noncomputable def law_holds.tw1784627337472249616 : Unit := ()
noncomputable def law_holds.tw17758146289354676595 : Unit := ()
noncomputable def law_holds.tw2887994833065977647 : Unit := ()
noncomputable def law_holds.tw11795792742502079742 : Unit := ()
noncomputable def law_holds.tw2303879751551577860 : Unit := ()
noncomputable def law_holds.tw9032369906271771983 : Unit := ()
noncomputable def law_holds.tw13028658284911697911 : Unit := ()
noncomputable def law_holds.tw18221428039690301666 : Unit := ()
noncomputable def law_holds.tw3012480247710183994 : Unit := ()
noncomputable def law_holds.tw445335354869643106 : Unit := ()
noncomputable def law_holds.tw3158129796062787159 : Unit := ()
noncomputable def law_holds.tw16563099163409725306 : Unit := ()
noncomputable def law_holds.tw12001131798957381970 : Unit := ()
noncomputable def law_holds.tw5045712524691215523 : Unit := ()
noncomputable def law_holds.tw14957179600199517237 : Unit := ()
noncomputable def law_holds.tw15140378357190847165 : Unit := ()
noncomputable def law_holds.tw13709617746848070560 : Unit := ()
noncomputable def law_holds.tw10296202853966499060 : Unit := ()
noncomputable def law_holds.tw16963379459963715452 : Unit := ()
noncomputable def law_holds.tw16978406815995349258 : Unit := ()
noncomputable def law_holds.tw10362271348294423435 : Unit := ()
noncomputable def law_holds.tw14390095281932903014 : Unit := ()
noncomputable def law_holds.tw9843604407834444796 : Unit := ()
noncomputable def law_holds.tw13956741780833797525 : Unit := ()
noncomputable def law_holds.tw1258919526383655059 : Unit := ()
noncomputable def law_holds.tw13336368349410954346 : Unit := ()
noncomputable def law_holds.tw3572487005457819259 : Unit := ()
noncomputable def law_holds.tw15472126771306010800 : Unit := ()
noncomputable def law_holds.tw2043166853727251185 : Unit := ()
noncomputable def law_holds.tw3756957479349018193 : Unit := ()
noncomputable def law_holds.tw15883345262158282383 : Unit := ()
noncomputable def law_holds.tw18340598423539479173 : Unit := ()
noncomputable def law_holds.tw8652346329174877282 : Unit := ()
noncomputable def law_holds.tw15848713872586308078 : Unit := ()
noncomputable def law_holds.tw8860054118572591635 : Unit := ()
noncomputable def law_holds.tw7404543985812422374 : Unit := ()
noncomputable def law_holds.tw17137235678499792623 : Unit := ()
noncomputable def law_holds.tw18269650602155537469 : Unit := ()
noncomputable def law_holds.tw13650905803964671038 : Unit := ()
noncomputable def law_holds.tw1689763614830377041 : Unit := ()
noncomputable def law_holds.tw10108825076125807744 : Unit := ()
noncomputable def law_holds.tw2102315897755806987 : Unit := ()
noncomputable def law_holds.tw6911747868599837429 : Unit := ()
noncomputable def law_holds.tw17237755526102222789 : Unit := ()
noncomputable def law_holds.tw11100686419730198450 : Unit := ()
noncomputable def law_holds.tw17180001009569633970 : Unit := ()
noncomputable def law_holds.tw17899081815984039989 : Unit := ()
noncomputable def law_holds.tw10968802771074238664 : Unit := ()
noncomputable def law_holds.tw2887050238494874643 : Unit := ()
noncomputable def law_holds.tw8804120190785687885 : Unit := ()
noncomputable def law_holds.tw160851071654074740 : Unit := ()
noncomputable def law_holds.tw15806970514647361693 : Unit := ()
noncomputable def law_holds.tw13092103797297032270 : Unit := ()
noncomputable def law_holds.tw6667284449218939238 : Unit := ()
noncomputable def law_holds.tw11764581739189218997 : Unit := ()
noncomputable def law_holds.tw4781243967656130014 : Unit := ()
noncomputable def law_holds.tw59864651932915081 : Unit := ()
noncomputable def law_holds.tw17830944117370523080 : Unit := ()
noncomputable def law_holds.tw7407239408455114201 : Unit := ()
noncomputable def law_holds.tw12394330538082041428 : Unit := ()
noncomputable def law_holds.tw12949845418750544790 : Unit := ()
noncomputable def law_holds.tw16612359704951912572 : Unit := ()
noncomputable def law_holds.tw6333624483447246961 : Unit := ()
noncomputable def law_holds.tw9606376775287448836 : Unit := ()
noncomputable def law_holds.tw3682559726232862161 : Unit := ()
noncomputable def law_holds.tw6896717019858035522 : Unit := ()
noncomputable def law_holds.tw15661869461025623997 : Unit := ()
noncomputable def law_holds.tw1335265377702380343 : Unit := ()
noncomputable def law_holds.tw3307954989432871184 : Unit := ()
noncomputable def law_holds.tw7696488724909661519 : Unit := ()
noncomputable def law_holds.tw1414043511812021011 : Unit := ()
noncomputable def law_holds.tw10465528174321978529 : Unit := ()
noncomputable def law_holds.tw14774650325386425613 : Unit := ()
noncomputable def law_holds.tw13182730311906835528 : Unit := ()
noncomputable def law_holds.tw5364902710198789758 : Unit := ()
noncomputable def law_holds.tw8570087061310353148 : Unit := ()
noncomputable def law_holds.tw16883458599210261866 : Unit := ()
noncomputable def law_holds.tw11097350217990362986 : Unit := ()
noncomputable def law_holds.tw16935243356766158856 : Unit := ()
noncomputable def law_holds.tw12294597709558488554 : Unit := ()
noncomputable def law_holds.tw907578622648922086 : Unit := ()
noncomputable def law_holds.tw9317688335297629284 : Unit := ()
noncomputable def law_holds.tw9634471323475708679 : Unit := ()
noncomputable def law_holds.tw11609493526922420660 : Unit := ()
noncomputable def law_holds.tw8785698371604719795 : Unit := ()
noncomputable def law_holds.tw8441880690091102137 : Unit := ()
noncomputable def law_holds.tw17264387287909652857 : Unit := ()
noncomputable def law_holds.tw4008084134468147086 : Unit := ()
noncomputable def law_holds.tw7089819591129360890 : Unit := ()
noncomputable def law_holds.tw16873799427995575018 : Unit := ()
noncomputable def law_holds.tw8040771413219435098 : Unit := ()
noncomputable def law_holds.tw7767266014307106701 : Unit := ()
noncomputable def law_holds.tw228058311090241170 : Unit := ()
noncomputable def law_holds.tw2788888992717563140 : Unit := ()
noncomputable def law_holds.tw12419048959643632839 : Unit := ()
noncomputable def law_holds.tw14925382992726071281 : Unit := ()
noncomputable def law_holds.tw15154110283740273250 : Unit := ()
noncomputable def law_holds.tw15644819842384902770 : Unit := ()
noncomputable def law_holds.tw11330957891505755796 : Unit := ()
noncomputable def law_holds.tw15272395603832836080 : Unit := ()
noncomputable def law_holds.tw2078624436916829710 : Unit := ()
noncomputable def law_holds.tw4037582482628031876 : Unit := ()
noncomputable def law_holds.tw7221428835167493151 : Unit := ()
noncomputable def law_holds.tw17253903310271361901 : Unit := ()
noncomputable def law_holds.tw14571795756577361901 : Unit := ()
noncomputable def law_holds.tw12732824653754844360 : Unit := ()
noncomputable def law_holds.tw11484002064277903863 : Unit := ()
noncomputable def law_holds.tw13190703287169160282 : Unit := ()
noncomputable def law_holds.tw6751701741844952029 : Unit := ()
noncomputable def law_holds.tw11289095316329951393 : Unit := ()
noncomputable def law_holds.tw5112083995522966620 : Unit := ()
noncomputable def law_holds.tw5731563423909890137 : Unit := ()
noncomputable def law_holds.tw10024239376800412576 : Unit := ()
noncomputable def law_holds.tw5914491427308094424 : Unit := ()
noncomputable def law_holds.tw2090888555730037645 : Unit := ()
noncomputable def law_holds.tw5907203647135998699 : Unit := ()
noncomputable def law_holds.tw2557128651999224082 : Unit := ()
noncomputable def law_holds.tw17598101756349436640 : Unit := ()
noncomputable def law_holds.tw15333956030411951890 : Unit := ()
noncomputable def law_holds.tw3910120701321347557 : Unit := ()
noncomputable def law_holds.tw16406091861079842607 : Unit := ()
noncomputable def law_holds.tw15802469936163623734 : Unit := ()
noncomputable def law_holds.tw18261290160731607033 : Unit := ()
noncomputable def law_holds.tw5506821171919863439 : Unit := ()
noncomputable def law_holds.tw17046799393618780204 : Unit := ()
noncomputable def law_holds.tw7120836010843673076 : Unit := ()
noncomputable def law_holds.tw17713402740875732926 : Unit := ()
noncomputable def law_holds.tw13220211186989608806 : Unit := ()
noncomputable def law_holds.tw17027635718292003107 : Unit := ()
noncomputable def law_holds.tw13482675847692870326 : Unit := ()
noncomputable def law_holds.tw8890443458166856008 : Unit := ()
noncomputable def law_holds.tw18090433342136740992 : Unit := ()
noncomputable def law_holds.tw11803358882649189518 : Unit := ()
noncomputable def law_holds.tw8806649888931605024 : Unit := ()
noncomputable def law_holds.tw15123554796541802991 : Unit := ()
noncomputable def law_holds.tw12645607732203181651 : Unit := ()
noncomputable def law_holds.tw7544913113114293122 : Unit := ()
noncomputable def law_holds.tw6776455111828631412 : Unit := ()
noncomputable def law_holds.tw11223184984439025696 : Unit := ()
noncomputable def law_holds.tw8970147916757833333 : Unit := ()
noncomputable def law_holds.tw4030767218360268280 : Unit := ()
noncomputable def law_holds.tw14498155544194170393 : Unit := ()
noncomputable def law_holds.tw8666519363043736892 : Unit := ()
noncomputable def law_holds.tw972601921857779769 : Unit := ()
noncomputable def law_holds.tw8984712037535005518 : Unit := ()
noncomputable def law_holds.tw3028213030429885723 : Unit := ()
noncomputable def law_holds.tw9875236377963488844 : Unit := ()
noncomputable def law_holds.tw4581845663705801772 : Unit := ()
noncomputable def law_holds.tw13431030151845061361 : Unit := ()
noncomputable def law_holds.tw17993387198741990920 : Unit := ()
noncomputable def law_holds.tw17255088995462705879 : Unit := ()
noncomputable def law_holds.tw6159533029260741167 : Unit := ()
noncomputable def law_holds.tw653560878884961445 : Unit := ()
noncomputable def law_holds.tw9849722394096787677 : Unit := ()
noncomputable def law_holds.tw724200737284857819 : Unit := ()
noncomputable def law_holds.tw1928719863018725356 : Unit := ()
noncomputable def law_holds.tw10242277825702978295 : Unit := ()
noncomputable def law_holds.tw16470317323979864763 : Unit := ()
noncomputable def law_holds.tw13780023080261437657 : Unit := ()
noncomputable def law_holds.tw3882201998751590657 : Unit := ()
noncomputable def law_holds.tw11017292853192552079 : Unit := ()
noncomputable def law_holds.tw15162217921772873613 : Unit := ()
noncomputable def law_holds.tw14160533322030094474 : Unit := ()
noncomputable def law_holds.tw15617896438947887921 : Unit := ()
noncomputable def law_holds.tw9682718004065560343 : Unit := ()
noncomputable def law_holds.tw2907507879108658156 : Unit := ()
noncomputable def law_holds.tw4273555757443719353 : Unit := ()
noncomputable def law_holds.tw14326059299131336239 : Unit := ()
noncomputable def law_holds.tw2269544990204364226 : Unit := ()
noncomputable def law_holds.tw10516828495840041881 : Unit := ()
noncomputable def law_holds.tw9187647767651647856 : Unit := ()
noncomputable def law_holds.tw5989267464594152519 : Unit := ()
noncomputable def law_holds.tw194939583717160490 : Unit := ()
noncomputable def law_holds.tw4441770287765753910 : Unit := ()
noncomputable def law_holds.tw2856731137302751260 : Unit := ()
noncomputable def law_holds.tw1031057903888850656 : Unit := ()
noncomputable def law_holds.tw8549365171731915398 : Unit := ()
noncomputable def law_holds.tw14377833709258309704 : Unit := ()
noncomputable def law_holds.tw11977050620070087417 : Unit := ()
noncomputable def law_holds.tw18203989763732354715 : Unit := ()
noncomputable def law_holds.tw12342728606916771844 : Unit := ()
noncomputable def law_holds.tw10983241140555628109 : Unit := ()
noncomputable def law_holds.tw13250372474279835810 : Unit := ()
noncomputable def law_holds.tw10368410895845634921 : Unit := ()
noncomputable def law_holds.tw2055734563569237896 : Unit := ()
noncomputable def law_holds.tw17345407343664743607 : Unit := ()
noncomputable def law_holds.tw8634839017697508684 : Unit := ()
noncomputable def law_holds.tw10346744231138586394 : Unit := ()
noncomputable def law_holds.tw7472407996622490835 : Unit := ()
noncomputable def law_holds.tw4995542688137877417 : Unit := ()
noncomputable def law_holds.tw10350734228115807855 : Unit := ()
noncomputable def law_holds.tw3046938939346580660 : Unit := ()
noncomputable def law_holds.tw9403268196540146800 : Unit := ()
noncomputable def law_holds.tw16462895619179043833 : Unit := ()
noncomputable def law_holds.tw5920216800500632969 : Unit := ()
noncomputable def law_holds.tw17169043682955552997 : Unit := ()
noncomputable def law_holds.tw6719018230134327050 : Unit := ()
noncomputable def law_holds.tw660297872995803996 : Unit := ()
noncomputable def law_holds.tw15293083901398250104 : Unit := ()
noncomputable def law_holds.tw1035469204868569938 : Unit := ()
noncomputable def law_holds.tw7775064044895347852 : Unit := ()
noncomputable def law_holds.tw16893121556090616931 : Unit := ()
noncomputable def law_holds.tw14822640431511872941 : Unit := ()
noncomputable def law_holds.tw13294052699122959228 : Unit := ()
noncomputable def law_holds.tw3110860835449505704 : Unit := ()
noncomputable def law_holds.tw14892801356780361778 : Unit := ()
noncomputable def law_holds.tw2139172203440323022 : Unit := ()
noncomputable def law_holds.tw8176227357466254829 : Unit := ()
noncomputable def law_holds.tw16836969012518115619 : Unit := ()
noncomputable def law_holds.tw10812634152524527747 : Unit := ()
noncomputable def law_holds.tw7769649832755249146 : Unit := ()
noncomputable def law_holds.tw12835091436910803158 : Unit := ()
noncomputable def law_holds.tw14390602165704524457 : Unit := ()
noncomputable def law_holds.tw13342518741750886279 : Unit := ()
noncomputable def law_holds.tw12149405283708829123 : Unit := ()
noncomputable def law_holds.tw10876394233666535175 : Unit := ()
noncomputable def law_holds.tw16190678330180157336 : Unit := ()
noncomputable def law_holds.tw9758593294864014727 : Unit := ()
noncomputable def law_holds.tw14289194402921355359 : Unit := ()
noncomputable def law_holds.tw10093380194815717143 : Unit := ()
noncomputable def law_holds.tw16720094985154256693 : Unit := ()
noncomputable def law_holds.tw7311554392007033315 : Unit := ()
noncomputable def law_holds.tw6580623548314892615 : Unit := ()
noncomputable def law_holds.tw1791086108937442324 : Unit := ()
noncomputable def law_holds.tw676263390381983339 : Unit := ()
noncomputable def law_holds.tw9069877914133315304 : Unit := ()
noncomputable def law_holds.tw11297062200503488469 : Unit := ()
noncomputable def law_holds.tw7566432030715092817 : Unit := ()
noncomputable def law_holds.tw3959601488294255719 : Unit := ()
noncomputable def law_holds.tw3426384778480675251 : Unit := ()
noncomputable def law_holds.tw13429453918920967058 : Unit := ()
noncomputable def law_holds.tw11126432536435168541 : Unit := ()
noncomputable def law_holds.tw6746360682218282392 : Unit := ()
noncomputable def law_holds.tw8061732933902216757 : Unit := ()
noncomputable def law_holds.tw576407869801174206 : Unit := ()
noncomputable def law_holds.tw12481875629721207810 : Unit := ()
noncomputable def law_holds.tw3366817510852727610 : Unit := ()
noncomputable def law_holds.tw12622292602297523153 : Unit := ()
noncomputable def law_holds.tw4916342969005030805 : Unit := ()
noncomputable def law_holds.tw6317479115527610633 : Unit := ()
noncomputable def law_holds.tw10817052189556005596 : Unit := ()
noncomputable def law_holds.tw1377309892636839040 : Unit := ()
noncomputable def law_holds.tw13281950902743806629 : Unit := ()
noncomputable def law_holds.tw12663309570017281627 : Unit := ()
noncomputable def law_holds.tw3033269912633744064 : Unit := ()
noncomputable def law_holds.tw16760957895259694429 : Unit := ()
noncomputable def law_holds.tw981846192996546977 : Unit := ()
noncomputable def law_holds.tw3955097671198598788 : Unit := ()
noncomputable def law_holds.tw2503670479209048990 : Unit := ()
noncomputable def law_holds.tw15527639110640922598 : Unit := ()
noncomputable def law_holds.tw14828999820898988419 : Unit := ()
noncomputable def law_holds.tw4370086069003782432 : Unit := ()
noncomputable def law_holds.tw10841264019214440115 : Unit := ()
noncomputable def law_holds.tw14872900085578418628 : Unit := ()
noncomputable def law_holds.tw5455921660152230842 : Unit := ()
noncomputable def law_holds.tw16099233806120587224 : Unit := ()
noncomputable def law_holds.tw8553002610548859549 : Unit := ()
noncomputable def law_holds.tw2143268655074302082 : Unit := ()
noncomputable def law_holds.tw17183477848116922584 : Unit := ()
noncomputable def law_holds.tw7636989558263936852 : Unit := ()
noncomputable def law_holds.tw10726639523019406850 : Unit := ()
noncomputable def law_holds.tw17465389150474745 : Unit := ()
noncomputable def law_holds.tw7820799176418779761 : Unit := ()
noncomputable def law_holds.tw11781800970755023335 : Unit := ()
noncomputable def law_holds.tw7497986649931050792 : Unit := ()
noncomputable def law_holds.tw6727219029552735585 : Unit := ()
noncomputable def law_holds.tw2643271747718453845 : Unit := ()
noncomputable def law_holds.tw3912811242725288453 : Unit := ()
noncomputable def law_holds.tw8266603773606604290 : Unit := ()
noncomputable def law_holds.tw11633083819707477107 : Unit := ()
noncomputable def law_holds.tw13402424001964919149 : Unit := ()
noncomputable def law_holds.tw13766487248619392586 : Unit := ()
noncomputable def law_holds.tw293627430662643474 : Unit := ()
noncomputable def law_holds.tw3943428198234077543 : Unit := ()
noncomputable def law_holds.tw3896150654470677357 : Unit := ()
noncomputable def law_holds.tw11463670642173560981 : Unit := ()
noncomputable def law_holds.tw11946022803392826334 : Unit := ()
noncomputable def law_holds.tw179590077315354965 : Unit := ()
noncomputable def law_holds.tw9992725586745946429 : Unit := ()
noncomputable def law_holds.tw4515466672771955728 : Unit := ()
noncomputable def law_holds.tw7408322871517469003 : Unit := ()
noncomputable def law_holds.tw3253568177066640346 : Unit := ()
noncomputable def law_holds.tw723553956927101924 : Unit := ()
noncomputable def law_holds.tw15191720212996534143 : Unit := ()
noncomputable def law_holds.tw2175471002772951711 : Unit := ()
noncomputable def law_holds.tw2558664710541493025 : Unit := ()
noncomputable def law_holds.tw4323815956820902445 : Unit := ()
noncomputable def law_holds.tw6674817763981286723 : Unit := ()
noncomputable def law_holds.tw699380112222796084 : Unit := ()
noncomputable def law_holds.tw545109181885906688 : Unit := ()
noncomputable def law_holds.tw6507877686720480950 : Unit := ()
noncomputable def law_holds.tw926570990666696690 : Unit := ()
noncomputable def law_holds.tw12476058986133298565 : Unit := ()
noncomputable def law_holds.tw3258674603298201628 : Unit := ()
noncomputable def law_holds.tw7408472829698581751 : Unit := ()
noncomputable def law_holds.tw15732109348078318572 : Unit := ()
noncomputable def law_holds.tw15607887362523206001 : Unit := ()
noncomputable def law_holds.tw850272041215511910 : Unit := ()
noncomputable def law_holds.tw6564709946809587534 : Unit := ()
noncomputable def law_holds.tw12303009252429188658 : Unit := ()
noncomputable def law_holds.tw3850334171643177529 : Unit := ()
noncomputable def law_holds.tw10441050188594101415 : Unit := ()
noncomputable def law_holds.tw9889521400790421688 : Unit := ()
noncomputable def law_holds.tw15031514592837009168 : Unit := ()
noncomputable def law_holds.tw14281342344845405768 : Unit := ()
noncomputable def law_holds.tw4643041051132140158 : Unit := ()
noncomputable def law_holds.tw7495221243884187115 : Unit := ()
noncomputable def law_holds.tw12874571214893485439 : Unit := ()
noncomputable def law_holds.tw12296726922439171297 : Unit := ()
noncomputable def law_holds.tw18051328159682125866 : Unit := ()
noncomputable def law_holds.tw1685627985566243432 : Unit := ()
noncomputable def law_holds.tw8957123355933967898 : Unit := ()
noncomputable def law_holds.tw13958071646730322851 : Unit := ()
noncomputable def law_holds.tw18388893480867403737 : Unit := ()
noncomputable def law_holds.tw8386679336120195906 : Unit := ()
noncomputable def law_holds.tw1909877003179415225 : Unit := ()
noncomputable def law_holds.tw10767655046202684341 : Unit := ()
noncomputable def law_holds.tw3974387499553966400 : Unit := ()
noncomputable def law_holds.tw17942709131360195518 : Unit := ()
noncomputable def law_holds.tw16057390660189216267 : Unit := ()
noncomputable def law_holds.tw12684681026606017882 : Unit := ()
noncomputable def law_holds.tw12456547296908542839 : Unit := ()
noncomputable def law_holds.tw11426015686315989412 : Unit := ()
noncomputable def law_holds.tw12116493165278983582 : Unit := ()
noncomputable def law_holds.tw10301956948240465243 : Unit := ()
noncomputable def law_holds.tw10442559174759676424 : Unit := ()
noncomputable def law_holds.tw3742325753681652743 : Unit := ()
noncomputable def law_holds.tw11303081109005220762 : Unit := ()
noncomputable def law_holds.tw14883556706271630602 : Unit := ()
noncomputable def law_holds.tw8790382262760724670 : Unit := ()
noncomputable def law_holds.tw16332274672890094952 : Unit := ()
noncomputable def law_holds.tw3329330481660614911 : Unit := ()
noncomputable def law_holds.tw14997073306097389879 : Unit := ()
noncomputable def law_holds.tw17580165497215679439 : Unit := ()
noncomputable def law_holds.tw5212653520564569363 : Unit := ()
noncomputable def law_holds.tw1762888911704233025 : Unit := ()
noncomputable def law_holds.tw11067727234611919522 : Unit := ()
noncomputable def law_holds.tw2446358144275080391 : Unit := ()
noncomputable def law_holds.tw7185456241796803578 : Unit := ()
noncomputable def law_holds.tw15694993059591697976 : Unit := ()
noncomputable def law_holds.tw881140697980615281 : Unit := ()
noncomputable def law_holds.tw1710076424337546998 : Unit := ()
noncomputable def law_holds.tw4992725456586698614 : Unit := ()
noncomputable def law_holds.tw4439653461905209652 : Unit := ()
noncomputable def law_holds.tw3756308257209627903 : Unit := ()
noncomputable def law_holds.tw2322801206320994539 : Unit := ()
noncomputable def law_holds.tw1550374771381668074 : Unit := ()
noncomputable def law_holds.tw14335913921861858828 : Unit := ()
noncomputable def law_holds.tw17911580528928914924 : Unit := ()
noncomputable def law_holds.tw3253820488102484341 : Unit := ()
noncomputable def law_holds.tw18006792725990754497 : Unit := ()
noncomputable def law_holds.tw1767730674963353768 : Unit := ()
noncomputable def law_holds.tw5898729028444588960 : Unit := ()
noncomputable def law_holds.tw12134408205421670959 : Unit := ()
noncomputable def law_holds.tw10609929442622069884 : Unit := ()
noncomputable def law_holds.tw6881874429007886204 : Unit := ()
noncomputable def law_holds.tw16106779387088534511 : Unit := ()
noncomputable def law_holds.tw12253411696296436870 : Unit := ()
noncomputable def law_holds.tw447027507633508388 : Unit := ()
noncomputable def law_holds.tw6709271908398517637 : Unit := ()
noncomputable def law_holds.tw17923851452625207687 : Unit := ()
noncomputable def law_holds.tw9529696498207198238 : Unit := ()
noncomputable def law_holds.tw1376783240425437725 : Unit := ()
noncomputable def law_holds.tw2142710703020379005 : Unit := ()
noncomputable def law_holds.tw3049941959672503198 : Unit := ()
noncomputable def law_holds.tw10028117763298573888 : Unit := ()
noncomputable def law_holds.tw4889031023730116350 : Unit := ()
noncomputable def law_holds.tw5981114437932730796 : Unit := ()
noncomputable def law_holds.tw11098625913536864229 : Unit := ()
noncomputable def law_holds.tw15829985883664642994 : Unit := ()
noncomputable def law_holds.tw5037970770195530229 : Unit := ()
noncomputable def law_holds.tw3850404396616230974 : Unit := ()
noncomputable def law_holds.tw1622690429015379626 : Unit := ()
noncomputable def law_holds.tw16009327648451700120 : Unit := ()
noncomputable def law_holds.tw7304591109411159013 : Unit := ()
noncomputable def law_holds.tw7484302960587174374 : Unit := ()
noncomputable def law_holds.tw7356724547972884604 : Unit := ()
noncomputable def law_holds.tw1989176631692091739 : Unit := ()
noncomputable def law_holds.tw6041440012092600215 : Unit := ()
noncomputable def law_holds.tw10007947361888340627 : Unit := ()
noncomputable def law_holds.tw13190408463805328480 : Unit := ()
noncomputable def law_holds.tw2903333896348957400 : Unit := ()
noncomputable def law_holds.tw13478230802861573701 : Unit := ()
noncomputable def law_holds.tw5858263632927829637 : Unit := ()
noncomputable def law_holds.tw12800644894191811977 : Unit := ()
noncomputable def law_holds.tw8312341600987523519 : Unit := ()
noncomputable def law_holds.tw4464252984393422682 : Unit := ()
noncomputable def law_holds.tw17253691774821329096 : Unit := ()
noncomputable def law_holds.tw1670043908289496885 : Unit := ()
noncomputable def law_holds.tw6860709855171689206 : Unit := ()
noncomputable def law_holds.tw6934448944433832347 : Unit := ()
noncomputable def law_holds.tw14746732674962391887 : Unit := ()
noncomputable def law_holds.tw5640673133297012132 : Unit := ()
noncomputable def law_holds.tw1496123403401453975 : Unit := ()
noncomputable def law_holds.tw7480714314260584917 : Unit := ()
noncomputable def law_holds.tw10666784280354678857 : Unit := ()
noncomputable def law_holds.tw17028624522117568015 : Unit := ()
noncomputable def law_holds.tw16273140198857503625 : Unit := ()
noncomputable def law_holds.tw6553333263825352884 : Unit := ()
noncomputable def law_holds.tw575232530192455986 : Unit := ()
noncomputable def law_holds.tw1973129929022764952 : Unit := ()
noncomputable def law_holds.tw13800757232730249582 : Unit := ()
noncomputable def law_holds.tw11666318101497114028 : Unit := ()
noncomputable def law_holds.tw2127001594154878533 : Unit := ()
noncomputable def law_holds.tw6861490101519172755 : Unit := ()
noncomputable def law_holds.tw2006301483956418059 : Unit := ()
noncomputable def law_holds.tw6765152471904792315 : Unit := ()
noncomputable def law_holds.tw8191475993861738794 : Unit := ()
noncomputable def law_holds.tw11097158420108258118 : Unit := ()
noncomputable def law_holds.tw18155623678392573649 : Unit := ()
noncomputable def law_holds.tw15695062497276918967 : Unit := ()
noncomputable def law_holds.tw5451054884063135654 : Unit := ()
noncomputable def law_holds.tw4524032621918665186 : Unit := ()
noncomputable def law_holds.tw2016121425191149895 : Unit := ()
noncomputable def law_holds.tw3850375180904979519 : Unit := ()
noncomputable def law_holds.tw10954758410522031216 : Unit := ()
noncomputable def law_holds.tw17499823404086765753 : Unit := ()
noncomputable def law_holds.tw811035903429128223 : Unit := ()
noncomputable def law_holds.tw12223724995276690173 : Unit := ()
noncomputable def law_holds.tw1096898596823417342 : Unit := ()
noncomputable def law_holds.tw8514742172934523775 : Unit := ()
noncomputable def law_holds.tw17274716441693411508 : Unit := ()
noncomputable def law_holds.tw7910590604623066228 : Unit := ()
noncomputable def law_holds.tw18234560199702728603 : Unit := ()
noncomputable def law_holds.tw498061464947678834 : Unit := ()
noncomputable def law_holds.tw12459966957829302596 : Unit := ()
noncomputable def law_holds.tw15150646450996357022 : Unit := ()
noncomputable def law_holds.tw7604666192120794032 : Unit := ()
noncomputable def law_holds.tw9255152265573255198 : Unit := ()
noncomputable def law_holds.tw18254337876149969668 : Unit := ()
noncomputable def law_holds.tw18326849912455186884 : Unit := ()
noncomputable def law_holds.tw10371022188087798493 : Unit := ()
noncomputable def law_holds.tw2578278018795888234 : Unit := ()
noncomputable def law_holds.tw3674665740742831893 : Unit := ()
noncomputable def law_holds.tw2602977815382960713 : Unit := ()
noncomputable def law_holds.tw12115171985352901274 : Unit := ()
noncomputable def law_holds.tw10566571302883470556 : Unit := ()
noncomputable def law_holds.tw14354538779393863138 : Unit := ()
noncomputable def law_holds.tw10517181812226103804 : Unit := ()
noncomputable def law_holds.tw10958410103948607464 : Unit := ()
noncomputable def law_holds.tw3438298445031660282 : Unit := ()
noncomputable def law_holds.tw12847567107135931479 : Unit := ()
noncomputable def law_holds.tw7019463264422422977 : Unit := ()
noncomputable def law_holds.tw14789792462180790578 : Unit := ()
noncomputable def law_holds.tw13882729330811710610 : Unit := ()
noncomputable def law_holds.tw13397297893571687751 : Unit := ()
noncomputable def law_holds.tw13087128984098923117 : Unit := ()
noncomputable def law_holds.tw11347954631545130290 : Unit := ()
noncomputable def law_holds.tw17309000430359075326 : Unit := ()
noncomputable def law_holds.tw15522444059895599089 : Unit := ()
noncomputable def law_holds.tw1099259369241382048 : Unit := ()
noncomputable def law_holds.tw2387193687640843687 : Unit := ()
noncomputable def law_holds.tw1905533677188600702 : Unit := ()
noncomputable def law_holds.tw9423440377400516374 : Unit := ()
noncomputable def law_holds.tw17470365217354309832 : Unit := ()
noncomputable def law_holds.tw11586273756423631628 : Unit := ()
noncomputable def law_holds.tw10027879121665395642 : Unit := ()
noncomputable def law_holds.tw9779807473162285230 : Unit := ()
noncomputable def law_holds.tw12687621791434340054 : Unit := ()
noncomputable def law_holds.tw16381176275627223697 : Unit := ()
noncomputable def law_holds.tw6723812968561706957 : Unit := ()
noncomputable def law_holds.tw519298541982818421 : Unit := ()
noncomputable def law_holds.tw16805829885119392726 : Unit := ()
noncomputable def law_holds.tw8285764192309689115 : Unit := ()
noncomputable def law_holds.tw15341342317828512493 : Unit := ()
noncomputable def law_holds.tw16074064945343616743 : Unit := ()
noncomputable def law_holds.tw2181095710351553843 : Unit := ()
noncomputable def law_holds.tw12894162444990880836 : Unit := ()
noncomputable def law_holds.tw14032648460764376482 : Unit := ()
noncomputable def law_holds.tw9609168685462422446 : Unit := ()
noncomputable def law_holds.tw7855213554781449114 : Unit := ()
noncomputable def law_holds.tw7093711212748702512 : Unit := ()
noncomputable def law_holds.tw4650772019235666517 : Unit := ()
noncomputable def law_holds.tw1540726516641521080 : Unit := ()
noncomputable def law_holds.tw5032703568563231349 : Unit := ()
noncomputable def law_holds.tw5576560056575288128 : Unit := ()
noncomputable def law_holds.tw9013377322688217293 : Unit := ()
noncomputable def law_holds.tw1724926542741425601 : Unit := ()
noncomputable def law_holds.tw13536078969547264968 : Unit := ()
noncomputable def law_holds.tw10308740554644630452 : Unit := ()
noncomputable def law_holds.tw270741913460557850 : Unit := ()
noncomputable def law_holds.tw2979782184351909174 : Unit := ()
noncomputable def law_holds.tw5171238609373758962 : Unit := ()
noncomputable def law_holds.tw3158907127566229856 : Unit := ()
noncomputable def law_holds.tw15452448965706171373 : Unit := ()
noncomputable def law_holds.tw6540002591418465198 : Unit := ()
noncomputable def law_holds.tw4099221523958036015 : Unit := ()
set_option Elab.async true in
set_option maxRecDepth 100000 in
set_option maxHeartbeats 8000000 in
theorem law_holds : PySem.Challenge.rw_yi0060_01.Holds := by
  w_on; o_law; k_head; (case hw => w_witness2)
  k_go0
  all_goals (try k_fold)
  with_reducible rename PyData.layable0 (.list _) = true => hlay
  with_reducible rename IntsAre _ _ => hints
  with_reducible rename ¬ (_ : Int) < _ => hcond
  obtain ⟨ns, hns⟩ := ints_name hints
  subst hns
  have h63 := Int.ofNat_le.mp (Int.not_lt.mp hcond)
  have hc1 : ∀ k, 0 ≤ (draw (ktr_ns hints) k).fmod 2 := fun _ => Int.fmod_nonneg_of_pos _ (by decide)
  have hc2 : ∀ k, (draw (ktr_ns hints) k).fmod 2 < 2 := fun _ => Int.fmod_lt_of_pos _ (by decide)
  have hc3 := hc1 1
  have hc4 := hc2 1
  simp only [ktr_ns] at hc3 hc4
  k_steps
  unfold Stop
  ((with_reducible refine' call_at 282 ?hf ?_); (case hf => k_dflt (exact rfl)); (try k_unmd); k_dflt (refine' ring_spec _ _ _ _ _ _ _ _ _ _ _ _ _ _ _ _ _ _ _ _ _ _ _ _ _ ?k1 ?k2 ?k3 ?k4 ?k5 ?kK ?kd ?ku ?ka ?_; (case k1 => k_asm); (case k2 => k_asm); (case k3 => k_asm); (case k4 => k_asm); (case k5 => k_asm); (case kK => first | exact rfl | assumption); (case kd => first | exact Nat.le_of_ble_eq_true rfl | k_room | ktr_room); (case ku => first | exact Nat.le_of_ble_eq_true rfl | ktr_units); (case ka => (refine ltN ?_; omega))); intro xr9 dx9 z9 zs9 nz9 t19 t29 t39 t49 t59 t69 t79 h9 tk9 F9 N9 I9 l19 l29 l39 l49 l59 l69 l79; (try dsimp only); (try k_fold))
  k_steps
  unfold Stop
  ((with_reducible refine' call_at 452 ?hf ?_); (case hf => k_dflt (exact rfl)); (try k_unmd); k_dflt (refine' terms_spec _ _ _ _ _ _ _ _ _ _ _ _ _ _ _ _ _ _ _ _ _ _ _ _ _ _ _ _ ?k1 ?k2 ?k3 ?k4 ?k5 ?kK ?kd ?ku ?ka ?kb ?kc ?ke ?kf ?_; (case k1 => k_asm); (case k2 => k_asm); (case k3 => k_asm); (case k4 => k_asm); (case k5 => k_asm); (case kK => first | exact rfl | assumption); (case kd => first | exact Nat.le_of_ble_eq_true rfl | k_room | ktr_room); (case ku => first | exact Nat.le_of_ble_eq_true rfl | ktr_units); (case ka => k_asm); (case kb => k_asm); (case kc => k_asm); (case ke => omega); (case kf => omega)); intro tl tv tn chunk h9 tk9 F9 N9 T9 ne9)
  simp only [List.cons_append, List.nil_append] at N9
  (try k_unmd)
  k_fold
  k_steps
  with_reducible rename Fr _ _ _ _ => F4
  with_reducible rename News _ _ _ _ => N4
  with_reducible rename IntsAre _ (List.map _ _ ++ _) => hrow
  with_reducible rename IntsAre _ (List.replicate (Int.toNat 256) _).flatten => hwa
  with_reducible rename (@LT.lt Nat _ _ _) ∧ _ => l4
  obtain ⟨wa, ra, rest, hwa1, hra1, hrest, N5, lra, ltl, lrest⟩ := main_names N4 l4
  subst hwa1 hra1
  obtain ⟨ws, hws⟩ := ints_nameV hrow
  subst hws
  have hrow2 : IntsAre ws (rowL ns) := hrow
  have hbr : ∀ i : Nat, Builtin.Int.intBits ((rowL ns).getD i 0) ≤ 2 ^ 20 := rowL_bits hlay
  have hrl : (rowL ns).length = 256 := rowL_len ns
  have hwl : ws.length = (rowL ns).length := hrow2.length
  have hfacts := termsL_facts (n := (1 + (draw ns 1).fmod 2).toNat) hlay (by omega)
  have htl9 := termsL_len ns (1 + (draw ns 1).fmod 2).toNat
  have hts2 : (termsL ns (1 + (draw ns 1).fmod 2).toNat).length ≤ 2 := by omega
  have TR := T9.mono (c' := rest) (fun p hp => by rw [hrest]; exact .tail _ (.tail _ (.tail _ (.tail _ (.tail _ hp)))))
  generalize hts : termsL ns (1 + (draw ns 1).fmod 2).toNat = ts at T9 TR hfacts htl9 hts2
  unfold Stop
  (try k_unmd)
  k_fold
  with_unfolding_all refine' tupL (σ := List Value × List Int) (fun q => (wa, W.listOf q.1.toArray 0) :: (ra, W.listOf ws.toArray 0) :: (tl, W.listOf tv.toArray tn) :: rest) [Str.ofString "place", Str.ofString "number", Str.ofString "j"] (fun i q => IntsAre q.1 q.2 ∧ q.2.length = 256 ∧ q.2 = wantL (rowL ns) (ts.take i) (List.replicate 256 0)) (_, (List.replicate (Int.toNat 256) [0]).flatten) rfl ?zt ?zL F4 N5 ⟨hwa, rfl, rfl⟩ ?_ ?_
  (case zt => exact News.isList N5 (by k_memK))
  (case zL => exact News.ne_locals N5 (by k_memK))
  · clear N4 N5 l4
    (repeat (with_reducible rename (@LT.lt Nat _ _ _) ∧ _ => l9x; clear l9x))
    (repeat (with_reducible rename (@Ne Nat _ _) ∧ _ => l9x; clear l9x))
    (repeat (with_reducible rename (@Ne Nat _ _) => l9x; clear l9x))
    (repeat (with_reducible rename ∀ p ∈ _, (@Ne Nat _ _) => l9x; clear l9x))
    intro i q v u h tk own5 hv hoff5 hq5 F5 N5
    obtain ⟨us, qs⟩ := q
    obtain ⟨hq1, hq2, hq3⟩ := hq5
    obtain ⟨T8, ta, tb, p8, v8, rfl, hti, hmem8⟩ := TR.2 i v hv
    obtain ⟨hp0, hp1, hp2⟩ := hfacts _ (List.mem_of_getElem? hti)
    dsimp only at F5 N5 hq1 hq2 hq3 hoff5 hp0 hp1 hp2 ⊢
    simp only [List.cons_append, List.map_cons] at N5 hoff5
    have hrw : ∀ p ∈ rest, p.1 ≠ wa := all_ne lrest
    have hown5 : ∀ p ∈ own5, p.1 ≠ wa := hoff5 wa (.head _) (fun e => absurd (e ▸ ltl) (Nat.lt_irrefl _))
    replace N5 := news_add (.tail _ (.tail _ (.tail _ (List.mem_append.mpr (.inl hmem8))))) N5
    k_steps
    with_reducible rename Fr _ _ _ _ => F6
    with_reducible rename News _ _ _ _ => N6
    with_reducible rename IsRange _ _ _ _ _ _ _ _ => rg
    unfold Stop
    (try k_unmd)
    k_fold
    with_unfolding_all refine' rangeL (σ := List Value × List Int) (n := 256) (fun q => (wa, W.listOf q.1.toArray 0) :: (ra, W.listOf ws.toArray 0) :: (tl, W.listOf tv.toArray tn) :: (rest ++ own5)) [] (fun i q => IntsAre q.1 q.2 ∧ q.2.length = 256 ∧ q.2 = wantF (rowL ns) p8 v8 i qs) (us, qs) rfl rg (by decide) rfl (by decide) F6 (news_tail N6) ⟨hq1, hq2, rfl⟩ ?_ ?_
    · clear F6 N6
      intro j q t u h tk own6 hj hoff6 hq F6 N6
      obtain ⟨xs, ys⟩ := q
      obtain ⟨hx1, hx2, hx3⟩ := hq
      dsimp only at F6 N6 hx1 hx2 hx3 ⊢
      simp only [List.cons_append, List.append_assoc] at N6
      have hxl : xs.length = ys.length := hx1.length
      have hown6 : ∀ p ∈ own6, p.1 ≠ wa := hoff6.ne (.head _)
      k_steps
      · with_reducible rename Fr _ _ _ _ => F7
        with_reducible rename News _ _ _ _ => N7
        with_reducible rename IntsAre _ _ => hx4
        unfold Stop
        refine' range_end (_, _) F7 N7 ?un ?uo ?ua ?ux ?ur ⟨hx4, ?ul, ?ue⟩
        (case un => refine' List.forall_mem_cons.mpr ⟨by k_memK, List.forall_mem_cons.mpr ⟨by k_memK, List.forall_mem_cons.mpr ⟨by k_memK, ?_⟩⟩⟩; exact fun p hp => .tail _ (.tail _ (.tail _ (by rw [← List.append_assoc]; exact List.mem_append.mpr (.inl hp)))))
        (case uo => exact fun p hp => .tail _ (.tail _ (.tail _ (by rw [← List.append_assoc]; exact List.mem_append.mpr (.inr hp)))))
        (case ua => rfl)
        (case ux => exact ⟨_, by with_unfolding_all rfl⟩)
        (case ur => (intro z h2 h3; first | rfl | (simp [h2]; done)))
        (case ul => simp only [List.length_set]; exact hx2)
        (case ue => dsimp only; rw [wantF_succ, ← hx3, wantStep]; rw [if_pos (by assumption)])
      · with_reducible rename Fr _ _ _ _ => F7
        with_reducible rename News _ _ _ _ => N7
        with_reducible rename IntsAre _ _ => hx4
        unfold Stop
        refine' range_end (_, _) F7 N7 ?vn ?vo ?va ?vx ?vr ⟨hx4, ?vl, ?ve⟩
        (case vn => refine' List.forall_mem_cons.mpr ⟨by k_memK, List.forall_mem_cons.mpr ⟨by k_memK, List.forall_mem_cons.mpr ⟨by k_memK, ?_⟩⟩⟩; exact fun p hp => .tail _ (.tail _ (.tail _ (by rw [← List.append_assoc]; exact List.mem_append.mpr (.inl hp)))))
        (case vo => exact fun p hp => .tail _ (.tail _ (.tail _ (by rw [← List.append_assoc]; exact List.mem_append.mpr (.inr hp)))))
        (case va => rfl)
        (case vx => exact ⟨_, by with_unfolding_all rfl⟩)
        (case vr => (intro z h2 h3; first | rfl | (simp [h2]; done)))
        (case vl => simp only [List.length_set]; exact hx2)
        (case ve => dsimp only; rw [wantF_succ, ← hx3, wantStep]; rw [if_neg (by assumption)])
    · clear F6 N6
      intro q t u h tk hq F6 N6
      obtain ⟨xs, ys⟩ := q
      obtain ⟨hx1, hx2, hx3⟩ := hq
      dsimp only at F6 N6 hx1 hx2 hx3 ⊢
      k_steps
      with_reducible rename Fr _ _ _ _ => F7
      with_reducible rename News _ _ _ _ => N7
      refine' tup_end (xs, ys) F7 N7 ?zn ?zo ?za ?zr ?zp
      (case zn => refine' List.forall_mem_cons.mpr ⟨by k_memK, List.forall_mem_cons.mpr ⟨by k_memK, List.forall_mem_cons.mpr ⟨by k_memK, ?_⟩⟩⟩; exact fun p hp => .tail _ (.tail _ (.tail _ (List.mem_append.mpr (.inl hp)))))
      (case zo => exact fun p hp => .tail _ (.tail _ (.tail _ (List.mem_append.mpr (.inr hp)))))
      (case za => rfl)
      (case zr => (intro z h3; (simp only [List.contains_cons, List.contains_nil, Bool.or_false, Bool.or_eq_false_iff, beq_eq_false_iff_ne, ne_eq] at h3); (simp [h3]; done)))
      (case zp => dsimp only; exact ⟨hx1, hx2, by rw [hx3, want_take hti, ← hq3]⟩)
  · (try clear N5)
    clear N4 l4 F4
    (repeat (with_reducible rename (@LT.lt Nat _ _ _) ∧ _ => l9x; clear l9x))
    (repeat (with_reducible rename (@Ne Nat _ _) ∧ _ => l9x; clear l9x))
    (repeat (with_reducible rename Fr _ _ _ _ => l9x; clear l9x))
    (repeat (with_reducible rename News _ _ _ _ => l9x; clear l9x))
    (repeat (with_reducible rename IsRange _ _ _ _ _ _ _ _ => l9x; clear l9x))
    intro q u h tk hq F5 N5
    obtain ⟨us, qs⟩ := q
    obtain ⟨hq1, hq2, hq3⟩ := hq
    dsimp only at F5 N5 hq1 hq2 hq3 ⊢
    rw [List.take_of_length_le (by rw [List.size_toArray, TR.1]; exact Nat.le_refl _)] at hq3
    rw [hrest] at N5
    replace N5 := news_tlf N5
    have TV := T9.mono (c' := (wa, W.listOf us.toArray 0) :: (ra, W.listOf ws.toArray 0) :: rest) (fun p hp => by rw [hrest]; exact .tail _ (.tail _ (.tail _ (.tail _ (.tail _ (.tail _ (.tail _ hp)))))))
    rw [hrest] at TV
    have hts0 : ∀ p ∈ ts, 0 ≤ p.1 := fun p hp => (hfacts p hp).1
    have hlm : Kept (fromNtt (mulP (toNtt (rowL ns)) (valuesL ts rootsL) 64) = List.map (fun c => c.fmod 3329) qs) := ⟨by rw [hq3]; exact law_math (rowL ns) hrl ts (fun t ht => ⟨(hfacts t ht).1, (hfacts t ht).2.1⟩)⟩
    k_steps
    unfold Stop
    ((with_reducible refine' call_at 440 ?hf ?_); (case hf => k_dflt (exact rfl)); (try k_unmd); k_dflt (refine' roots_spec _ _ _ _ _ _ _ _ _ _ _ _ _ _ _ _ _ _ _ _ _ _ ?k1 ?k2 ?k3 ?k4 ?k5 ?kK ?kd ?ku ?_; (case k1 => k_asm); (case k2 => k_asm); (case k3 => k_asm); (case k4 => k_asm); (case k5 => k_asm); (case kK => first | exact rfl | assumption); (case kd => first | exact Nat.le_of_ble_eq_true rfl | k_room | ktr_room); (case ku => first | exact Nat.le_of_ble_eq_true rfl | ktr_units)); intro R9 rv9 rn9 h9 tk9 F9 N9 I9; (try dsimp only); (try k_fold))
    k_steps
    unfold Stop
    ((with_reducible refine' call_at 447 ?hf ?_); (case hf => k_dflt (exact rfl)); (try k_unmd); k_dflt (refine' values_spec _ _ _ _ _ _ _ _ _ _ _ _ _ _ _ _ _ _ _ _ _ _ _ _ _ _ _ _ _ ?k1 ?k2 ?k3 ?k4 ?k5 ?kK ?kd ?ku ?ka ?kb ?kc ?ke ?_; (case k1 => k_asm); (case k2 => k_asm); (case k3 => k_asm); (case k4 => k_asm); (case k5 => k_asm); (case kK => first | exact rfl | assumption); (case kd => first | exact Nat.le_of_ble_eq_true rfl | k_room | ktr_room); (case ku => first | exact Nat.le_of_ble_eq_true rfl | ktr_units); (case ka => k_asm); (case kb => k_asm); (case kc => k_asm); (case ke => k_asm)); intro va9 vv9 vn9 h9 tk9 F9 N9 I9 l9; (have hvl9 := (IntsAre.length I9).trans (valR_len _)); (try dsimp only); (try k_fold))
    k_steps
    unfold Stop
    ((try k_unmd); k_dflt (refine' rcallA_in _ _ _ _ _ _ _ _ _ _ _ _ _ _ _ _ _ _ _ _ _ _ _ _ _ _ _ _ _ _ _ _ _ _ _ _ ?k1 ?k2 ?k3 ?k4 ?k5 ?kK ?kd ?ku ?km ?kn ?ko ?ka ?kb ?_; (case k1 => k_asm); (case k2 => k_asm); (case k3 => k_asm); (case k4 => k_asm); (case km => k_memK); (case kn => k_memK); (case ko => k_memK); (case k5 => k_asm); (case kK => first | exact rfl | assumption); (case kd => first | exact Nat.le_of_ble_eq_true rfl | k_room | ktr_room); (case ku => first | exact Nat.le_of_ble_eq_true rfl | ktr_units); (case ka => with_reducible assumption); (case kb => first | exact valR_len _ | with_reducible assumption)); intro p9 dpa9 r19 r29 h9 tk9 F9 N9 l9; (try dsimp only); (try k_fold))
    k_steps
    unfold Stop
    ((with_reducible refine' call_at 340 ?hf ?_); (case hf => k_dflt (exact rfl)); (try k_unmd); k_dflt (refine' toNtt_in _ _ _ _ _ _ _ _ _ _ _ _ _ _ _ _ _ _ _ _ _ _ _ _ _ _ _ _ _ _ _ _ _ _ _ _ _ _ _ _ _ _ _ _ _ _ _ _ _ _ _ _ ?k1 ?k2 ?k3 ?k4 ?k5 ?kK ?kd ?ku ?ka ?kb ?kc ?kl ?km ?_; (case k1 => k_asm); (case k2 => k_asm); (case k3 => k_asm); (case k4 => k_asm); (case k5 => k_asm); (case kK => first | exact rfl | assumption); (case kd => first | exact Nat.le_of_ble_eq_true rfl | k_room | ktr_room); (case ku => first | exact Nat.le_of_ble_eq_true rfl | ktr_units); (case ka => with_reducible assumption); (case kb => with_reducible assumption); (case kc => with_reducible assumption); (case kl => assumption); (case km => assumption)); intro q9 dq9 vq9 r39 r49 h9 tk9 F9 N9 I9 l9; (try dsimp only); (try k_fold))
    k_steps
    unfold Stop
    ((try k_unmd); k_dflt (refine' rcallB_in _ _ _ _ _ _ _ _ _ _ _ _ _ _ _ _ _ _ _ _ _ _ _ _ _ _ _ _ _ _ _ _ _ _ _ _ ?k1 ?k2 ?k3 ?k4 ?k5 ?kK ?kd ?ku ?km ?kn ?ko ?ka ?kb ?_; (case k1 => k_asm); (case k2 => k_asm); (case k3 => k_asm); (case k4 => k_asm); (case km => k_memK); (case kn => k_memK); (case ko => k_memK); (case k5 => k_asm); (case kK => first | exact rfl | assumption); (case kd => first | exact Nat.le_of_ble_eq_true rfl | k_room | ktr_room); (case ku => first | exact Nat.le_of_ble_eq_true rfl | ktr_units); (case ka => with_reducible assumption); (case kb => first | exact valR_len _ | with_reducible assumption)); intro p9 dpa9 r19 r29 h9 tk9 F9 N9 l9; (try dsimp only); (try k_fold))
    k_steps
    unfold Stop
    ((with_reducible refine' call_at 423 ?hf ?_); (case hf => k_dflt (exact rfl)); (try k_unmd); k_dflt (refine' mul_in _ _ _ _ _ _ _ _ _ _ _ _ _ _ _ _ _ _ _ _ _ _ _ _ _ _ _ _ _ _ _ _ _ _ _ _ _ _ _ _ _ _ _ _ _ _ _ _ _ _ _ _ _ ?k1 ?k2 ?k3 ?k4 ?k5 ?kK ?kd ?ku ?ka ?kb ?kc ?kl ?km ?_; (case k1 => k_asm); (case k2 => k_asm); (case k3 => k_asm); (case k4 => k_asm); (case k5 => k_asm); (case kK => first | exact rfl | assumption); (case kd => first | exact Nat.le_of_ble_eq_true rfl | k_room | ktr_room); (case ku => first | exact Nat.le_of_ble_eq_true rfl | ktr_units); (case ka => with_reducible assumption); (case kb => with_reducible assumption); (case kc => with_reducible assumption); (case kl => first | exact valR_len _ | with_reducible assumption); (case km => with_reducible assumption)); intro pm9 dm9 cm9 vm9 nm9 r59 r69 h9 tk9 F9 N9 I9 l9; (try dsimp only [W.CmpBack]); (try dsimp only); (try k_fold))
    k_steps
    unfold Stop
    ((with_reducible refine' call_at 380 ?hf ?_); (case hf => k_dflt (exact rfl)); (try k_unmd); k_dflt (refine' from_in _ _ _ _ _ _ _ _ _ _ _ _ _ _ _ _ _ _ _ _ _ _ _ _ _ _ _ _ _ _ _ _ _ _ _ _ _ _ _ _ _ _ _ _ _ _ _ _ _ _ _ _ _ _ _ _ _ ?k1 ?k2 ?k3 ?k4 ?k5 ?kK ?kd ?ku ?ka ?kb ?kc ?kl ?_; (case k1 => k_asm); (case k2 => k_asm); (case k3 => k_asm); (case k4 => k_asm); (case k5 => k_asm); (case kK => first | exact rfl | assumption); (case kd => first | exact Nat.le_of_ble_eq_true rfl | k_room | ktr_room); (case ku => first | exact Nat.le_of_ble_eq_true rfl | ktr_units); (case ka => with_reducible assumption); (case kb => exact mulP_len _ _ _); (case kc => with_reducible assumption); (case kl => with_reducible assumption)); intro pb9 db9 vb9 r79 r89 h9 tk9 F9 N9 I9 l9; (try dsimp only); (try k_fold))
    k_steps
end Mine
end
theorem PySem.Challenge.cw_yi0060_01_holds : PySem.Challenge.rw_yi0060_01.Holds :=
  Mine.law_holds
