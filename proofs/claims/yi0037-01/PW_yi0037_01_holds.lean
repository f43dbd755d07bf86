import PyProof.Rows.All
import Wide.All
import OpenK.AllK
import Wide.FinOn
import PySem.Challenge.RW_yi0037_01
open PySem PySem.W PyProof.Rows
set_option Elab.async false
set_option maxRecDepth 100000

namespace Mine
open PySem.Calls

theorem kind_pow : builtinKind "pow" = none := by decide +kernel
theorem plain_pow : plainId "pow" = true := by decide +kernel
theorem entry_pow : entryFor table "pow" = some Builtin.«pow» := entryFor_of_tree (by kernel_rfl)
theorem args_pow3 (a b c : Value) : argsOk "pow" ⟨[a, b, c], []⟩ := by unfold argsOk; kernel_rfl
theorem args_ipow3 (a b c : Value) : argsOk "int.__pow__" ⟨[a, b, c], []⟩ := by unfold argsOk; kernel_rfl

set_option maxHeartbeats 1000000 in
theorem gives_pow17 (e : Int) (he : ¬ e < 0) (t u v : Tok) : Gives (Builtin.«int.__pow__» ⟨[.int 17 t, .int e u, .int 3329 v], []⟩) (.int ((Builtin.powMod 17 e.natAbs 3329 : Nat) : Int)) :=
  .of_wp fun M A E s Q h => by
    obtain ⟨hp, g, d, tk, os⟩ := s
    repeat (any_goals (first | assumption | (with_reducible refine wpAny_ite_false (decide_eq_false he) ?_) | wp_step))
    all_goals exact ⟨_, rfl, h⟩

set_option maxHeartbeats 1000000 in
theorem call_pow17 {prog : Program} {w : World} {A : Around} {E : Value → Shared → Prop} {s : Shared} {e : Int} {t u v : Tok} {Q : Value → Shared → Prop} (he : 0 ≤ e)
    (h : Q (.int ((Builtin.powMod 17 e.natAbs 3329 : Nat) : Int) s.toks) { s with toks := s.toks + 1 }) : wpAny (model prog w) A (call (.builtin "pow") [.int 17 t, .int e u, .int 3329 v]) Q E s := by
  have he' : ¬ e < 0 := Int.not_lt.mpr he
  refine call_function_entry kind_pow plain_pow entry_pow (args_pow3 _ _ _) ?_
  obtain ⟨hp, g, d, tk, os⟩ := s
  have hT : (⟨hp, g, d, tk, os⟩ : Shared).TypeIs (.int 17 t) "int" := rfl
  have f3 : typeLookup (Value.type "int") (Str.ofString "__pow__") = pure (some (Value.builtin "int.__pow__")) := slot_int_pow.lookup
  have f4 := slot_int_pow.bind (.int 17 t)
  repeat (any_goals (first | assumption | ((with_reducible show wpAny _ _ (call (Value.builtin "int.__pow__") _ _) _ _ _); refine call_gives slot_int_pow hT entry_int_pow (args_ipow3 _ _ _) (gives_pow17 e he' t u v) ?_; dsimp only [Made.post]) | wp_step))
  all_goals first | exact ⟨_, rfl, h⟩ | exact h

set_option maxHeartbeats 1000000 in
theorem gives_inv (t u v : Tok) : Gives (Builtin.«int.__pow__» ⟨[.int 128 t, .int (-1) u, .int 3329 v], []⟩) (.int 3303) :=
  .of_wp fun M A E s Q h => by
    obtain ⟨hp, g, d, tk, os⟩ := s
    repeat (any_goals (first | assumption | wp_step))
    all_goals exact ⟨_, rfl, h⟩

set_option maxHeartbeats 1000000 in
theorem call_inv {prog : Program} {w : World} {A : Around} {E : Value → Shared → Prop} {s : Shared} {t u v : Tok} {Q : Value → Shared → Prop}
    (h : Q (.int 3303 s.toks) { s with toks := s.toks + 1 }) : wpAny (model prog w) A (call (.builtin "pow") [.int 128 t, .int (-1) u, .int 3329 v]) Q E s := by
  refine call_function_entry kind_pow plain_pow entry_pow (args_pow3 _ _ _) ?_
  obtain ⟨hp, g, d, tk, os⟩ := s
  have hT : (⟨hp, g, d, tk, os⟩ : Shared).TypeIs (.int 128 t) "int" := rfl
  have f3 : typeLookup (Value.type "int") (Str.ofString "__pow__") = pure (some (Value.builtin "int.__pow__")) := slot_int_pow.lookup
  have f4 := slot_int_pow.bind (.int 128 t)
  repeat (any_goals (first | assumption | ((with_reducible show wpAny _ _ (call (Value.builtin "int.__pow__") _ _) _ _ _); refine call_gives slot_int_pow hT entry_int_pow (args_ipow3 _ _ _) (gives_inv t u v) ?_; dsimp only [Made.post]) | wp_step))
  all_goals first | exact ⟨_, rfl, h⟩ | exact h

theorem typeCall_int_2 (a b : Value) : checkTypeCall "int" ⟨[a, b], []⟩ = pure () := by kernel_rfl
theorem newCall_int_2 (a b : Value) : checkBuiltinCall "int.__new__" ⟨[.type "int", a, b], []⟩ = pure () := by kernel_rfl

theorem wp_text2 {M : Model} {A : Around} {E : Value → Shared → Prop} {s : Shared} {Q : Value → Shared → Prop} {v : Value} {text : List Nat} {n : Int}
    (hs : (text.takeWhile (· != 0)).length ≤ 640) (hr : (int_private% "readNumeral") 0 2 (text.takeWhile (· != 0)) = (int_private% "Numeral.value") n)
    (ha : ((text.takeWhile (· != 0)).length == text.length) = true) (h : Q (.int n s.toks) { s with toks := s.toks + 1 }) :
    wpAny M A ((int_private% "intFromText") v text 2) Q E s := by
  obtain ⟨hp, g, d, tk, os⟩ := s
  repeat (any_goals (first | assumption | (with_reducible refine wpAny_ite_true (decide_eq_true hs) ?_) | (with_reducible refine wpAny_ite_true (decide_eq_true ha) ?_) | wp_step))
  all_goals (try rw [hr])
  all_goals (try dsimp only)
  repeat (any_goals (first | assumption | (with_reducible refine wpAny_ite_true (decide_eq_true ha) ?_) | wp_step))

def textOk (x : Str) (n : Int) : Prop := (numSeenOf x).length ≤ 640 ∧ (int_private% "readNumeral") 0 2 (numSeenOf x) = (int_private% "Numeral.value") n ∧ ((numSeenOf x).length == (numTextOf x).length) = true

set_option maxHeartbeats 4000000 in
theorem gives_text2 {x : Str} {u v : Tok} {n : Int} (hk : textOk x n) : Gives (Builtin.«int.__new__» ⟨[.type "int", .str x u, .int 2 v], []⟩) (.int n) :=
  .of_wp fun M A E s Q h => by
    obtain ⟨hp, g, d, tk, os⟩ := s
    have f1 := F.conv_sub_int
    have f2 := F.madeHere_int
    have f6 : typeOf (.str x u) = pure (.type "str") := rfl
    repeat (any_goals (first | assumption | ((with_reducible show wpAny _ _ ((int_private% "intFromText") _ _ _) _ _ _); refine wp_text2 hk.1 hk.2.1 hk.2.2 ?_) | wp_step))
    all_goals first | exact ⟨_, rfl, h⟩

theorem call_text2 {prog : Program} {w : World} {A : Around} {E : Value → Shared → Prop} {s : Shared} {x : Str} {t u : Tok} {n : Int} {Q : Value → Shared → Prop} (hk : textOk x n)
    (h : Q (.int n s.toks) { s with toks := s.toks + 1 }) : wpAny (model prog w) A (call (.type "int") [.str x t, .int 2 u]) Q E s :=
  callType_new F.called_int F.newNe_int (typeCall_int_2 _ _) (newCall_int_2 _ _) (fun obj => F.args_object_init_3 obj _ _) F.entry_int_new (gives_text2 (u := t) (v := u) hk).meets (show (Made.int n).post _ s from ⟨rfl, h⟩)
end Mine

namespace Mine
open PySem.Calls

def binT (k : Int) : Str := baseText "0b" 2 k
def cutT (k : Int) : Str := Txt.slice (binT k) (some 2) none
def padT (k : Int) : Str := Txt.zfill (cutT k) 7
def revT (k : Int) : Str := Txt.sliceBy (padT k) none none (-1, 0)
theorem revT_tok (k : Int) (u : Tok) : Txt.sliceBy (padT k) none none (-1, u) = revT k := rfl

def numOf? (x : int_private% "Numeral") : Option Int := (int_private% "Numeral.casesOn") (motive := fun _ => Option Int) x none (fun _ => none) none (fun i => some i)
theorem numOf_val {x : int_private% "Numeral"} {n : Int} (h : numOf? x = some n) : x = (int_private% "Numeral.value") n := by
  cases x <;> simp [numOf?] at h <;> (subst h; rfl)
def brV (k : Int) : Int := (numOf? ((int_private% "readNumeral") 0 2 (numSeenOf (revT k)))).getD 0

theorem br_all : ∀ k : Fin 128, Builtin.bitAnd (k.val : Int) 127 = (k.val : Int) ∧ (binT k.val).length ≤ sizeLine ∧ (cutT k.val).length ≤ sizeLine ∧ (padT k.val).length ≤ sizeLine ∧
    (numSeenOf (revT k.val)).length ≤ 640 ∧ ((numSeenOf (revT k.val)).length == (numTextOf (revT k.val)).length) = true ∧
    numOf? ((int_private% "readNumeral") 0 2 (numSeenOf (revT k.val))) = some (brV k.val) ∧ 0 ≤ brV k.val := by decide +kernel
end Mine
namespace Mine
theorem br_at {k : Int} (h0 : 0 ≤ k) (h1 : k < 128) : Builtin.bitAnd k 127 = k ∧ (binT k).length ≤ sizeLine ∧ (cutT k).length ≤ sizeLine ∧ (padT k).length ≤ sizeLine ∧ textOk (revT k) (brV k) ∧ 0 ≤ brV k := by
  have h := br_all ⟨k.toNat, by omega⟩
  have e : ((k.toNat : Nat) : Int) = k := by omega
  simp only [e] at h
  obtain ⟨a, b, c, d, f, g, i, j⟩ := h
  exact ⟨a, b, c, d, ⟨f, numOf_val i, g⟩, j⟩
section
variable {prog : Program} {w : World} {A : Around} {E : Value → Shared → Prop} {s : Shared} {h₀ : Heap} {L : Addr} {m : Str → Option Value} {news : List (Addr × Obj)} {k a : Int} {t u : Tok} {Q : Value → Shared → Prop} {value slice : Expr}
theorem br_bin (e : a = Builtin.bitAnd k 127) (h0 : 0 ≤ k) (h1 : k < 128) (h : Q (.str (binT k) s.toks) { s with toks := s.toks + 1 }) : wpAny (model prog w) A (call (.builtin "bin") [.int a t]) Q E s := by
  subst e
  rw [(br_at h0 h1).1]
  exact P.bin_of_int (hsz := (br_at h0 h1).2.1) h
theorem br_cut (h0 : 0 ≤ k) (h1 : k < 128) (F : Fr h₀ L s.heap m) (N : News h₀ L s.heap news) (h : ∀ h' t' c, Fr h₀ L h' m → News h₀ L h' news → Q (.str (cutT k) t') { s with heap := h', toks := c })
    (hs : ∀ x : Str, subscripted slice false (.str x t) (.ref s.heap.objs.size) = operate [.ref s.heap.objs.size, .str x t] (getItem (.str x t) (.ref s.heap.objs.size)))
    (ht : ∀ (x : Str) r, letTemporaryGo value (.str x t) r = pure ()) :
    wpAny (model prog w) A (subscriptTail value slice (.str (binT k) t) (.ref s.heap.objs.size)) Q E { s with heap := s.heap.push { cls := .type "slice", data := .fields #[.int 2 u, .none, .none] } } :=
  slice_strN_sn (x := binT k) F N h (hs _) (ht _) (br_at h0 h1).2.1
theorem br_pad (h : ∀ t' c, Q (.str (padT k) t') { s with toks := c }) : wpAny (model prog w) A (call (.builtin "str.zfill") [.str (cutT k) t, .int 7 u]) Q E s :=
  SC.zfill (by decide +kernel) h
theorem br_rev {uk : Tok} (h0 : 0 ≤ k) (h1 : k < 128) (F : Fr h₀ L s.heap m) (N : News h₀ L s.heap news) (h : ∀ h' t' c, Fr h₀ L h' m → News h₀ L h' news → Q (.str (revT k) t') { s with heap := h', toks := c })
    (hs : ∀ x : Str, subscripted slice false (.str x t) (.ref s.heap.objs.size) = operate [.ref s.heap.objs.size, .str x t] (getItem (.str x t) (.ref s.heap.objs.size)))
    (ht : ∀ (x : Str) r, letTemporaryGo value (.str x t) r = pure ()) :
    wpAny (model prog w) A (subscriptTail value slice (.str (padT k) t) (.ref s.heap.objs.size)) Q E { s with heap := s.heap.push { cls := .type "slice", data := .fields #[.none, .none, .int (-1) uk] } } :=
  slice_strK_nn (x := padT k) F N (by decide) h (hs _) (ht _) (br_at h0 h1).2.2.2.1
theorem br_num (h0 : 0 ≤ k) (h1 : k < 128) (h : Q (.int (brV k) s.toks) { s with toks := s.toks + 1 }) : wpAny (model prog w) A (call (.type "int") [.str (revT k) t, .int 2 u]) Q E s :=
  call_text2 (br_at h0 h1).2.2.2.2.1 h
theorem br_pow {v : Tok} (h0 : 0 ≤ k) (h1 : k < 128) (h : Q (.int ((Builtin.powMod 17 (brV k).natAbs 3329 : Nat) : Int) s.toks) { s with toks := s.toks + 1 }) : wpAny (model prog w) A (call (.builtin "pow") [.int 17 t, .int (brV k) u, .int 3329 v]) Q E s :=
  call_pow17 (br_at h0 h1).2.2.2.2.2 h
end
end Mine

namespace Mine
open PySem.Calls

structure RowOk (ns : List Int) : Prop where
  len : ns.length = 256
  bnd : ∀ x ∈ ns, 0 ≤ x ∧ x < 3329

theorem row_done {a : Int} {n : Nat} {g : Int → Int} {Fin : List Value → List (Addr × Obj) → Prop} {news : List (Addr × Obj)} (hb : ∀ k, 0 ≤ g k ∧ g k < 3329) (hn : n = 256)
    (h : KPfDone (∀ ys ns, IntsAre ys ns → RowOk ns → Fin ys news)) : KPfDone (∀ ys, IntsAre ys ((rangeKs a n).map g) → Fin ys news) := by
  subst hn
  intro ys hy
  refine h ys _ hy ⟨by rw [List.length_map, rangeKs_length], fun x hx => ?_⟩
  obtain ⟨k, _, rfl⟩ := List.mem_map.mp hx
  exact hb k

def cell (ns : List Int) (k : Int) : Int := if k < (ns.length : Int) then (if ns.getD k.toNat 0 < 0 then -ns.getD k.toNat 0 else ns.getD k.toNat 0) else 7 * k + 3
theorem row_some {ys : List Value} {a : Int} {g : Int → Int} (hI : IntsAre ys ((rangeKs a ((256 : Int) - 0).toNat).map g)) (hb : ∀ k, 0 ≤ g k ∧ g k < 3329) : ∃ ns, IntsAre ys ns ∧ RowOk ns := by
  refine ⟨_, hI, ⟨by rw [List.length_map, rangeKs_length]; rfl, fun x hx => ?_⟩⟩
  obtain ⟨k, _, rfl⟩ := List.mem_map.mp hx
  exact hb k

section
variable {prog : Program} {w : World} {A : Around} {E : Value → Shared → Prop} {s : Shared} {h₀ : Heap} {L : Addr} {m : Str → Option Value} {news : List (Addr × Obj)} {t : Tok}

theorem store_gen {x : Str} {v : Int} {env : Env} {Q : Unit → Shared → Prop} (h : ∀ d, 1 ≤ d → d ≤ 11 → wpAny (model prog w) A (storeName env x (.int d t)) Q E s) :
    wpAny (model prog w) A (storeName env x (.int (1 + Int.fmod v 11) t)) Q E s :=
  h _ (by have := fmod_lo v (n := 11) (by decide); omega) (by have := fmod_hi v (n := 11) (by decide); omega)

theorem pw_bits {d : Int} (h : d ≤ 11) : Builtin.Int.intBits ((2 : Int) ^ d.toNat) ≤ 64 := by
  have e : d.toNat ≤ 11 := by omega
  have h2 : (2 : Nat) ^ d.toNat ≤ 2 ^ 11 := Nat.pow_le_pow_right (by decide) e
  have e3 : ((2 : Int) ^ d.toNat) = ((2 ^ d.toNat : Nat) : Int) := by simp
  rw [e3]
  generalize (2 : Nat) ^ d.toNat = z at h2 ⊢
  exact intBits_le_64 (by omega) (by omega)
theorem mul_pwl {d k : Int} {u : Tok} {Q : Value → Shared → Prop} (h1 : d ≤ 11) (h : Q (.int (1 * 2 ^ d.toNat * k) s.toks) { s with toks := s.toks + 1 }) : wpAny (model prog w) A (binaryOp .Mult (.int (1 * 2 ^ d.toNat) t) (.int k u)) Q E s :=
  mul_int h (IntMulOk.of_left (by rw [Int.one_mul]; exact pw_bits h1))
theorem mul_pwr {d k : Int} {u : Tok} {Q : Value → Shared → Prop} (h1 : d ≤ 11) (h : Q (.int (k * 2 ^ d.toNat) s.toks) { s with toks := s.toks + 1 }) : wpAny (model prog w) A (binaryOp .Mult (.int k t) (.int (2 ^ d.toNat) u)) Q E s :=
  mul_int h (IntMulOk.of_right (pw_bits h1))
def RowJoin (h₀ : Heap) (L : Addr) (m : Str → Option Value) (p : Addr × Obj) (s : Shared) (fl : Flow) (s' : Shared) : Prop :=
  ∃ D ys ns h tk, fl = .next ∧ s' = { s with heap := h, toks := tk } ∧ Fr h₀ L h (fun z => if z = Str.ofString "row" then some (.ref D) else m z) ∧ News h₀ L h [(D, LCg.lst ys), p] ∧ (@Ne Nat p.1 D) ∧ IntsAre ys ns ∧ RowOk ns

theorem row_join {M : Model} {T : Sem Flow} {Q : Flow → Shared → Prop} {D : Addr} {ys : List Value} {x1 x2 x3 x4 x5 : Addr × Obj} {a : Addr} {o : Obj}
    (hF0 : Fr h₀ L s.heap m) (hN0 : News h₀ L s.heap [(D, LCg.lst ys), x1, x2, x3, x4, x5, (a, o)]) (h1 : wpAny M A T (RowJoin h₀ L m (a, o) s) E s)
    (h2 : ∀ D' ys' ns' h' tk', Fr h₀ L h' (fun z => if z = Str.ofString "row" then some (.ref D') else m z) → News h₀ L h' [(D', LCg.lst ys'), (a, o)] → (@Ne Nat a D') → IntsAre ys' ns' → RowOk ns' → Q .next { s with heap := h', toks := tk' }) :
    wpAny M A T Q E s :=
  wpAny_mono h1 (fun fl s' h => by
    obtain ⟨D', ys', ns', h', tk', rfl, rfl, F, N, o, I, R⟩ := h
    exact h2 D' ys' ns' h' tk' F N o I R) fun _ _ e => e
theorem fr_same {h : Heap} {D : Addr} (F : Fr h₀ L h m) (e : m (Str.ofString "row") = some (.ref D)) : Fr h₀ L h (fun z => if z = Str.ofString "row" then some (.ref D) else m z) := by
  have q : (fun z => if z = Str.ofString "row" then some (.ref D) else m z) = m := by
    funext z
    by_cases hz : z = Str.ofString "row"
    · rw [if_pos hz, hz, e]
    · rw [if_neg hz]
  rw [q]
  exact F
theorem two_of {p q : Addr × Obj} {rest : List (Addr × Obj)} {h : Heap} (N : News h₀ L h (q :: rest)) (hp : p ∈ rest) : News h₀ L h [q, p] := fun x hx => N x (by
  rcases List.mem_cons.mp hx with rfl | hx
  · exact List.mem_cons_self
  · rw [List.mem_singleton.mp hx]; exact List.mem_cons_of_mem _ hp)
theorem join_skip {ys : List Value} {ns : List Int} {D : Addr} {h : Heap} {tk : Nat} {p : Addr × Obj} {rest : List (Addr × Obj)} (F : Fr h₀ L h m) (e : m (Str.ofString "row") = some (.ref D)) (N : News h₀ L h ((D, LCg.lst ys) :: rest)) (hp : p ∈ rest) (o : @Ne Nat p.1 D) (I : IntsAre ys ns) (R : RowOk ns) :
    RowJoin h₀ L m p s .next { s with heap := h, toks := tk } := ⟨D, ys, ns, h, tk, rfl, rfl, fr_same F e, two_of N hp, o, I, R⟩
theorem join_take {ys : List Value} {ns : List Int} {D : Addr} {h : Heap} {tk : Nat} {p : Addr × Obj} {rest : List (Addr × Obj)} (F : Fr h₀ L h (fun z => if z = Str.ofString "row" then some (.ref D) else m z)) (N : News h₀ L h ((D, LCg.lst ys) :: rest)) (hp : p ∈ rest) (o : @Ne Nat p.1 D) (I : IntsAre ys ns) (R : RowOk ns) :
    RowJoin h₀ L m p s .next { s with heap := h, toks := tk } := ⟨D, ys, ns, h, tk, rfl, rfl, F, two_of N hp, o, I, R⟩
end

section
variable {prog : Program} {w : World} {A : Around} {h₀ : Heap} {L : Addr} {m : Str → Option Value} {env : Env} {elt : Expr} {x : Str} {scope : Scope} {cl : List (Str × Addr)} {s : Shared} {S : List (Addr × Obj) → Prop} {Fin : List Value → List (Addr × Obj) → Prop} {news : List (Addr × Obj)}
theorem row_list {vs : List Value} {ns : List Int} (g : Int → Int) (hi : IntsAre vs ns) (R : RowOk ns)
    (turn : ∀ k t I oI C oC D m₂ ys h tk (E' : Value → Shared → Prop), k ∈ ns → 0 ≤ k → k < 3329 → LCg.NsObj oC m₂ → m₂ x = some (.int k t) → Fr h₀ L h m → News h₀ L h ((I, oI) :: (C, oC) :: (D, LCg.lst ys) :: news) → LCg.Off3 I C D news → ((@Ne Nat I C) ∧ (@Ne Nat I D) ∧ (@Ne Nat C D)) → KPfMark →
      wpAny (model prog w) A (eval elt (compEnvC scope cl C env)) (LCg.CompEnd h₀ L m { s with heap := h, toks := tk } I oI C oC D (LCg.lst ys) S (fun y news' => KCfEl news (g k) y news')) E' { s with heap := h, toks := tk })
    (fin : KPfDone (∀ ys, IntsAre ys (ns.map g) → Fin ys news)) : LCg.CompRest prog w A h₀ L m env elt x scope cl s S (fun i v => vs.toArray[i]? = some v) Fin vs.toArray.size 0 [] news :=
  kcf_list g hi (fun k t I oI C oC D m₂ ys h tk E' hk => turn k t I oI C oC D m₂ ys h tk E' hk (R.bnd k hk).1 (R.bnd k hk).2) fin
end
end Mine

namespace Mine
def near (n p : Int) : Int := if p ≤ 2 * (n - p * n.fdiv p) then n.fdiv p + 1 else n.fdiv p
def cmpE (d k : Int) : Int := ((1 * 2 ^ d.toNat * k + 1664).fdiv 3329).fmod (1 * 2 ^ d.toNat)
def decE (d k : Int) : Int := (3329 * k + 1 * 2 ^ (d - 1).toNat).fdiv (2 ^ d.toNat)

theorem d_cases {P : Int → Prop} {d : Int} (h1 : 1 ≤ d) (h2 : d ≤ 11) (h : P 1 ∧ P 2 ∧ P 3 ∧ P 4 ∧ P 5 ∧ P 6 ∧ P 7 ∧ P 8 ∧ P 9 ∧ P 10 ∧ P 11) : P d := by
  obtain ⟨a, b, c, e, f, g, i, j, k, l, m⟩ := h
  have : d = 1 ∨ d = 2 ∨ d = 3 ∨ d = 4 ∨ d = 5 ∨ d = 6 ∨ d = 7 ∨ d = 8 ∨ d = 9 ∨ d = 10 ∨ d = 11 := by omega
  rcases this with rfl | rfl | rfl | rfl | rfl | rfl | rfl | rfl | rfl | rfl | rfl <;> assumption

theorem pw_vals : (2 : Int) ^ (Int.toNat 1) = 2 ∧ (2 : Int) ^ (Int.toNat 2) = 4 ∧ (2 : Int) ^ (Int.toNat 3) = 8 ∧ (2 : Int) ^ (Int.toNat 4) = 16 ∧ (2 : Int) ^ (Int.toNat 5) = 32 ∧ (2 : Int) ^ (Int.toNat 6) = 64 ∧
    (2 : Int) ^ (Int.toNat 7) = 128 ∧ (2 : Int) ^ (Int.toNat 8) = 256 ∧ (2 : Int) ^ (Int.toNat 9) = 512 ∧ (2 : Int) ^ (Int.toNat 10) = 1024 ∧ (2 : Int) ^ (Int.toNat 11) = 2048 := by decide

/-- the power as a number with its half: t = 2 * (t / 2), t one of eleven -/
def Pw (d t u : Int) : Prop := (2 : Int) ^ d.toNat = t ∧ (2 : Int) ^ (d - 1).toNat = u ∧ (2 : Int) ^ (d + 1).toNat = 2 * t
theorem pw_of {d : Int} (h1 : 1 ≤ d) (h2 : d ≤ 11) : ∃ t u : Int, Pw d t u ∧ ((t = 2 ∧ u = 1) ∨ (t = 4 ∧ u = 2) ∨ (t = 8 ∧ u = 4) ∨ (t = 16 ∧ u = 8) ∨ (t = 32 ∧ u = 16) ∨ (t = 64 ∧ u = 32) ∨ (t = 128 ∧ u = 64) ∨ (t = 256 ∧ u = 128) ∨ (t = 512 ∧ u = 256) ∨ (t = 1024 ∧ u = 512) ∨ (t = 2048 ∧ u = 1024)) := by
  refine d_cases (P := fun d => ∃ t u : Int, Pw d t u ∧ ((t = 2 ∧ u = 1) ∨ (t = 4 ∧ u = 2) ∨ (t = 8 ∧ u = 4) ∨ (t = 16 ∧ u = 8) ∨ (t = 32 ∧ u = 16) ∨ (t = 64 ∧ u = 32) ∨ (t = 128 ∧ u = 64) ∨ (t = 256 ∧ u = 128) ∨ (t = 512 ∧ u = 256) ∨ (t = 1024 ∧ u = 512) ∨ (t = 2048 ∧ u = 1024))) h1 h2 ⟨?_, ?_, ?_, ?_, ?_, ?_, ?_, ?_, ?_, ?_, ?_⟩
  · exact ⟨2, 1, by unfold Pw; decide, by decide⟩
  · exact ⟨4, 2, by unfold Pw; decide, by decide⟩
  · exact ⟨8, 4, by unfold Pw; decide, by decide⟩
  · exact ⟨16, 8, by unfold Pw; decide, by decide⟩
  · exact ⟨32, 16, by unfold Pw; decide, by decide⟩
  · exact ⟨64, 32, by unfold Pw; decide, by decide⟩
  · exact ⟨128, 64, by unfold Pw; decide, by decide⟩
  · exact ⟨256, 128, by unfold Pw; decide, by decide⟩
  · exact ⟨512, 256, by unfold Pw; decide, by decide⟩
  · exact ⟨1024, 512, by unfold Pw; decide, by decide⟩
  · exact ⟨2048, 1024, by unfold Pw; decide, by decide⟩

section
variable {d k t u : Int}
theorem cmp_at (P : Pw d t u) (ht : 0 < t) : cmpE d k = ((t * k + 1664) / 3329) % t := by
  unfold cmpE
  rw [P.1, Int.one_mul, Int.fdiv_eq_ediv_of_nonneg _ (by decide), Int.fmod_eq_emod_of_nonneg _ (by omega)]
theorem dec_at (P : Pw d t u) (ht : 0 < t) : decE d k = (3329 * k + u) / t := by
  unfold decE
  rw [P.1, P.2.1, Int.one_mul, Int.fdiv_eq_ediv_of_nonneg _ (by omega)]
theorem near_at {n p : Int} (hp : 0 < p) : near n p = if p ≤ 2 * (n - p * (n / p)) then n / p + 1 else n / p := by
  unfold near
  rw [Int.fdiv_eq_ediv_of_nonneg _ (by omega)]

theorem div_lo (n : Int) {t : Int} (ht : 0 < t) : t * (n / t) ≤ n := Int.mul_ediv_self_le (by omega)
theorem div_hi (n : Int) {t : Int} (ht : 0 < t) : n < t * (n / t) + t := Int.lt_mul_ediv_self_add ht
theorem near_half {n t u : Int} (h : t = 2 * u) (hu : 0 < u) : near n t = (n + u) / t := by
  rw [near_at (by omega)]
  have a := div_lo n (t := t) (by omega)
  have b := div_hi n (t := t) (by omega)
  split
  · symm
    rw [Int.ediv_eq_iff_of_pos (by omega)]
    rw [Int.add_mul, Int.mul_comm (n / t) t]
    omega
  · symm
    rw [Int.ediv_eq_iff_of_pos (by omega)]
    rw [Int.mul_comm (n / t) t]
    omega
theorem pw_half {d : Int} (h1 : 1 ≤ d) (h2 : d ≤ 11) : ∃ t u : Int, Pw d t u ∧ t = 2 * u ∧ 1 ≤ u ∧ u ≤ 1024 := by
  obtain ⟨t, u, P, h⟩ := pw_of h1 h2
  exact ⟨t, u, P, by omega, by omega, by omega⟩
theorem dec_near (h1 : 1 ≤ d) (h2 : d ≤ 11) : near (3329 * k) (2 ^ d.toNat) = decE d k := by
  obtain ⟨t, u, P, h, h3, _⟩ := pw_half h1 h2
  rw [dec_at P (by omega), P.1, near_half h (by omega)]
theorem cmp_near (h1 : 1 ≤ d) (h2 : d ≤ 11) : (near (k * 2 ^ d.toNat) 3329).fmod (2 ^ d.toNat) = cmpE d k := by
  obtain ⟨t, u, P, h, h3, _⟩ := pw_half h1 h2
  rw [cmp_at P (by omega), P.1, near_at (by omega), Int.fmod_eq_emod_of_nonneg _ (by omega)]
  congr 1
  rw [Int.mul_comm k t]
  generalize t * k = z
  split <;> omega
theorem cmp_rng (h1 : 1 ≤ d) (h2 : d ≤ 11) : 0 ≤ cmpE d k ∧ cmpE d k < 2048 := by
  obtain ⟨t, u, P, h, h3, _⟩ := pw_half h1 h2
  rw [cmp_at P (by omega)]
  have a := Int.emod_nonneg ((t * k + 1664) / 3329) (b := t) (by omega)
  have b := Int.emod_lt_of_pos ((t * k + 1664) / 3329) (b := t) (by omega)
  omega
theorem round_trip (h1 : 1 ≤ d) (h2 : d ≤ 11) (k : Int) : cmpE d (decE d (cmpE d k)) = cmpE d k := by
  obtain ⟨t, u, P, h, h3, h4⟩ := pw_half h1 h2
  rw [dec_at P (by omega), cmp_at P (by omega), cmp_at P (by omega)]
  have a := Int.emod_nonneg ((t * k + 1664) / 3329) (b := t) (by omega)
  have b := Int.emod_lt_of_pos ((t * k + 1664) / 3329) (b := t) (by omega)
  generalize (t * k + 1664) / 3329 % t = c at a b ⊢
  have e := div_lo (3329 * c + u) (t := t) (by omega)
  have f := div_hi (3329 * c + u) (t := t) (by omega)
  generalize t * ((3329 * c + u) / t) = z at e f ⊢
  have g : (z + 1664) / 3329 = c := by omega
  rw [g, Int.emod_eq_of_lt a b]
theorem far_le (h1 : 1 ≤ d) (h2 : d ≤ 11) (h3 : 0 ≤ k) (h4 : k < 3329) : min ((decE d (cmpE d k) - k).fmod 3329) (3329 - (decE d (cmpE d k) - k).fmod 3329) ≤ ((3329 : Int) + 2 ^ d.toNat).fdiv ((2 : Int) ^ (d + 1).toNat) := by
  obtain ⟨t, u, P, h, h5, h6⟩ := pw_half h1 h2
  rw [dec_at P (by omega), cmp_at P (by omega), P.1, P.2.2, Int.fmod_eq_emod_of_nonneg _ (by decide), Int.fdiv_eq_ediv_of_nonneg _ (by omega)]
  have a := Int.emod_nonneg ((t * k + 1664) / 3329) (b := t) (by omega)
  have b := Int.emod_lt_of_pos ((t * k + 1664) / 3329) (b := t) (by omega)
  have m1 : t * k ≤ t * 3328 := Int.mul_le_mul_of_nonneg_left (by omega) (by omega)
  have m0 : 0 ≤ t * k := Int.mul_nonneg (by omega) h3
  have hy : 0 ≤ (t * k + 1664) / 3329 ∧ (t * k + 1664) / 3329 ≤ t := by omega
  have hc : (t * k + 1664) / 3329 % t = (t * k + 1664) / 3329 ∨ ((t * k + 1664) / 3329 = t ∧ (t * k + 1664) / 3329 % t = 0) := by
    by_cases q : (t * k + 1664) / 3329 = t
    · right; exact ⟨q, by rw [q, Int.emod_self]⟩
    · left; exact Int.emod_eq_of_lt hy.1 (by omega)
  have y1 : 3329 * ((t * k + 1664) / 3329) ≤ t * k + 1664 := by omega
  have y2 : t * k + 1664 < 3329 * ((t * k + 1664) / 3329) + 3329 := by omega
  generalize (t * k + 1664) / 3329 = y at a b hy hc y1 y2 ⊢
  generalize y % t = c at a b hc ⊢
  have e := div_lo (3329 * c + u) (t := t) (by omega)
  have f := div_hi (3329 * c + u) (t := t) (by omega)
  generalize (3329 * c + u) / t = r at e f ⊢
  have M (v : Int) (hv : 2 * (t * v) ≤ 3329 + t) : v ≤ (3329 + t) / (2 * t) := by
    refine Int.le_ediv_of_mul_le (by omega) ?_
    rw [show v * (2 * t) = 2 * (t * v) by rw [Int.mul_comm, Int.mul_assoc]]
    exact hv
  rcases hc with hc | ⟨hc, hc'⟩
  · subst hc
    have s1 : t * (r - k) = t * r - t * k := Int.mul_sub t r k
    have s2 : t * (k - r) = t * k - t * r := Int.mul_sub t k r
    have v1 := M (r - k) (by omega)
    have v2 := M (k - r) (by omega)
    omega
  · subst hc'
    have r0 : r = 0 := by
      have z1 : t * r < t * 1 := by omega
      have z2 : r < 1 := Int.lt_of_mul_lt_mul_left z1 (by omega)
      have z3 : t * (-1) < t * r := by omega
      have z4 : -1 < r := Int.lt_of_mul_lt_mul_left z3 (by omega)
      omega
    subst r0
    have s1 : t * (3329 - k) = t * 3329 - t * k := Int.mul_sub t 3329 k
    have v1 := M (3329 - k) (by omega)
    omega
theorem far_le' (h1 : 1 ≤ d) (h2 : d ≤ 11) (h3 : 0 ≤ k) (h4 : k < 3329) : (if 3329 - (decE d (cmpE d k) - k).fmod 3329 < (decE d (cmpE d k) - k).fmod 3329 then 3329 - (decE d (cmpE d k) - k).fmod 3329 else (decE d (cmpE d k) - k).fmod 3329) ≤ ((3329 : Int) + 2 ^ d.toNat).fdiv ((2 : Int) ^ (d + 1).toNat) := by
  have h := far_le h1 h2 h3 h4
  split <;> omega
end
end Mine

namespace Mine
open PySem.Calls
theorem pw_rng {d : Int} (h1 : 1 ≤ d) (h2 : d ≤ 11) : 0 < (2 : Int) ^ d.toNat ∧ (2 : Int) ^ d.toNat < 5000 := by
  obtain ⟨t, u, P, h, h3, h4⟩ := pw_half h1 h2
  rw [P.1]
  omega
theorem cmp_fold {ys : List Value} {ns : List Int} {d : Int} (h : IntsAre ys (ns.map (fun k => ((1 * 2 ^ d.toNat * k + 1664).fdiv 3329).fmod (1 * 2 ^ d.toNat)))) : IntsAre ys (ns.map (cmpE d)) := h
theorem dec_fold {ys : List Value} {ns : List Int} {d : Int} (h : IntsAre ys (ns.map (fun k => (3329 * k + 1 * 2 ^ (d - 1).toNat).fdiv (2 ^ d.toNat)))) : IntsAre ys (ns.map (decE d)) := h
theorem rt_fold {ys : List Value} {ns : List Int} {d : Int} (h1 : 1 ≤ d) (h2 : d ≤ 11) (h : IntsAre ys (List.map (cmpE d) (List.map (decE d) (List.map (cmpE d) ns)))) : IntsAre ys (ns.map (cmpE d)) := by
  have e : List.map (cmpE d) (List.map (decE d) (List.map (cmpE d) ns)) = ns.map (cmpE d) := by
    rw [List.map_map, List.map_map]
    exact List.map_congr_left fun k _ => round_trip h1 h2 k
  rwa [e] at h
theorem place_in {a n : Int} {m : Nat} {g : Int → Int} (h : n ∈ (rangeKs a m).map g ++ [0, 255]) (hb : ∀ k, 0 ≤ g k ∧ g k < 256) : 0 ≤ n ∧ n < 256 := by
  rcases List.mem_append.mp h with h | h
  · obtain ⟨k, _, rfl⟩ := List.mem_map.mp h
    exact hb k
  · rcases List.mem_cons.mp h with rfl | h
    · decide
    · rw [List.mem_singleton.mp h]; decide
theorem row_at {ns : List Int} {k : Int} (R : RowOk ns) (h0 : 0 ≤ k) (h1 : k < 256) : 0 ≤ ns.getD k.toNat 0 ∧ ns.getD k.toNat 0 < 3329 := by
  have hl := R.len
  have hk : k.toNat < ns.length := by omega
  rw [List.getD_eq_getElem?_getD, List.getElem?_eq_getElem hk]
  exact R.bnd _ (List.getElem_mem hk)
theorem map_at {ns : List Int} {f : Int → Int} {k : Int} (hn : ns.length = 256) (h0 : 0 ≤ k) (h1 : k < 256) : (ns.map f).getD k.toNat 0 = f (ns.getD k.toNat 0) := by
  have hk : k.toNat < ns.length := by omega
  rw [List.getD_eq_getElem?_getD, List.getD_eq_getElem?_getD, List.getElem?_map, List.getElem?_eq_getElem hk]
  rfl
section
variable {prog : Program} {w : World} {A : Around} {E : Value → Shared → Prop} {s : Shared} {t u : Tok} {d x a b : Int}
theorem store_due {y : Str} {env : Env} {Q : Unit → Shared → Prop} (h1 : 1 ≤ d) (h2 : d ≤ 11) (h : wpAny (model prog w) A (storeName env y (.int (cmpE d x) t)) Q E s) :
    wpAny (model prog w) A (storeName env y (.int (Int.fmod (near (x * 2 ^ d.toNat) 3329) (2 ^ d.toNat)) t)) Q E s := by
  rw [cmp_near h1 h2]
  exact h
theorem ne_no {Q : Value → Shared → Prop} (e : a = b) (h : Q (.bool false) s) : wpAny (model prog w) A (compareOp .NotEq (.int a t) (.int b u)) Q E s :=
  ne_int (by
    have q : (a != b) = false := by rw [e]; exact bne_self_eq_false' ..
    rw [q]; exact h)
theorem gt_no {Q : Value → Shared → Prop} (e : a ≤ b) (h : Q (.bool false) s) : wpAny (model prog w) A (compareOp .Gt (.int a t) (.int b u)) Q E s :=
  gt_int (by
    have q : decide (a > b) = false := decide_eq_false (by omega)
    rw [q]; exact h)
theorem item_ints' {value slice : Expr} {l : Addr} {vs : List Value} {ns : List Int} {k : Int} {Q : Value → Shared → Prop} (hl : s.heap.IsList l vs.toArray) (hi : IntsAre vs ns)
    (h0 : 0 ≤ k) (h1 : k < ns.length) (hfit : k < 2 ^ 63) (h : ∀ t, Q (.int (ns.getD k.toNat 0) t) s)
    (hs : subscripted slice false (.ref l) (.int k u) = operate [.ref l, .int k u] (getItem (.ref l) (.int k u))) :
    wpAny (model prog w) A (subscriptTail value slice (.ref l) (.int k u)) Q E s := by
  obtain ⟨t, hx⟩ := hi.get k.toNat _ (ints_getD h0 h1)
  exact tail_any hl.typeIs slot_list_getitem.lookup (wpAny_getItem_list hl h0 hfit (by simpa using hx) (h t)) hs
theorem it_row {value slice : Expr} {l : Addr} {vs : List Value} {ns : List Int} {k : Int} {Q : Value → Shared → Prop} (hl : s.heap.IsList l vs.toArray) (hi : IntsAre vs ns) (R : RowOk ns) (hp : 0 ≤ k ∧ k < 256)
    (h : ∀ t, 0 ≤ ns.getD k.toNat 0 → ns.getD k.toNat 0 < 3329 → Q (.int (ns.getD k.toNat 0) t) s)
    (hs : subscripted slice false (.ref l) (.int k u) = operate [.ref l, .int k u] (getItem (.ref l) (.int k u)) := by with_unfolding_all rfl) :
    wpAny (model prog w) A (subscriptTail value slice (.ref l) (.int k u)) Q E s :=
  item_ints' hl hi hp.1 (by rw [R.len]; exact hp.2) (by omega) (fun t => h t (row_at R hp.1 hp.2).1 (row_at R hp.1 hp.2).2) hs
theorem it_map {value slice : Expr} {l : Addr} {vs : List Value} {ns : List Int} {f : Int → Int} {k : Int} {Q : Value → Shared → Prop} (hl : s.heap.IsList l vs.toArray) (hi : IntsAre vs (ns.map f)) (hn : ns.length = 256) (hp : 0 ≤ k ∧ k < 256)
    (h : ∀ t, Q (.int (f (ns.getD k.toNat 0)) t) s)
    (hs : subscripted slice false (.ref l) (.int k u) = operate [.ref l, .int k u] (getItem (.ref l) (.int k u)) := by with_unfolding_all rfl) :
    wpAny (model prog w) A (subscriptTail value slice (.ref l) (.int k u)) Q E s :=
  item_ints' hl hi hp.1 (by rw [List.length_map, hn]; exact hp.2) (by omega) (fun t => by rw [map_at hn hp.1 hp.2]; exact h t) hs
theorem it_map2 {value slice : Expr} {l : Addr} {vs : List Value} {ns : List Int} {f g : Int → Int} {k : Int} {Q : Value → Shared → Prop} (hl : s.heap.IsList l vs.toArray) (hi : IntsAre vs (List.map g (List.map f ns))) (hn : ns.length = 256) (hp : 0 ≤ k ∧ k < 256)
    (h : ∀ t, Q (.int (g (f (ns.getD k.toNat 0))) t) s)
    (hs : subscripted slice false (.ref l) (.int k u) = operate [.ref l, .int k u] (getItem (.ref l) (.int k u)) := by with_unfolding_all rfl) :
    wpAny (model prog w) A (subscriptTail value slice (.ref l) (.int k u)) Q E s :=
  it_map hl hi (by rw [List.length_map]; exact hn) hp (fun t => by rw [map_at hn hp.1 hp.2]; exact h t) hs
end
end Mine

local macro_rules | `(tactic| walk_at "getMethod ref") => `(tactic| (k_here; (with_reducible show wpAny _ _ (getMethod (Value.ref _) (PySem.Str.ofString "_br") _) _ _ _); k_dflt (refine' kmu_sm ?k1 ?k2 ?k4 ?k5 ?k6 ?k7 ?k8 ?k9 ?k10 ?k11 ?k12 ?k13 ?k14 ?_; (case k1 => k_asm); (case k2 => k_asm); (case k4 => k_inst); (case k5 => k_is); (case k6 => k_is); (case k7 => k_is); (case k8 => k_is); (case k9 => k_is); (case k10 => k_is); (case k11 => decide +kernel); (case k12 => k_get); (case k13 => k_is); (case k14 => k_handed); k_whole)))
local macro_rules | `(tactic| walk_at "call builtin:bin") => `(tactic| (k_here; (with_unfolding_all refine' Mine.br_bin ?e ?a ?b ?_; (case e => exact rfl); (case a => first | assumption | omega); (case b => first | assumption | omega))))
local macro_rules | `(tactic| walk_at "subscriptTail Call Name cons nil Slice str ref") => `(tactic| (k_here; (with_reducible show wpAny _ _ (subscriptTail _ _ (Value.str (Mine.binT _) _) (Value.ref _)) _ _ _); k_dflt ((dsimp only); refine' Mine.br_cut (s := ⟨_, _, _, _, _⟩) ?k1 ?k2 ?k3 ?k4 ?_ ?k5 ?k6; (case k1 => first | assumption | omega); (case k2 => first | assumption | omega); (case k3 => k_asm); (case k4 => k_asm); (case k5 => (intro _; with_unfolding_all rfl)); (case k6 => (intro _ _; with_unfolding_all rfl)); k_whole); intro h' t' tk' F' N'))
local macro_rules | `(tactic| walk_at "call builtin:str.zfill") => `(tactic| (k_here; (with_reducible show wpAny _ _ (call (Value.builtin "str.zfill") [Value.str (Mine.cutT _) _, Value.int _ _]) _ _ _); k_dflt (refine' Mine.br_pad ?_; k_whole); intro _ _))
local macro_rules | `(tactic| walk_at "subscriptTail Name Slice str ref") => `(tactic| (k_here; (with_reducible show wpAny _ _ (subscriptTail _ _ (Value.str (Mine.padT _) _) (Value.ref _)) _ _ _); k_dflt ((dsimp only); refine' Mine.br_rev (s := ⟨_, _, _, _, _⟩) ?k1 ?k2 ?k3 ?k4 ?_ ?k5 ?k6; (case k1 => first | assumption | omega); (case k2 => first | assumption | omega); (case k3 => k_asm); (case k4 => k_asm); (case k5 => (intro _; with_unfolding_all rfl)); (case k6 => (intro _ _; with_unfolding_all rfl)); k_whole); intro h' t' tk' F' N'))
local macro_rules | `(tactic| walk_at "call type:int") => `(tactic| (k_here; (with_reducible show wpAny _ _ (call (Value.type "int") [Value.str (Mine.revT _) _, Value.int _ _]) _ _ _); k_dflt (refine' Mine.br_num ?k1 ?k2 ?_; (case k1 => first | assumption | omega); (case k2 => first | assumption | omega); k_whole)))
local macro_rules | `(tactic| walk_at "call builtin:pow") => `(tactic| (k_here; (with_reducible show wpAny _ _ (call (Value.builtin "pow") [_, Value.int (Mine.brV _) _, _]) _ _ _); k_dflt (refine' Mine.br_pow ?k1 ?k2 ?_; (case k1 => first | assumption | omega); (case k2 => first | assumption | omega); k_whole)))
local macro_rules | `(tactic| walk_at "call builtin:pow") => `(tactic| (k_here; k_dflt (refine' Mine.call_inv ?_; k_whole)))
local macro_rules | `(tactic| walk_at "storeName int") => `(tactic| (k_here; (with_reducible show wpAny _ _ (storeName _ _ (Value.int (1 + Int.fmod _ 11) _)) _ _ _); k_dflt (refine' Mine.store_gen ?_; k_whole); intro d' hd1' hd2'; (have hpw' := Mine.pw_rng hd1' hd2')))
local macro_rules | `(tactic| walk_at "FinE") => `(tactic| (k_here; (with_reducible rename IntsAre _ (List.map _ (rangeKs _ (Int.toNat (256 - 0)))) => hI9); obtain ⟨ns', hI', hR'⟩ := Mine.row_some hI9 (by intro k; (try dsimp only); (repeat' split) <;> exact ⟨fmod_lo _ (by decide), fmod_hi _ (by decide)⟩); clear hI9; (have hn' := Mine.RowOk.len hR'); (have hv' := PyProof.Rows.IntsAre.length hI'); walk_at "FinE"))
local macro_rules | `(tactic| walk_at "FinA") => `(tactic| (k_here; (with_reducible rename IntsAre _ (List.map _ (rangeKs _ (Int.toNat (256 - 0)))) => hI9); obtain ⟨ns', hI', hR'⟩ := Mine.row_some hI9 (by intro k; (try dsimp only); (repeat' split) <;> exact ⟨fmod_lo _ (by decide), fmod_hi _ (by decide)⟩); clear hI9; (have hn' := Mine.RowOk.len hR'); (have hv' := PyProof.Rows.IntsAre.length hI'); walk_at "FinA"))
local macro_rules | `(tactic| walk_at "call builtin:isinstance cons nil") => `(tactic| (k_here; (with_reducible show wpAny _ _ (call _ [Value.ref _, Value.type _]) _ _ _); k_dflt (refine' kia_one kitx_list ?X ?c ?ee ?nb ?_; (case c => kit_at); (case X => k_in); (case ee => kit_is); (case nb => kit_nb); k_whole; intro _)))
local macro_rules | `(tactic| walk_at "exec If Compare cons nil") => `(tactic| (k_here; (with_reducible show wpAny _ _ (exec (Stmt.If _ [Stmt.Assign [Expr.Name _ _] (Expr.ListComp _ _ _ _) _] [] _) _) _ _ _); (fail_if_success (with_reducible show wpAny _ _ _ (Mine.RowJoin _ _ _ _ _) _ _)); k_dflt (refine' Mine.row_join ?kF ?kN ?kh1 ?kh2; (case kF => k_asm); (case kN => k_asm)); rotate_left; intro D' ys' ns' h' tk' F' N' ne' hI' hR'; (have hn' := Mine.RowOk.len hR'); (have hv' := PyProof.Rows.IntsAre.length hI'); rotate_right))
local macro_rules | `(tactic| walk_at "RowJoin") => `(tactic| (k_here; k_dflt (first
  | (refine' Mine.join_take ?kF ?kN ?kp ?ko ?kI ?kR; (case kF => k_asm); (case kN => k_asm); (case kp => k_mem); (case ko => k_ne); (case kI => assumption); (case kR => assumption))
  | (refine' Mine.join_skip ?kF ?ke ?kN ?kp ?ko ?kI ?kR; (case kF => k_asm); (case ke => rfl); (case kN => k_asm); (case kp => k_mem); (case ko => k_ne); (case kI => assumption); (case kR => assumption)))))
local macro_rules | `(tactic| walk_at "eval ListComp Call cons") => `(tactic| (k_here; (with_reducible show wpAny _ _ (eval (Expr.ListComp _ [⟨_, Expr.Attribute _ _ _, [], 0⟩] _ _) _) _ _ _); k_dflt (refine LCg.ListComp_U (F₀ := by k_asm) (by with_unfolding_all rfl) (by decide) (by rfl) (by decide) (by rfl) ?_)))
local macro_rules | `(tactic| walk_at "CompSrc Attribute cons ref") => `(tactic| (k_here; k_dflt (refine LCg.CompSrc.ledger (by rfl) (by k_asm) (by k_asm) (by k_mem) (by kcf_size) ?_; intro g'; (refine' Mine.row_list _ (by assumption) (by assumption) (fun k' t' I' oI' C' oC' D' m' ys' h' tk' E' hk' hlo' hhi' hC' hx' F' N' off' ne' hMark' => ?_) ?_); (all_goals (try (simp only [LCg.Off3, and_true] at off'))); kcf_last)))
local macro_rules | `(tactic| walk_at "binaryOp Mult int int") => `(tactic| (k_here; (with_reducible show wpAny _ _ (binaryOp _ (Value.int (1 * 2 ^ Int.toNat _) _) (Value.int _ _)) _ _ _); k_dflt (refine' Mine.mul_pwl ?k1 ?_; (case k1 => first | assumption | omega); k_whole)))
local macro_rules | `(tactic| walk_at "binaryOp Mult int int") => `(tactic| (k_here; (with_reducible show wpAny _ _ (binaryOp _ (Value.int _ _) (Value.int (2 ^ Int.toNat _) _)) _ _ _); k_dflt (refine' Mine.mul_pwr ?k1 ?_; (case k1 => first | assumption | omega); k_whole)))
local macro_rules | `(tactic| walk_at "storeName int") => `(tactic| (k_here; (with_reducible show wpAny _ _ (storeName _ _ (Value.int (Int.fmod (Mine.near (_ * 2 ^ (Int.toNat _)) 3329) (2 ^ (Int.toNat _))) _)) _ _ _); k_dflt (refine' Mine.store_due ?k1 ?k2 ?_; (case k1 => assumption); (case k2 => assumption); k_whole)))
local macro_rules | `(tactic| walk_at "compareOp NotEq int int") => `(tactic| (k_here; k_dflt (refine' Mine.ne_no ?k1 ?_; (case k1 => first | with_reducible rfl | exact (Mine.dec_near (by assumption) (by assumption)).symm); k_whole)))
local macro_rules | `(tactic| walk_at "compareOp Gt int int") => `(tactic| (k_here; (with_reducible show wpAny _ _ (compareOp _ (Value.int (ite _ _ _) _) _) _ _ _); k_dflt (refine' Mine.gt_no ?k1 ?_; (case k1 => exact Mine.far_le' (by assumption) (by assumption) (by assumption) (by assumption)); k_whole)))
local macro_rules | `(tactic| walk_at "subscriptTail Name Name ref int") => `(tactic| (k_here; (with_reducible show wpAny _ _ (subscriptTail _ _ (Value.ref _) (Value.int _ _)) _ _ _); k_dflt (first
  | (refine' Mine.it_map2 ?k1 ?k2 ?k3 ?k4 ?_; (case k1 => is_list); (case k2 => with_reducible assumption); (case k3 => assumption); (case k4 => assumption); k_whole; intro _)
  | (refine' Mine.it_map ?k1 ?k2 ?k3 ?k4 ?_; (case k1 => is_list); (case k2 => with_reducible assumption); (case k3 => assumption); (case k4 => assumption); k_whole; intro _)
  | (refine' Mine.it_row ?k1 ?k2 ?k3 ?k4 ?_; (case k1 => is_list); (case k2 => with_reducible assumption); (case k3 => assumption); (case k4 => assumption); k_whole; intro _ hx0' hx1'))))
local macro_rules | `(tactic| walk_at "subscriptTail Attribute") => `(tactic| (k_here; (with_reducible show wpAny _ _ (subscriptTail _ _ (Value.ref _) (Value.int _ _)) _ _ _); k_dflt (first
  | (refine' Mine.it_map2 ?k1 ?k2 ?k3 ?k4 ?_; (case k1 => is_list); (case k2 => with_reducible assumption); (case k3 => assumption); (case k4 => assumption); k_whole; intro _)
  | (refine' Mine.it_map ?k1 ?k2 ?k3 ?k4 ?_; (case k1 => is_list); (case k2 => with_reducible assumption); (case k3 => assumption); (case k4 => assumption); k_whole; intro _))))
local macro_rules | `(tactic| walk_at "FinE") => `(tactic| (k_here; (with_reducible rename IntsAre _ (List.map _ _) => hI9); (first
  | ((with_reducible have hI' := Mine.cmp_fold hI9); clear hI9; (try ((with_reducible have hI9 := Mine.rt_fold (by assumption) (by assumption) hI'); clear hI')))
  | ((with_reducible have hI' := Mine.dec_fold hI9); clear hI9)); unfold LCg.FinE; intro D' h' tk' F' N' o1'; (try simp only [LCg.Off1, and_true] at o1'); (try simp only [List.nil_append, List.cons_append] at N'); (try dsimp only)))
local macro_rules | `(tactic| k_ne) => `(tactic| (refine neN ?_; (try dsimp only); (repeat (with_reducible rename (@Ne Nat _ _ ∧ _) => hz9; obtain ⟨hz8, hz7⟩ := hz9)); first | with_reducible assumption | (refine Ne.symm ?_; with_reducible assumption) | ((repeat (with_reducible rename (@Ne Nat _ _) => hz9; clear hz9)); omega)))

/- These nine names are taken so that the library lays no second, quick form of nine large state constants of the walk below:
   those forms would bring the compiled file to 80 MB. Nothing uses these definitions. -/
def Mine.main.tw7516246723972051057 : Unit := ()
def Mine.main.tw11156056980113079860 : Unit := ()
def Mine.main.tw13412803265214061177 : Unit := ()
def Mine.main.tw2277872845677661160 : Unit := ()
def Mine.main.tw4000297624352050223 : Unit := ()
def Mine.main.tw12784055721772562989 : Unit := ()
def Mine.main.tw1082519908427967789 : Unit := ()
def Mine.main.tw16940794065300538585 : Unit := ()
def Mine.main.tw12677648124622752472 : Unit := ()

set_option Elab.async true in
set_option maxRecDepth 100000 in
set_option maxHeartbeats 8000000 in
theorem Mine.main : PySem.Challenge.rw_yi0037_01.Holds := by
  (k_with "tree" => simp only [Mine.cell, Mine.near])
  (k_with "call ref" => k_call_by "_law_cell" Mine.cell (fun (_ : List Int) (k : Int) => 0 ≤ k))
  (k_with "call ref" => k_call_by "_law_near" Mine.near (fun (_ p : Int) => 0 < p ∧ p < 5000))
  (k_with "pyIter ref" => (k_search (fun (_ : List Int) => True); have hPl' := Mine.place_in kMem (by intro k; exact ⟨fmod_lo _ (by decide), fmod_hi _ (by decide)⟩)))
  open_k

theorem PySem.Challenge.cw_yi0037_01_holds : PySem.Challenge.rw_yi0037_01.Holds := by
  exact Mine.main
